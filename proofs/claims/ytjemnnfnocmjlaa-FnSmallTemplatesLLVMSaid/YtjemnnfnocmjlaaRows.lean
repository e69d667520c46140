/-
  No cell of these rows narrows 'for every input' (looked for: loops, veiled, ifaces, maps, wideKeys, modest, calm, conditions, laid).
  DERIVED. THE GIVEN ROWS OF THIS SEAT. 9 by the template 'for every input the law returns true; each argument reads behind the call as it read before'; 0 by the template 'total and deterministic' (their statements: YtjemnnfnocmjlaaTotals.lean).
  GIVEN WITH THE SEED: the statements are not yours to turn. If you find one false, say at which input.
  Laid BY PROGRAM, IN A SANDBOX (cutbox-rows.mjs): the forced cells as the released guide's own fill.sh prints them over the translation 57c03b50df7bb620… (all of the seat's roots in one cut). By AI agents, Wed Nov 11 2026. No macro, syntax, notation, axiom, sorry.
-/
import Derived.Test.YtjemnnfnocmjlaaChecked
import GoSem.Claim
import GoSem.ClaimJoined
import GoSem.ClaimMapViews
import Derived.JoinedTies
import Derived.KernelRfl
namespace Go.Proofs.Ytjemnnfnocmjlaa
/- THE CELL 'sum', in the pinned program and in every row, IS THE sha256 OF THE DUMP (.gsa) THAT YtjemnnfnocmjlaaProg.lean LOADS. Nothing in Lean hashes anything: it is a label: what it is worth is what the hold of that sum in a sandbox is worth. -/
noncomputable def Try.pinned : Pinned := { name := "ytjemnnfnocmjlaa", sum := "57c03b50df7bb620477b1cd51a2170960573cd458862951dc2533d0592286d37", checked := Try.checked }
namespace Rows
def none {H : Type} : Left H := { results := [], args := [] }

/-- 'laws.FnSmallClone': WHATEVER THE INPUT: true; the input reads as it did. -/
def fnSmallCloneSpec : ChangeSpec := { name := "fnSmallClone", fn := fun _ => fun
  | [d1, d2] => { results := [.lit (.bool true)], args := [d1, d2] }
  | _ => none }
def fnSmallCloneRow : OpenClaim := { program := "ytjemnnfnocmjlaa", sum := "57c03b50df7bb620477b1cd51a2170960573cd458862951dc2533d0592286d37", func := "loop.example/pub-g01448/laws.FnSmallClone", spec := "fnSmallClone", unfollowed := true, recurses := true, apart := false }
def FnSmallCloneSaid : Prop := fnSmallCloneRow.holds Try.pinned (OpenSpec.ofChange fnSmallCloneSpec)

/-- ITS FALSE NEIGHBOUR: 'it returns false'. Refute it at one input. -/
def fnSmallCloneWrong : ChangeSpec := { name := "fnSmallClone", fn := fun _ => fun
  | [d1, d2] => { results := [.lit (.bool false)], args := [d1, d2] }
  | _ => none }
def FnSmallCloneWrongFalsely : Prop := fnSmallCloneRow.holds Try.pinned (OpenSpec.ofChange fnSmallCloneWrong)

/-- 'laws.FnSmallLiteral': WHATEVER THE INPUT: true; the input reads as it did. -/
def fnSmallLiteralSpec : ChangeSpec := { name := "fnSmallLiteral", fn := fun _ => fun
  | [d1, d2] => { results := [.lit (.bool true)], args := [d1, d2] }
  | _ => none }
def fnSmallLiteralRow : OpenClaim := { program := "ytjemnnfnocmjlaa", sum := "57c03b50df7bb620477b1cd51a2170960573cd458862951dc2533d0592286d37", func := "loop.example/pub-g01448/laws.FnSmallLiteral", spec := "fnSmallLiteral", unfollowed := true, recurses := true, apart := false }
def FnSmallLiteralSaid : Prop := fnSmallLiteralRow.holds Try.pinned (OpenSpec.ofChange fnSmallLiteralSpec)

/-- ITS FALSE NEIGHBOUR: 'it returns false'. Refute it at one input. -/
def fnSmallLiteralWrong : ChangeSpec := { name := "fnSmallLiteral", fn := fun _ => fun
  | [d1, d2] => { results := [.lit (.bool false)], args := [d1, d2] }
  | _ => none }
def FnSmallLiteralWrongFalsely : Prop := fnSmallLiteralRow.holds Try.pinned (OpenSpec.ofChange fnSmallLiteralWrong)

/-- 'laws.FnSmallClosure': WHATEVER THE INPUT: true; the input reads as it did. -/
def fnSmallClosureSpec : ChangeSpec := { name := "fnSmallClosure", fn := fun _ => fun
  | [d1, d2] => { results := [.lit (.bool true)], args := [d1, d2] }
  | _ => none }
def fnSmallClosureRow : OpenClaim := { program := "ytjemnnfnocmjlaa", sum := "57c03b50df7bb620477b1cd51a2170960573cd458862951dc2533d0592286d37", func := "loop.example/pub-g01448/laws.FnSmallClosure", spec := "fnSmallClosure", unfollowed := true, recurses := true, apart := false }
def FnSmallClosureSaid : Prop := fnSmallClosureRow.holds Try.pinned (OpenSpec.ofChange fnSmallClosureSpec)

/-- ITS FALSE NEIGHBOUR: 'it returns false'. Refute it at one input. -/
def fnSmallClosureWrong : ChangeSpec := { name := "fnSmallClosure", fn := fun _ => fun
  | [d1, d2] => { results := [.lit (.bool false)], args := [d1, d2] }
  | _ => none }
def FnSmallClosureWrongFalsely : Prop := fnSmallClosureRow.holds Try.pinned (OpenSpec.ofChange fnSmallClosureWrong)

/-- 'laws.FnSmallScopesJoin': WHATEVER THE INPUT: true; the input reads as it did. -/
def fnSmallScopesJoinSpec : ChangeSpec := { name := "fnSmallScopesJoin", fn := fun _ => fun
  | [d1, d2, d3] => { results := [.lit (.bool true)], args := [d1, d2, d3] }
  | _ => none }
def fnSmallScopesJoinRow : OpenClaim := { program := "ytjemnnfnocmjlaa", sum := "57c03b50df7bb620477b1cd51a2170960573cd458862951dc2533d0592286d37", func := "loop.example/pub-g01448/laws.FnSmallScopesJoin", spec := "fnSmallScopesJoin", unfollowed := true, recurses := true, apart := false }
def FnSmallScopesJoinSaid : Prop := fnSmallScopesJoinRow.holds Try.pinned (OpenSpec.ofChange fnSmallScopesJoinSpec)

/-- ITS FALSE NEIGHBOUR: 'it returns false'. Refute it at one input. -/
def fnSmallScopesJoinWrong : ChangeSpec := { name := "fnSmallScopesJoin", fn := fun _ => fun
  | [d1, d2, d3] => { results := [.lit (.bool false)], args := [d1, d2, d3] }
  | _ => none }
def FnSmallScopesJoinWrongFalsely : Prop := fnSmallScopesJoinRow.holds Try.pinned (OpenSpec.ofChange fnSmallScopesJoinWrong)

/-- 'laws.FnSmallMaker': WHATEVER THE INPUT: true; the input reads as it did. -/
def fnSmallMakerSpec : ChangeSpec := { name := "fnSmallMaker", fn := fun _ => fun
  | [d] => { results := [.lit (.bool true)], args := [d] }
  | _ => none }
def fnSmallMakerRow : OpenClaim := { program := "ytjemnnfnocmjlaa", sum := "57c03b50df7bb620477b1cd51a2170960573cd458862951dc2533d0592286d37", func := "loop.example/pub-g01448/laws.FnSmallMaker", spec := "fnSmallMaker", unfollowed := true, recurses := true, apart := false }
def FnSmallMakerSaid : Prop := fnSmallMakerRow.holds Try.pinned (OpenSpec.ofChange fnSmallMakerSpec)

/-- ITS FALSE NEIGHBOUR: 'it returns false'. Refute it at one input. -/
def fnSmallMakerWrong : ChangeSpec := { name := "fnSmallMaker", fn := fun _ => fun
  | [d] => { results := [.lit (.bool false)], args := [d] }
  | _ => none }
def FnSmallMakerWrongFalsely : Prop := fnSmallMakerRow.holds Try.pinned (OpenSpec.ofChange fnSmallMakerWrong)

/-- 'laws.FnSmallArrays': WHATEVER THE INPUT: true; the input reads as it did. -/
def fnSmallArraysSpec : ChangeSpec := { name := "fnSmallArrays", fn := fun _ => fun
  | [d1, d2] => { results := [.lit (.bool true)], args := [d1, d2] }
  | _ => none }
def fnSmallArraysRow : OpenClaim := { program := "ytjemnnfnocmjlaa", sum := "57c03b50df7bb620477b1cd51a2170960573cd458862951dc2533d0592286d37", func := "loop.example/pub-g01448/laws.FnSmallArrays", spec := "fnSmallArrays", unfollowed := true, recurses := true, apart := false }
def FnSmallArraysSaid : Prop := fnSmallArraysRow.holds Try.pinned (OpenSpec.ofChange fnSmallArraysSpec)

/-- ITS FALSE NEIGHBOUR: 'it returns false'. Refute it at one input. -/
def fnSmallArraysWrong : ChangeSpec := { name := "fnSmallArrays", fn := fun _ => fun
  | [d1, d2] => { results := [.lit (.bool false)], args := [d1, d2] }
  | _ => none }
def FnSmallArraysWrongFalsely : Prop := fnSmallArraysRow.holds Try.pinned (OpenSpec.ofChange fnSmallArraysWrong)

/-- 'laws.FnSmallSeldom': WHATEVER THE INPUT: true; the input reads as it did. -/
def fnSmallSeldomSpec : ChangeSpec := { name := "fnSmallSeldom", fn := fun _ => fun
  | [d1, d2, d3] => { results := [.lit (.bool true)], args := [d1, d2, d3] }
  | _ => none }
def fnSmallSeldomRow : OpenClaim := { program := "ytjemnnfnocmjlaa", sum := "57c03b50df7bb620477b1cd51a2170960573cd458862951dc2533d0592286d37", func := "loop.example/pub-g01448/laws.FnSmallSeldom", spec := "fnSmallSeldom", unfollowed := true, recurses := true, apart := false }
def FnSmallSeldomSaid : Prop := fnSmallSeldomRow.holds Try.pinned (OpenSpec.ofChange fnSmallSeldomSpec)

/-- ITS FALSE NEIGHBOUR: 'it returns false'. Refute it at one input. -/
def fnSmallSeldomWrong : ChangeSpec := { name := "fnSmallSeldom", fn := fun _ => fun
  | [d1, d2, d3] => { results := [.lit (.bool false)], args := [d1, d2, d3] }
  | _ => none }
def FnSmallSeldomWrongFalsely : Prop := fnSmallSeldomRow.holds Try.pinned (OpenSpec.ofChange fnSmallSeldomWrong)

/-- 'laws.FnSmallPointersJoin': WHATEVER THE INPUT: true; the input reads as it did. -/
def fnSmallPointersJoinSpec : ChangeSpec := { name := "fnSmallPointersJoin", fn := fun _ => fun
  | [d1, d2] => { results := [.lit (.bool true)], args := [d1, d2] }
  | _ => none }
def fnSmallPointersJoinRow : OpenClaim := { program := "ytjemnnfnocmjlaa", sum := "57c03b50df7bb620477b1cd51a2170960573cd458862951dc2533d0592286d37", func := "loop.example/pub-g01448/laws.FnSmallPointersJoin", spec := "fnSmallPointersJoin", unfollowed := true, recurses := true, apart := false }
def FnSmallPointersJoinSaid : Prop := fnSmallPointersJoinRow.holds Try.pinned (OpenSpec.ofChange fnSmallPointersJoinSpec)

/-- ITS FALSE NEIGHBOUR: 'it returns false'. Refute it at one input. -/
def fnSmallPointersJoinWrong : ChangeSpec := { name := "fnSmallPointersJoin", fn := fun _ => fun
  | [d1, d2] => { results := [.lit (.bool false)], args := [d1, d2] }
  | _ => none }
def FnSmallPointersJoinWrongFalsely : Prop := fnSmallPointersJoinRow.holds Try.pinned (OpenSpec.ofChange fnSmallPointersJoinWrong)

/-- 'laws.FnSmallTemplatesLLVM': WHATEVER THE INPUT: true; the input reads as it did. -/
def fnSmallTemplatesLLVMSpec : ChangeSpec := { name := "fnSmallTemplatesLLVM", fn := fun _ => fun
  | [d1, d2, d3] => { results := [.lit (.bool true)], args := [d1, d2, d3] }
  | _ => none }
def fnSmallTemplatesLLVMRow : OpenClaim := { program := "ytjemnnfnocmjlaa", sum := "57c03b50df7bb620477b1cd51a2170960573cd458862951dc2533d0592286d37", func := "loop.example/pub-g01448/laws.FnSmallTemplatesLLVM", spec := "fnSmallTemplatesLLVM", unfollowed := true, recurses := true, apart := false }
def FnSmallTemplatesLLVMSaid : Prop := fnSmallTemplatesLLVMRow.holds Try.pinned (OpenSpec.ofChange fnSmallTemplatesLLVMSpec)

/-- ITS FALSE NEIGHBOUR: 'it returns false'. Refute it at one input. -/
def fnSmallTemplatesLLVMWrong : ChangeSpec := { name := "fnSmallTemplatesLLVM", fn := fun _ => fun
  | [d1, d2, d3] => { results := [.lit (.bool false)], args := [d1, d2, d3] }
  | _ => none }
def FnSmallTemplatesLLVMWrongFalsely : Prop := fnSmallTemplatesLLVMRow.holds Try.pinned (OpenSpec.ofChange fnSmallTemplatesLLVMWrong)

/- THE SECOND FORM. 'bulk': how many values and letters a reading holds, each counted each time it is reached (what is shared counts as often as it is met; a slice's spare places count too). A statement '..UptoSaid' is the law's where the arguments, and the package variables that the reading takes, are together of bulk at most 1048576: NARROWER than '..Said'. Prove '..Said' where nothing that the law and all that it calls make is longer than what came in: it says more and counts as full. Else prove '..UptoSaid'. A law counts once. -/
mutual
def uptoBulk {H : Type} : DataW H → Nat
  | .lit (.string bytes) => bytes.length + 1
  | .lit _ => 1
  | .nil => 1
  | .ptr d => uptoBulk d + 1
  | .slice elems spare => uptoBulkAll elems + uptoBulkAll spare + 1
  | .agg parts => uptoBulkAll parts + 1
  | .iface _ d => uptoBulk d + 1
  | .map entries => uptoBulkEntries entries + 1
  | .held _ => 1
def uptoBulkAll {H : Type} : List (DataW H) → Nat
  | [] => 0
  | d :: r => uptoBulk d + uptoBulkAll r
def uptoBulkEntries {H : Type} : List (Lit × DataW H) → Nat
  | [] => 0
  | x :: r => uptoBulkEntry x + uptoBulkEntries r
def uptoBulkEntry {H : Type} : Lit × DataW H → Nat
  | (.string bytes, d) => bytes.length + uptoBulk d + 1
  | (_, d) => uptoBulk d + 1
 end
def uptoSmall : (H : Type) → List (DataW H) → Bool := fun _ ds => decide (uptoBulkAll ds ≤ 1048576)
def OpenSpec.upto (s : _root_.Go.ChangeSpec) : _root_.Go.OpenSpec := { _root_.Go.OpenSpec.ofChange s with cond := some uptoSmall }

/-- 'laws.FnSmallClone', WHERE WHAT IT READS IS OF BULK AT MOST 1048576: true; the input reads as it did. -/
def fnSmallCloneUptoRow : OpenClaim := { program := "ytjemnnfnocmjlaa", sum := "57c03b50df7bb620477b1cd51a2170960573cd458862951dc2533d0592286d37", func := "loop.example/pub-g01448/laws.FnSmallClone", spec := "fnSmallClone", unfollowed := true, recurses := true, apart := false, narrowed := true }
def FnSmallCloneUptoSaid : Prop := fnSmallCloneUptoRow.holds Try.pinned (OpenSpec.upto fnSmallCloneSpec)

/-- 'laws.FnSmallLiteral', WHERE WHAT IT READS IS OF BULK AT MOST 1048576: true; the input reads as it did. -/
def fnSmallLiteralUptoRow : OpenClaim := { program := "ytjemnnfnocmjlaa", sum := "57c03b50df7bb620477b1cd51a2170960573cd458862951dc2533d0592286d37", func := "loop.example/pub-g01448/laws.FnSmallLiteral", spec := "fnSmallLiteral", unfollowed := true, recurses := true, apart := false, narrowed := true }
def FnSmallLiteralUptoSaid : Prop := fnSmallLiteralUptoRow.holds Try.pinned (OpenSpec.upto fnSmallLiteralSpec)

/-- 'laws.FnSmallClosure', WHERE WHAT IT READS IS OF BULK AT MOST 1048576: true; the input reads as it did. -/
def fnSmallClosureUptoRow : OpenClaim := { program := "ytjemnnfnocmjlaa", sum := "57c03b50df7bb620477b1cd51a2170960573cd458862951dc2533d0592286d37", func := "loop.example/pub-g01448/laws.FnSmallClosure", spec := "fnSmallClosure", unfollowed := true, recurses := true, apart := false, narrowed := true }
def FnSmallClosureUptoSaid : Prop := fnSmallClosureUptoRow.holds Try.pinned (OpenSpec.upto fnSmallClosureSpec)

/-- 'laws.FnSmallScopesJoin', WHERE WHAT IT READS IS OF BULK AT MOST 1048576: true; the input reads as it did. -/
def fnSmallScopesJoinUptoRow : OpenClaim := { program := "ytjemnnfnocmjlaa", sum := "57c03b50df7bb620477b1cd51a2170960573cd458862951dc2533d0592286d37", func := "loop.example/pub-g01448/laws.FnSmallScopesJoin", spec := "fnSmallScopesJoin", unfollowed := true, recurses := true, apart := false, narrowed := true }
def FnSmallScopesJoinUptoSaid : Prop := fnSmallScopesJoinUptoRow.holds Try.pinned (OpenSpec.upto fnSmallScopesJoinSpec)

/-- 'laws.FnSmallMaker', WHERE WHAT IT READS IS OF BULK AT MOST 1048576: true; the input reads as it did. -/
def fnSmallMakerUptoRow : OpenClaim := { program := "ytjemnnfnocmjlaa", sum := "57c03b50df7bb620477b1cd51a2170960573cd458862951dc2533d0592286d37", func := "loop.example/pub-g01448/laws.FnSmallMaker", spec := "fnSmallMaker", unfollowed := true, recurses := true, apart := false, narrowed := true }
def FnSmallMakerUptoSaid : Prop := fnSmallMakerUptoRow.holds Try.pinned (OpenSpec.upto fnSmallMakerSpec)

/-- 'laws.FnSmallArrays', WHERE WHAT IT READS IS OF BULK AT MOST 1048576: true; the input reads as it did. -/
def fnSmallArraysUptoRow : OpenClaim := { program := "ytjemnnfnocmjlaa", sum := "57c03b50df7bb620477b1cd51a2170960573cd458862951dc2533d0592286d37", func := "loop.example/pub-g01448/laws.FnSmallArrays", spec := "fnSmallArrays", unfollowed := true, recurses := true, apart := false, narrowed := true }
def FnSmallArraysUptoSaid : Prop := fnSmallArraysUptoRow.holds Try.pinned (OpenSpec.upto fnSmallArraysSpec)

/-- 'laws.FnSmallSeldom', WHERE WHAT IT READS IS OF BULK AT MOST 1048576: true; the input reads as it did. -/
def fnSmallSeldomUptoRow : OpenClaim := { program := "ytjemnnfnocmjlaa", sum := "57c03b50df7bb620477b1cd51a2170960573cd458862951dc2533d0592286d37", func := "loop.example/pub-g01448/laws.FnSmallSeldom", spec := "fnSmallSeldom", unfollowed := true, recurses := true, apart := false, narrowed := true }
def FnSmallSeldomUptoSaid : Prop := fnSmallSeldomUptoRow.holds Try.pinned (OpenSpec.upto fnSmallSeldomSpec)

/-- 'laws.FnSmallPointersJoin', WHERE WHAT IT READS IS OF BULK AT MOST 1048576: true; the input reads as it did. -/
def fnSmallPointersJoinUptoRow : OpenClaim := { program := "ytjemnnfnocmjlaa", sum := "57c03b50df7bb620477b1cd51a2170960573cd458862951dc2533d0592286d37", func := "loop.example/pub-g01448/laws.FnSmallPointersJoin", spec := "fnSmallPointersJoin", unfollowed := true, recurses := true, apart := false, narrowed := true }
def FnSmallPointersJoinUptoSaid : Prop := fnSmallPointersJoinUptoRow.holds Try.pinned (OpenSpec.upto fnSmallPointersJoinSpec)

/-- 'laws.FnSmallTemplatesLLVM', WHERE WHAT IT READS IS OF BULK AT MOST 1048576: true; the input reads as it did. -/
def fnSmallTemplatesLLVMUptoRow : OpenClaim := { program := "ytjemnnfnocmjlaa", sum := "57c03b50df7bb620477b1cd51a2170960573cd458862951dc2533d0592286d37", func := "loop.example/pub-g01448/laws.FnSmallTemplatesLLVM", spec := "fnSmallTemplatesLLVM", unfollowed := true, recurses := true, apart := false, narrowed := true }
def FnSmallTemplatesLLVMUptoSaid : Prop := fnSmallTemplatesLLVMUptoRow.holds Try.pinned (OpenSpec.upto fnSmallTemplatesLLVMSpec)

end Rows
end Go.Proofs.Ytjemnnfnocmjlaa
