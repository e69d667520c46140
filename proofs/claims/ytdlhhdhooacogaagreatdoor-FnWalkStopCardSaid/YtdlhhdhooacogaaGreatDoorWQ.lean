/-
  IsType at a type with qualifiers: behind a pointer.
-/
import Derived.Test.YtdlhhdhooacogaaGreatDoorWP
namespace Go.Proofs.YtdlhhdhooacogaaGreatDoor
open Go.RowKit

set_option maxRecDepth 100000 in
set_option maxHeartbeats 8000000 in
theorem isType_twq_ptr (d : Nat) (hT : Wk 38 Good d) (t : NT) (text : ByteArray) (a : Option Addr) (cap : Nat) (w : World) (h : NV w [.string ⟨#[84, 121, 112, 101, 87, 105, 116, 104, 81, 117, 97, 108, 105, 102, 105, 101, 114, 115]⟩, .string text, .int .i64 0, .slice a 2 cap] t) (ht : Tabs w) (hd : Dep (d + 1) t) (hte : text.toList.isEmpty = true) (hqp : ((t.kids.getD 0 default).kind.toList == [80, 111, 105, 110, 116, 101, 114, 84, 121, 112, 101]) = true) :
    Calls Tryz.prog 38 #[.agg #[.string ⟨#[84, 121, 112, 101, 87, 105, 116, 104, 81, 117, 97, 108, 105, 102, 105, 101, 114, 115]⟩, .string text, .int .i64 0, .slice a 2 cap]] w (SaysIf (Good t) w) := by
  obtain ⟨kids, rfl, hz1, hz2, hn, hm, hk⟩ := h.kids
  obtain ⟨k0, k1, rfl⟩ := two_of hn rfl
  have HD := Lib.hid (show ∀ k ∈ [k0, k1], Dep d k from hd)
  have HQF := Lib.hid (isQualified_of d hT)
  have HTE := Lib.hid hte
  obtain ⟨b, off, kd0, tx0, nm0, a0, n0, cap0, kd1, tx1, nm1, a1, n1, cap1, rfl, hx, hy⟩ := hk.two
  have qp : (kd0.toList == [80, 111, 105, 110, 116, 101, 114, 84, 121, 112, 101]) = true := by rw [← hx.nv.kindOf]; exact hqp
  clear hqp
  have HB0 := Lib.hid (box_at h)
  have HT0 := Lib.hid (ht.keep (below_new w (.cells #[.string ⟨#[84, 121, 112, 101, 87, 105, 116, 104, 81, 117, 97, 108, 105, 102, 105, 101, 114, 115]⟩, .string text, .int .i64 0, .slice (some ⟨b, off, none⟩) 2 cap] 24)))
  have HX0 := Lib.hid (hx.keep (below_new w (.cells #[.string ⟨#[84, 121, 112, 101, 87, 105, 116, 104, 81, 117, 97, 108, 105, 102, 105, 101, 114, 115]⟩, .string text, .int .i64 0, .slice (some ⟨b, off, none⟩) 2 cap] 24)))
  have HY0 := Lib.hid (hy.keep (below_new w (.cells #[.string ⟨#[84, 121, 112, 101, 87, 105, 116, 104, 81, 117, 97, 108, 105, 102, 105, 101, 114, 115]⟩, .string text, .int .i64 0, .slice (some ⟨b, off, none⟩) 2 cap] 24)))
  have HW0 := Lib.hid (below_new w (.cells #[.string ⟨#[84, 121, 112, 101, 87, 105, 116, 104, 81, 117, 97, 108, 105, 102, 105, 101, 114, 115]⟩, .string text, .int .i64 0, .slice (some ⟨b, off, none⟩) 2 cap] 24))
  clear hz1 hz2 hn hm hk hd hT ht h hx hy hte
  go_enter Tryz.func38, Tryz.ntmps38
  go_wp2_with fail
  generalize (w.alloc (.cells #[.string ⟨#[84, 121, 112, 101, 87, 105, 116, 104, 81, 117, 97, 108, 105, 102, 105, 101, 114, 115]⟩, .string text, .int .i64 0, .slice (some ⟨b, off, none⟩) 2 cap] 24)) = w0 at *
  obtain ⟨xb0, xb1, xb2, xb3⟩ := HB0.out.box
  go_region_with (first
    | (go_at_call 17; refine (plain_yes _ _ _ _ _ _ _ _ HTE.out rfl rfl).mono ?_; rintro e w1 ⟨rfl, hb1⟩
       have hb1 := undrew hb1
       have HB1 := Lib.hid (HB0.out.keep hb1)
       have HT1 := Lib.hid (HT0.out.keep hb1)
       have HX1 := Lib.hid (HX0.out.keep hb1)
       have HY1 := Lib.hid (HY0.out.keep hb1)
       have HW1 := Lib.hid (behind HW0.out hb1)
       obtain ⟨yb0, yb1, yb2, yb3⟩ := HB1.out.box
       obtain ⟨yX0, yX1, yX2, yX3⟩ := HX1.out.cells
       clear hb1 xb0 xb1 xb2 xb3)
    | (go_at_call 51; refine (HQF.out.at HX1.out HT1.out (HD.out k0 (by simp))).mono ?_; rintro e w2 ⟨b2, rfl, hp2, hb2⟩
       have HP2 := Lib.hid hp2
       have HB2 := Lib.hid (HB1.out.keep hb2)
       have HT2 := Lib.hid (HT1.out.keep hb2)
       have HX2 := Lib.hid (HX1.out.keep hb2)
       have HY2 := Lib.hid (HY1.out.keep hb2)
       have HW2 := Lib.hid (behind HW1.out hb2)
       obtain ⟨zb0, zb1, zb2, zb3⟩ := HB2.out.box
       obtain ⟨zX0, zX1, zX2, zX3⟩ := HX2.out.cells
       obtain ⟨zY0, zY1, zY2, zY3⟩ := HY2.out.cells
       clear hb2 hp2 yb0 yb1 yb2 yb3 yX0 yX1 yX2 yX3
       cases b2
       · go_wp2_with fail
         refine wpAny_take (i := 8) (v := .bool false) rfl (by kernel_rfl) (by kernel_rfl) (by kernel_rfl) (fun _ _ _ h => h) (.inl ⟨by kernel_rfl, fun _ => by kernel_rfl⟩) ?_
         refine wpAny_take (i := 9) (v := .bool false) rfl (by kernel_rfl) (by kernel_rfl) (by kernel_rfl) (fun _ _ _ h => h) (.inl ⟨by kernel_rfl, fun _ => by kernel_rfl⟩) ?_
         refine wpAny_take (i := 10) (v := undef) rfl (by kernel_rfl) (by kernel_rfl) (by kernel_rfl) (fun _ _ _ h => h) (.inr ⟨by kernel_rfl, rfl⟩) ?_
         refine wpAny_take (i := 11) (v := undef) rfl (by kernel_rfl) (by kernel_rfl) (by kernel_rfl) (fun _ _ _ h => h) (.inr ⟨by kernel_rfl, rfl⟩) ?_
         refine wpAny_take (i := 12) (v := undef) rfl (by kernel_rfl) (by kernel_rfl) (by kernel_rfl) (fun _ _ _ h => h) (.inr ⟨by kernel_rfl, rfl⟩) ?_
         refine wpAny_take (i := 13) (v := undef) rfl (by kernel_rfl) (by kernel_rfl) (by kernel_rfl) (fun _ _ _ h => h) (.inr ⟨by kernel_rfl, rfl⟩) ?_
         refine wpAny_take (i := 14) (v := undef) rfl (by kernel_rfl) (by kernel_rfl) (by kernel_rfl) (fun _ _ _ h => h) (.inr ⟨by kernel_rfl, rfl⟩) ?_
         refine wpAny_take (i := 15) (v := undef) rfl (by kernel_rfl) (by kernel_rfl) (by kernel_rfl) (fun _ _ _ h => h) (.inr ⟨by kernel_rfl, rfl⟩) ?_
         refine wpAny_take (i := 16) (v := undef) rfl (by kernel_rfl) (by kernel_rfl) (by kernel_rfl) (fun _ _ _ h => h) (.inr ⟨by kernel_rfl, rfl⟩) ?_
         refine wpAny_take (i := 17) (v := undef) rfl (by kernel_rfl) (by kernel_rfl) (by kernel_rfl) (fun _ _ _ h => h) (.inr ⟨by kernel_rfl, rfl⟩) ?_
         refine wpAny_take (i := 18) (v := undef) rfl (by kernel_rfl) (by kernel_rfl) (by kernel_rfl) (fun _ _ _ h => h) (.inr ⟨by kernel_rfl, rfl⟩) ?_
         refine wpAny_take (i := 19) (v := undef) rfl (by kernel_rfl) (by kernel_rfl) (by kernel_rfl) (fun _ _ _ h => h) (.inr ⟨by kernel_rfl, rfl⟩) ?_
         refine wpAny_take (i := 20) (v := undef) rfl (by kernel_rfl) (by kernel_rfl) (by kernel_rfl) (fun _ _ _ h => h) (.inr ⟨by kernel_rfl, rfl⟩) ?_
         refine wpAny_take (i := 21) (v := .bool false) rfl (by kernel_rfl) (by kernel_rfl) (by kernel_rfl) (fun _ _ _ h => h) (.inl ⟨by kernel_rfl, fun _ => by kernel_rfl⟩) ?_
         refine wpAny_take (i := 22) (v := .bool false) rfl (by kernel_rfl) (by kernel_rfl) (by kernel_rfl) (fun _ _ _ h => h) (.inl ⟨by kernel_rfl, fun _ => by kernel_rfl⟩) ?_
         refine wpAny_done (by kernel_rfl) ?_ _
         go_wp2_with fail
         go_simp
         go_ret
         exact .no HW2.out)
    | (go_at_call 39; refine (isQualifiers_yes k1 _ _ _ _ _ _ _ HY2.out.nv).mono ?_; rintro e w3 ⟨b3, rfl, hp3, hb3⟩
       have HP3 := Lib.hid hp3
       have HW3 := Lib.hid (behind HW2.out hb3)
       clear hb3 hp3 zb0 zb1 zb2 zb3 zX0 zX1 zX2 zX3 zY0 zY1 zY2 zY3))
  all_goals
    go_wp2_with fail
    go_simp
    go_ret
    exact ⟨_, rfl, fun h => .qual (by simp [qualK]) (HP2.out (by simp)) (HP3.out h), HW3.out⟩

end Go.Proofs.YtdlhhdhooacogaaGreatDoor
