import Derived.Test.YbulkcdfuEditP
namespace Go.Proofs.Ybulkcdfu
open Go.RowKit

set_option maxHeartbeats 400000 in
theorem edit_0 (ao : Option Addr) (n c : Nat) (mm ix de dof : Int) (E O : Nat → Int) (w : World) (hn : n ≤ 1024) (ha : Arg w ao n c E O) (hm0 : 0 ≤ mm) (hm1 : mm ≤ 255) (hmm : mm % 5 = 0) :
    Calls Yba.prog 5 #[.slice ao n c, .int .u8 mm, .int .u64 ix, .int .i64 de, .int .i64 dof] w fun e w' => e = .returned (.bool true) ∧ Below w.heap.size w w' := by
  have d1 : decide ((1024 : Int) < (n : Int)) = false := decide_eq_false (by omega)
  have S1 : sameB n n E O E O = true := by unfold sameB; rw [eqB_refl]; simp
  go_enter Yba.func5, Yba.ntmps5
  go_wp2_with fail
  refine (conv_any ao n c E O _ hn ha).mono ?_
  rintro e w1 ⟨ao1, c1, rfl, hb1, ho1⟩
  go_wp2_with fail
  refine (conv_any ao n c E O _ hn ((ha.below hb1).below ((Below.refl _ _).alloc (Nat.le_refl _) _))).mono ?_
  rintro e w2 ⟨ao2, c2, rfl, hb2, ho2⟩
  have hb2' := hb2.mono (B' := w1.heap.size + 1) (by simp)
  have v2 := view_of_owns ho2
  have sd := sd_start (ao2 := ao2) (m := n) (c2 := c2) (s1 := .slice none 0 0) (s2 := .int .u64 0) (s3 := .int .i64 0) (s4 := .int .i64 0) (s5 := .int .i64 0) ha hb1 ho1 hb2' rfl
  have v2 := v2.below ((Below.refl _ w2).alloc (Nat.le_refl _) (.cells #[.slice ao2 n c2, .slice none 0 0, .int .u64 0, .int .i64 0, .int .i64 0, .int .i64 0] 37))
  clear ha hb1 ho1 hb2 hb2' ho2
  go_wp2_with fail
  refine (same_any _ _ _ _ _ _ _ _ _ _ _ _ _ sd.t1 sd.t2 (by omega) sd.l2 sd.v1 v2).mono ?_
  rintro e w3 ⟨rfl, hb3⟩
  have sd3 := sd.below hb3
  have v3 := v2.below hb3
  clear hb3 sd
  rw [S1]
  go_wp2_with fail
  refine (same_any _ _ _ _ _ _ _ _ _ _ _ _ _ sd3.t2 sd3.t1 (by omega) sd3.l1 v3 sd3.v1).mono ?_
  rintro e w4 ⟨rfl, hb4⟩
  have sd4 := sd3.below hb4
  clear hb4 sd3
  rw [S1]
  have ct1 := sd4.t1
  unfold Tab at ct1
  go_wp2_with fail
  refine (csame_any _ _ _ _ _ _ _ _ (by omega) sd4.v1 sd4.a1).mono ?_
  rintro e w5 ⟨rfl, m, rfl⟩
  go_wp2
  go_ret
  exact ⟨rfl, (sd4.below (below_drewN (Below.refl _ _) _)).bel⟩

set_option maxHeartbeats 400000 in
theorem edit_10 (ao : Option Addr) (c : Nat) (mm ix de dof : Int) (E O : Nat → Int) (w : World) (ha : Arg w ao 0 c E O) (hm0 : 0 ≤ mm) (hm1 : mm ≤ 255) (hmm : mm % 5 = 1) :
    Calls Yba.prog 5 #[.slice ao 0 c, .int .u8 mm, .int .u64 ix, .int .i64 de, .int .i64 dof] w fun e w' => e = .returned (.bool true) ∧ Below w.heap.size w w' := by
  have S1 : sameB 0 0 E O E O = true := by unfold sameB; rw [eqB_refl]; simp
  go_enter Yba.func5, Yba.ntmps5
  go_wp2_with fail
  refine (conv_any ao 0 c E O _ (by omega) ha).mono ?_
  rintro e w1 ⟨ao1, c1, rfl, hb1, ho1⟩
  go_wp2_with fail
  refine (conv_any ao 0 c E O _ (by omega) ((ha.below hb1).below ((Below.refl _ _).alloc (Nat.le_refl _) _))).mono ?_
  rintro e w2 ⟨ao2, c2, rfl, hb2, ho2⟩
  have hb2' := hb2.mono (B' := w1.heap.size + 1) (by simp)
  have v2 := view_of_owns ho2
  have sd := sd_start (ao2 := ao2) (m := 0) (c2 := c2) (s1 := .slice none 0 0) (s2 := .int .u64 0) (s3 := .int .i64 0) (s4 := .int .i64 0) (s5 := .int .i64 0) ha hb1 ho1 hb2' rfl
  have v2 := v2.below ((Below.refl _ w2).alloc (Nat.le_refl _) (.cells #[.slice ao2 0 c2, .slice none 0 0, .int .u64 0, .int .i64 0, .int .i64 0, .int .i64 0] 37))
  clear ha hb1 ho1 hb2 hb2' ho2
  go_wp2_with fail
  refine (same_any _ _ _ _ _ _ _ _ _ _ _ _ _ sd.t1 sd.t2 (by omega) sd.l2 sd.v1 v2).mono ?_
  rintro e w3 ⟨rfl, hb3⟩
  have sd3 := sd.below hb3
  have v3 := v2.below hb3
  clear hb3 sd
  rw [S1]
  go_wp2_with fail
  refine (same_any _ _ _ _ _ _ _ _ _ _ _ _ _ sd3.t2 sd3.t1 (by omega) sd3.l1 v3 sd3.v1).mono ?_
  rintro e w4 ⟨rfl, hb4⟩
  have sd4 := sd3.below hb4
  clear hb4 sd3
  rw [S1]
  have ct1 := sd4.t1
  unfold Tab at ct1
  go_wp2_with fail
  refine (csame_any _ _ _ _ _ _ _ _ (by omega) sd4.v1 sd4.a1).mono ?_
  rintro e w5 ⟨rfl, m, rfl⟩
  go_wp2
  go_ret
  exact ⟨rfl, (sd4.below (below_drewN (Below.refl _ _) _)).bel⟩

set_option maxHeartbeats 400000 in
theorem edit_20 (ao : Option Addr) (c : Nat) (mm ix de dof : Int) (E O : Nat → Int) (w : World) (ha : Arg w ao 0 c E O) (hm0 : 0 ≤ mm) (hm1 : mm ≤ 255) (hmm : mm % 5 = 2) :
    Calls Yba.prog 5 #[.slice ao 0 c, .int .u8 mm, .int .u64 ix, .int .i64 de, .int .i64 dof] w fun e w' => e = .returned (.bool true) ∧ Below w.heap.size w w' := by
  have S1 : sameB 0 0 E O E O = true := by unfold sameB; rw [eqB_refl]; simp
  go_enter Yba.func5, Yba.ntmps5
  go_wp2_with fail
  refine (conv_any ao 0 c E O _ (by omega) ha).mono ?_
  rintro e w1 ⟨ao1, c1, rfl, hb1, ho1⟩
  go_wp2_with fail
  refine (conv_any ao 0 c E O _ (by omega) ((ha.below hb1).below ((Below.refl _ _).alloc (Nat.le_refl _) _))).mono ?_
  rintro e w2 ⟨ao2, c2, rfl, hb2, ho2⟩
  have hb2' := hb2.mono (B' := w1.heap.size + 1) (by simp)
  have v2 := view_of_owns ho2
  have sd := sd_start (ao2 := ao2) (m := 0) (c2 := c2) (s1 := .slice none 0 0) (s2 := .int .u64 0) (s3 := .int .i64 0) (s4 := .int .i64 0) (s5 := .int .i64 0) ha hb1 ho1 hb2' rfl
  have v2 := v2.below ((Below.refl _ w2).alloc (Nat.le_refl _) (.cells #[.slice ao2 0 c2, .slice none 0 0, .int .u64 0, .int .i64 0, .int .i64 0, .int .i64 0] 37))
  clear ha hb1 ho1 hb2 hb2' ho2
  go_wp2_with fail
  refine (same_any _ _ _ _ _ _ _ _ _ _ _ _ _ sd.t1 sd.t2 (by omega) sd.l2 sd.v1 v2).mono ?_
  rintro e w3 ⟨rfl, hb3⟩
  have sd3 := sd.below hb3
  have v3 := v2.below hb3
  clear hb3 sd
  rw [S1]
  go_wp2_with fail
  refine (same_any _ _ _ _ _ _ _ _ _ _ _ _ _ sd3.t2 sd3.t1 (by omega) sd3.l1 v3 sd3.v1).mono ?_
  rintro e w4 ⟨rfl, hb4⟩
  have sd4 := sd3.below hb4
  clear hb4 sd3
  rw [S1]
  have ct1 := sd4.t1
  unfold Tab at ct1
  go_wp2_with fail
  refine (csame_any _ _ _ _ _ _ _ _ (by omega) sd4.v1 sd4.a1).mono ?_
  rintro e w5 ⟨rfl, m, rfl⟩
  go_wp2
  go_ret
  exact ⟨rfl, (sd4.below (below_drewN (Below.refl _ _) _)).bel⟩

set_option maxHeartbeats 400000 in
theorem edit_30 (ao : Option Addr) (c : Nat) (mm ix de dof : Int) (E O : Nat → Int) (w : World) (ha : Arg w ao 0 c E O) (hm0 : 0 ≤ mm) (hm1 : mm ≤ 255) (hmm : mm % 5 = 3) :
    Calls Yba.prog 5 #[.slice ao 0 c, .int .u8 mm, .int .u64 ix, .int .i64 de, .int .i64 dof] w fun e w' => e = .returned (.bool true) ∧ Below w.heap.size w w' := by
  have S1 : sameB 0 0 E O E O = true := by unfold sameB; rw [eqB_refl]; simp
  go_enter Yba.func5, Yba.ntmps5
  go_wp2_with fail
  refine (conv_any ao 0 c E O _ (by omega) ha).mono ?_
  rintro e w1 ⟨ao1, c1, rfl, hb1, ho1⟩
  go_wp2_with fail
  refine (conv_any ao 0 c E O _ (by omega) ((ha.below hb1).below ((Below.refl _ _).alloc (Nat.le_refl _) _))).mono ?_
  rintro e w2 ⟨ao2, c2, rfl, hb2, ho2⟩
  have hb2' := hb2.mono (B' := w1.heap.size + 1) (by simp)
  have v2 := view_of_owns ho2
  have sd := sd_start (ao2 := ao2) (m := 0) (c2 := c2) (s1 := .slice none 0 0) (s2 := .int .u64 0) (s3 := .int .i64 0) (s4 := .int .i64 0) (s5 := .int .i64 0) ha hb1 ho1 hb2' rfl
  have v2 := v2.below ((Below.refl _ w2).alloc (Nat.le_refl _) (.cells #[.slice ao2 0 c2, .slice none 0 0, .int .u64 0, .int .i64 0, .int .i64 0, .int .i64 0] 37))
  clear ha hb1 ho1 hb2 hb2' ho2
  go_wp2_with fail
  refine (same_any _ _ _ _ _ _ _ _ _ _ _ _ _ sd.t1 sd.t2 (by omega) sd.l2 sd.v1 v2).mono ?_
  rintro e w3 ⟨rfl, hb3⟩
  have sd3 := sd.below hb3
  have v3 := v2.below hb3
  clear hb3 sd
  rw [S1]
  go_wp2_with fail
  refine (same_any _ _ _ _ _ _ _ _ _ _ _ _ _ sd3.t2 sd3.t1 (by omega) sd3.l1 v3 sd3.v1).mono ?_
  rintro e w4 ⟨rfl, hb4⟩
  have sd4 := sd3.below hb4
  clear hb4 sd3
  rw [S1]
  have ct1 := sd4.t1
  unfold Tab at ct1
  go_wp2_with fail
  refine (csame_any _ _ _ _ _ _ _ _ (by omega) sd4.v1 sd4.a1).mono ?_
  rintro e w5 ⟨rfl, m, rfl⟩
  go_wp2
  go_ret
  exact ⟨rfl, (sd4.below (below_drewN (Below.refl _ _) _)).bel⟩
end Go.Proofs.Ybulkcdfu
