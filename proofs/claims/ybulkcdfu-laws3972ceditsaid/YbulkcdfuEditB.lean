import Derived.Test.YbulkcdfuEditP
namespace Go.Proofs.Ybulkcdfu
open Go.RowKit

set_option maxHeartbeats 400000 in
theorem edit_1 (ao : Option Addr) (n c : Nat) (mm ix de dof : Int) (E O : Nat → Int) (w : World) (hn : n ≤ 1024) (ha : Arg w ao n c E O) (hm0 : 0 ≤ mm) (hm1 : mm ≤ 255) (hmm : mm % 5 = 1) (hp : 0 < n) (K : Nat) (hK : ix % (n : Int) = (K : Int)) (hKn : K < n) (hx0 : 0 ≤ ix) (e1 : -9223372036854775808 ≤ E K) (e2 : E K ≤ 9223372036854775807) (e3 : -9223372036854775808 ≤ de) (e4 : de ≤ 9223372036854775807) :
    Calls Yba.prog 5 #[.slice ao n c, .int .u8 mm, .int .u64 ix, .int .i64 de, .int .i64 dof] w fun e w' => e = .returned (.bool true) ∧ Below w.heap.size w w' := by
  have d1 : decide ((1024 : Int) < (n : Int)) = false := decide_eq_false (by omega)
  have hp' : (0 : Int) < (n : Int) := by omega
  have hKn' : (K : Int) < (n : Int) := by omega
  have HS : Hid (sameB n n E O (fun i => if i = K then wrap64 (E K + de) else E i) O = (de == 0)) := sameB_end hKn e1 e2 e3 e4
  have HT : Hid (sameB n n (fun i => if i = K then wrap64 (E K + de) else E i) O E O = (de == 0)) := (sameB_symm _ _ _ _ _ _).trans HS.out
  clear e1 e2 e3 e4
  go_enter Yba.func5, Yba.ntmps5
  go_wp2_with fail
  refine (conv_any ao n c E O _ hn ha).mono ?_
  rintro e w1 ⟨ao1, c1, rfl, hb1, ho1⟩
  go_wp2_with fail
  refine (conv_any ao n c E O _ hn ((ha.below hb1).below ((Below.refl _ _).alloc (Nat.le_refl _) _))).mono ?_
  rintro e w2 ⟨ao2, c2, rfl, hb2, ho2⟩
  have hb2' := hb2.mono (B' := w1.heap.size + 1) (by simp)
  obtain ⟨g, rfl, hB, hgl, hnc, hpp, hfz⟩ := own_parts ho2 hp
  have hB' : w1.heap.size + 1 ≤ g := by simpa using hB
  have c0 := (hpp K hKn).1
  rw [Nat.zero_add] at c0
  have f0 := hfz (K * 2)
  have hb3 := hb2'.setCell (p := ⟨g, K * 2, none⟩) hB' (.int .i64 (wrap64 (E K + de)))
  have v2 : View (w2.setCell ⟨g, K * 2, none⟩ (.int .i64 (wrap64 (E K + de)))) (some ⟨g, 0, none⟩) n (fun i => if i = K then wrap64 (E K + de) else E i) O := .inr ⟨g, 0, rfl, by simpa [World.setCell] using hgl, pairs_end hpp _ hKn⟩
  have sd := sd_start (ao2 := some ⟨g, 0, none⟩) (m := n) (c2 := c2) (bu := w2.heap.size) (s1 := .slice none 0 0) (s2 := .int .u64 0) (s3 := .int .i64 0) (s4 := .int .i64 0) (s5 := .int .i64 0) ha hb1 ho1 hb3 (by simp [World.setCell])
  have v2 := v2.below ((Below.refl _ _).alloc (Nat.le_refl _) (.cells #[.slice (some ⟨g, 0, none⟩) n c2, .slice none 0 0, .int .u64 0, .int .i64 0, .int .i64 0, .int .i64 0] 37))
  clear ha hb1 ho1 hb2 hb2' ho2 hb3 hB hpp hfz hB'
  go_wp2_with fail
  refine (same_any _ _ _ _ _ _ _ _ _ _ _ _ _ sd.t1 sd.t2 (by omega) sd.l2 sd.v1 v2).mono ?_
  rintro e w3 ⟨rfl, hb3⟩
  have sd3 := sd.below hb3
  have v3 := v2.below hb3
  clear hb3 sd
  rw [HS.out]
  go_wp2_with fail
  refine (same_any _ _ _ _ _ _ _ _ _ _ _ _ _ sd3.t2 sd3.t1 (by omega) sd3.l1 v3 sd3.v1).mono ?_
  rintro e w4 ⟨rfl, hb4⟩
  have sd4 := sd3.below hb4
  clear hb4 sd3
  rw [HT.out]
  have ct1 := sd4.t1
  unfold Tab at ct1
  go_wp2_with fail
  refine (csame_any _ _ _ _ _ _ _ _ (by omega) sd4.v1 sd4.a1).mono ?_
  rintro e w5 ⟨rfl, m, rfl⟩
  go_wp2
  go_ret
  exact ⟨rfl, (sd4.below (below_drewN (Below.refl _ _) _)).bel⟩

set_option maxHeartbeats 400000 in
theorem edit_2 (ao : Option Addr) (n c : Nat) (mm ix de dof : Int) (E O : Nat → Int) (w : World) (hn : n ≤ 1024) (ha : Arg w ao n c E O) (hm0 : 0 ≤ mm) (hm1 : mm ≤ 255) (hmm : mm % 5 = 2) (hp : 0 < n) (K : Nat) (hK : ix % (n : Int) = (K : Int)) (hKn : K < n) (hx0 : 0 ≤ ix) (e1 : -9223372036854775808 ≤ O K) (e2 : O K ≤ 9223372036854775807) (e3 : -9223372036854775808 ≤ dof) (e4 : dof ≤ 9223372036854775807) :
    Calls Yba.prog 5 #[.slice ao n c, .int .u8 mm, .int .u64 ix, .int .i64 de, .int .i64 dof] w fun e w' => e = .returned (.bool true) ∧ Below w.heap.size w w' := by
  have d1 : decide ((1024 : Int) < (n : Int)) = false := decide_eq_false (by omega)
  have hp' : (0 : Int) < (n : Int) := by omega
  have hKn' : (K : Int) < (n : Int) := by omega
  have HS : Hid (sameB n n E O E (fun i => if i = K then wrap64 (O K + dof) else O i) = (dof == 0)) := sameB_off hKn e1 e2 e3 e4
  have HT : Hid (sameB n n E (fun i => if i = K then wrap64 (O K + dof) else O i) E O = (dof == 0)) := (sameB_symm _ _ _ _ _ _).trans HS.out
  clear e1 e2 e3 e4
  go_enter Yba.func5, Yba.ntmps5
  go_wp2_with fail
  refine (conv_any ao n c E O _ hn ha).mono ?_
  rintro e w1 ⟨ao1, c1, rfl, hb1, ho1⟩
  go_wp2_with fail
  refine (conv_any ao n c E O _ hn ((ha.below hb1).below ((Below.refl _ _).alloc (Nat.le_refl _) _))).mono ?_
  rintro e w2 ⟨ao2, c2, rfl, hb2, ho2⟩
  have hb2' := hb2.mono (B' := w1.heap.size + 1) (by simp)
  obtain ⟨g, rfl, hB, hgl, hnc, hpp, hfz⟩ := own_parts ho2 hp
  have hB' : w1.heap.size + 1 ≤ g := by simpa using hB
  have c0 := (hpp K hKn).2
  rw [Nat.zero_add] at c0
  have f0 := hfz (K * 2 + 1)
  have hb3 := hb2'.setCell (p := ⟨g, K * 2 + 1, none⟩) hB' (.int .i64 (wrap64 (O K + dof)))
  have v2 : View (w2.setCell ⟨g, K * 2 + 1, none⟩ (.int .i64 (wrap64 (O K + dof)))) (some ⟨g, 0, none⟩) n E (fun i => if i = K then wrap64 (O K + dof) else O i) := .inr ⟨g, 0, rfl, by simpa [World.setCell] using hgl, pairs_off hpp _ hKn⟩
  have sd := sd_start (ao2 := some ⟨g, 0, none⟩) (m := n) (c2 := c2) (bu := w2.heap.size) (s1 := .slice none 0 0) (s2 := .int .u64 0) (s3 := .int .i64 0) (s4 := .int .i64 0) (s5 := .int .i64 0) ha hb1 ho1 hb3 (by simp [World.setCell])
  have v2 := v2.below ((Below.refl _ _).alloc (Nat.le_refl _) (.cells #[.slice (some ⟨g, 0, none⟩) n c2, .slice none 0 0, .int .u64 0, .int .i64 0, .int .i64 0, .int .i64 0] 37))
  clear ha hb1 ho1 hb2 hb2' ho2 hb3 hB hpp hfz hB'
  go_wp2_with fail
  refine (same_any _ _ _ _ _ _ _ _ _ _ _ _ _ sd.t1 sd.t2 (by omega) sd.l2 sd.v1 v2).mono ?_
  rintro e w3 ⟨rfl, hb3⟩
  have sd3 := sd.below hb3
  have v3 := v2.below hb3
  clear hb3 sd
  rw [HS.out]
  go_wp2_with fail
  refine (same_any _ _ _ _ _ _ _ _ _ _ _ _ _ sd3.t2 sd3.t1 (by omega) sd3.l1 v3 sd3.v1).mono ?_
  rintro e w4 ⟨rfl, hb4⟩
  have sd4 := sd3.below hb4
  clear hb4 sd3
  rw [HT.out]
  have ct1 := sd4.t1
  unfold Tab at ct1
  go_wp2_with fail
  refine (csame_any _ _ _ _ _ _ _ _ (by omega) sd4.v1 sd4.a1).mono ?_
  rintro e w5 ⟨rfl, m, rfl⟩
  go_wp2
  go_ret
  exact ⟨rfl, (sd4.below (below_drewN (Below.refl _ _) _)).bel⟩
end Go.Proofs.Ybulkcdfu
