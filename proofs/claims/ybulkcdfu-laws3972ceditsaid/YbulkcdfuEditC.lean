import Derived.Test.YbulkcdfuEditP
namespace Go.Proofs.Ybulkcdfu
open Go.RowKit

set_option maxHeartbeats 400000 in
theorem edit_3 (ao : Option Addr) (n c : Nat) (mm ix de dof : Int) (E O : Nat → Int) (w : World) (hn : n ≤ 1024) (ha : Arg w ao n c E O) (hm0 : 0 ≤ mm) (hm1 : mm ≤ 255) (hmm : mm % 5 = 3) (hp : 0 < n) :
    Calls Yba.prog 5 #[.slice ao n c, .int .u8 mm, .int .u64 ix, .int .i64 de, .int .i64 dof] w fun e w' => e = .returned (.bool true) ∧ Below w.heap.size w w' := by
  have d1 : decide ((1024 : Int) < (n : Int)) = false := decide_eq_false (by omega)
  have hp' : (0 : Int) < (n : Int) := by omega
  go_enter Yba.func5, Yba.ntmps5
  go_wp2_with fail
  refine (conv_any ao n c E O _ hn ha).mono ?_
  rintro e w1 ⟨ao1, c1, rfl, hb1, ho1⟩
  go_wp2_with fail
  refine (conv_any ao n c E O _ hn ((ha.below hb1).below ((Below.refl _ _).alloc (Nat.le_refl _) _))).mono ?_
  rintro e w2 ⟨ao2, c2, rfl, hb2, ho2⟩
  have hb2' := hb2.mono (B' := w1.heap.size + 1) (by simp)
  obtain ⟨g, rfl, hB, hgl, hnc, hpp, hfz⟩ := own_parts ho2 hp
  have sd := sd_start (ao2 := some ⟨g, 0, none⟩) (m := n - 1) (c2 := c2) (s1 := .slice none 0 0) (s2 := .int .u64 0) (s3 := .int .i64 0) (s4 := .int .i64 0) (s5 := .int .i64 0) ha hb1 ho1 hb2' rfl
  clear ha hb1 ho1 hb2 hb2' ho2 hB hpp hfz
  go_wp2_with fail
  refine (same_diff _ _ _ _ _ _ _ _ _ sd.t1 sd.t2 (by omega)).mono ?_
  rintro e w3 ⟨rfl, hb3⟩
  have sd3 := sd.below hb3
  clear hb3 sd
  go_wp2_with fail
  refine (same_diff _ _ _ _ _ _ _ _ _ sd3.t2 sd3.t1 (by omega)).mono ?_
  rintro e w4 ⟨rfl, hb4⟩
  have sd4 := sd3.below hb4
  clear hb4 sd3
  have ct1 := sd4.t1
  unfold Tab at ct1
  go_wp2_with fail
  refine (csame_any _ _ _ _ _ _ _ _ (by omega) sd4.v1 sd4.a1).mono ?_
  rintro e w5 ⟨rfl, m, rfl⟩
  go_wp2
  go_ret
  exact ⟨rfl, (sd4.below (below_drewN (Below.refl _ _) _)).bel⟩

theorem slice_shape {w : World} {B e size n : Nat} {v : Value} {xs : List Value} (h : w.ownsRow B e size v (n + 1) xs) : ∃ ao c, v = .slice ao (n + 1) c := by
  rcases h.2 with ⟨_, h0⟩ | ⟨g, cap, _, hv, _⟩
  · omega
  · exact ⟨_, _, hv⟩

theorem own_block {w : World} {B e size n : Nat} {v : Value} {xs : List Value} (h : w.ownsRow B e size v n xs) : ∀ k, v.ownBlock = some k → B ≤ k := by
  intro k hk
  rcases h.2 with ⟨rfl, _⟩ | ⟨g, cap, _, rfl, hB, _⟩
  · simp [Value.ownBlock] at hk
  · simp [Value.ownBlock] at hk
    omega

set_option maxHeartbeats 400000 in
theorem edit_4 (ao : Option Addr) (n c : Nat) (mm ix de dof : Int) (E O : Nat → Int) (w : World) (hn : n ≤ 1024) (ha : Arg w ao n c E O) (hm0 : 0 ≤ mm) (hm1 : mm ≤ 255) (hmm : mm % 5 = 4) :
    Calls Yba.prog 5 #[.slice ao n c, .int .u8 mm, .int .u64 ix, .int .i64 de, .int .i64 dof] w fun e w' => e = .returned (.bool true) ∧ Below w.heap.size w w' := by
  have d1 : decide ((1024 : Int) < (n : Int)) = false := decide_eq_false (by omega)
  obtain ⟨i0, hi, hz0, hz1, hz2⟩ := info_parts Yba.info44
  go_enter Yba.func5, Yba.ntmps5
  go_wp2_with fail
  refine (conv_any ao n c E O _ hn ha).mono ?_
  rintro e w1 ⟨ao1, c1, rfl, hb1, ho1⟩
  go_wp2_with fail
  refine (conv_any ao n c E O _ hn ((ha.below hb1).below ((Below.refl _ _).alloc (Nat.le_refl _) _))).mono ?_
  rintro e w2 ⟨ao2, c2, rfl, hb2, ho2⟩
  have hb2' := hb2.mono (B' := w1.heap.size + 1) (by simp)
  have hsz : (w1.alloc (.cells #[.slice ao1 n c1, .slice none 0 0, .int .u64 0, .int .i64 0, .int .i64 0, .int .i64 0] 37)).heap.size = w1.heap.size + 1 := by simp
  rw [hsz] at ho2
  have hsl := hb2'.size
  rw [hsz] at hsl
  clear hsz hb2
  go_wp2_with (at_builtin; refine wpList_append_own _ rfl (.tmp 85) (.tmp 89) 33 rfl (w1.heap.size + 1) 44 i0 (.agg #[.int .i64 0, .int .i64 0]) 2 16 Yba.underlying33 hi hz0 hz1 hz2 rfl (by decide) _ _ _ rfl (ho2.alloc _) ⟨w2.heap.size, 0, none⟩ 1 1 [.int .i64 de, .int .i64 dof] rfl rfl ?c1 ?c2 ?c3 ?c4 ?c5 ?_)
  case c1 =>
    intro j u hj
    match j, hj with
    | 0, hj => simp at hj; subst hj; simp [Addr.add]
    | 1, hj => simp at hj; subst hj; simp [Addr.add]
  case c2 => intro u hu; simp at hu; rcases hu with rfl | rfl <;> rfl
  case c3 => unfold maxLen; omega
  case c4 => omega
  case c5 => simp; omega
  intro v' w3 hown' hgrow _
  obtain ⟨ao3, c3, rfl⟩ := slice_shape hown'
  have hb3 := (hb2'.alloc hsl _).grown hgrow (by simp; omega) (own_block ho2)
  have sd := sd_start (ao2 := ao3) (m := n + 1) (c2 := c3) (s1 := .slice none 0 0) (s2 := .int .u64 0) (s3 := .int .i64 0) (s4 := .int .i64 0) (s5 := .int .i64 0) ha hb1 ho1 hb3 rfl
  clear ha hb1 ho1 hb2' ho2 hown' hgrow hb3
  go_wp2_with fail
  refine (same_diff _ _ _ _ _ _ _ _ _ sd.t1 sd.t2 (by omega)).mono ?_
  rintro e w3 ⟨rfl, hb3⟩
  have sd3 := sd.below hb3
  clear hb3 sd
  go_wp2_with fail
  refine (same_diff _ _ _ _ _ _ _ _ _ sd3.t2 sd3.t1 (by omega)).mono ?_
  rintro e w4 ⟨rfl, hb4⟩
  have sd4 := sd3.below hb4
  clear hb4 sd3
  have ct1 := sd4.t1
  unfold Tab at ct1
  go_wp2_with fail
  refine (csame_any _ _ _ _ _ _ _ _ (by omega) sd4.v1 sd4.a1).mono ?_
  rintro e w5 ⟨rfl, m, rfl⟩
  go_wp2
  go_ret
  exact ⟨rfl, (sd4.below (below_drewN (Below.refl _ _) _)).bel⟩
end Go.Proofs.Ybulkcdfu
