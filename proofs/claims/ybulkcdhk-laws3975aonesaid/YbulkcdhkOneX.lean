import Derived.Test.YbulkcdhkOneW
namespace Go.Proofs.Ybulkcdhk
open Go.RowKit

def Fine (y : Nat) : Prop := infB y = false ∧ (FloatKind.f64.format.order y y != some .eq) = false

theorem store_gen {w : World} {ys c : Array Value} {idx Wk : Nat} (hz : ∀ i, i < 26 → c[i]? = some (.float .f64 0)) (hi : idx < 26) :
    ∃ W1, (store ⟨w.heap.size + 1, idx, none⟩ (.float .f64 Wk)).run Yba.prog ((w.alloc (.cells ys 23)).alloc (.cells c 23)) = .ok () W1 ∧
      W1.heap[w.heap.size]? = some (.cells ys 23 (0, 0)) ∧ Floats W1 (w.heap.size + 1) (oneW Wk idx) ∧ Below w.heap.size w W1 ∧ w.heap.size + 1 < W1.heap.size := by
  have hb := heap_alloc2_new w (.cells ys 23) (.cells c 23)
  have h0 := heap_alloc2_old w (.cells ys 23) (.cells c 23)
  have hcell : ∀ i, i < 26 → ((w.alloc (.cells ys 23)).alloc (.cells c 23)).cell? ⟨w.heap.size + 1, i, none⟩ = some (.float .f64 0) := fun i h => by
    rw [cell_of_row _ _ i c 23 (0, 0) hb]
    exact hz i h
  have hfr := frozen_of_row ((w.alloc (.cells ys 23)).alloc (.cells c 23)) (w.heap.size + 1) idx c 23 hb
  refine ⟨((w.alloc (.cells ys 23)).alloc (.cells c 23)).setCell ⟨w.heap.size + 1, idx, none⟩ (.float .f64 Wk), ?_, ?_, ?_, ?_, ?_⟩
  · rw [run_store _ _ _ _ _ rfl, hcell idx hi, hfr]
    rfl
  · rw [Below.heap_setCell _ _ _ _ (by show w.heap.size ≠ w.heap.size + 1; omega)]
    exact h0
  · intro i h
    unfold oneW
    by_cases e : i = idx
    · subst e
      rw [World.cell?_setCell_same _ _ _ (hcell i hi), if_pos rfl]
    · rw [World.cell?_setCell_other _ _ _ _ (by intro q; injection q with q1 q2; omega), hcell i h, if_neg e]
  · exact (((Below.refl _ _).alloc (Nat.le_refl _) _).alloc (by simp) _).setCell (by show w.heap.size ≤ w.heap.size + 1; omega) _
  · simp [World.setCell]

theorem zeros_at (i : Nat) (hi : i < 26) : (#[.float .f64 0, .float .f64 0, .float .f64 0, .float .f64 0, .float .f64 0, .float .f64 0, .float .f64 0, .float .f64 0, .float .f64 0, .float .f64 0, .float .f64 0, .float .f64 0, .float .f64 0, .float .f64 0, .float .f64 0, .float .f64 0, .float .f64 0, .float .f64 0, .float .f64 0, .float .f64 0, .float .f64 0, .float .f64 0, .float .f64 0, .float .f64 0, .float .f64 0, .float .f64 0] : Array Value)[i]? = some (.float .f64 0) := by
  have e : (#[.float .f64 0, .float .f64 0, .float .f64 0, .float .f64 0, .float .f64 0, .float .f64 0, .float .f64 0, .float .f64 0, .float .f64 0, .float .f64 0, .float .f64 0, .float .f64 0, .float .f64 0, .float .f64 0, .float .f64 0, .float .f64 0, .float .f64 0, .float .f64 0, .float .f64 0, .float .f64 0, .float .f64 0, .float .f64 0, .float .f64 0, .float .f64 0, .float .f64 0, .float .f64 0] : Array Value) = (List.replicate 26 (Value.float .f64 0)).toArray := rfl
  rw [e, List.getElem?_toArray, List.getElem?_replicate, if_pos hi]

theorem store_one (w : World) (ys : Array Value) (idx Wk : Nat) (hi : idx < 26) :
    ∃ W1, (store ⟨w.heap.size + 1, idx, none⟩ (.float .f64 Wk)).run Yba.prog ((w.alloc (.cells ys 23)).alloc (.cells #[.float .f64 0, .float .f64 0, .float .f64 0, .float .f64 0, .float .f64 0, .float .f64 0, .float .f64 0, .float .f64 0, .float .f64 0, .float .f64 0, .float .f64 0, .float .f64 0, .float .f64 0, .float .f64 0, .float .f64 0, .float .f64 0, .float .f64 0, .float .f64 0, .float .f64 0, .float .f64 0, .float .f64 0, .float .f64 0, .float .f64 0, .float .f64 0, .float .f64 0, .float .f64 0] 23)) = .ok () W1 ∧
      W1.heap[w.heap.size]? = some (.cells ys 23 (0, 0)) ∧ Floats W1 (w.heap.size + 1) (oneW Wk idx) ∧ Below w.heap.size w W1 ∧ w.heap.size + 1 < W1.heap.size :=
  store_gen zeros_at hi

theorem order_nan_zero {x : Nat} (h : NaNw x) (y : Nat) : (FloatKind.f64.format.order x y == some .eq) = false := by
  obtain ⟨s, f, h⟩ := h
  show (Ieee.double.order x y == some .eq) = false
  unfold Ieee.Format.order
  rw [h]
  cases Ieee.double.read y <;> rfl

set_option maxHeartbeats 1000000 in
theorem one_walk (K : Int) (Wk idx : Nat) (ys : Array Value) (Y : Nat → Nat) (w : World) (hy : Arr ys Y) (hY : ∀ i, i < 26 → Y i < 18446744073709551616) (hK0 : 0 ≤ K) (hK1 : K ≤ 255) (hidx : K % 26 = (idx : Int)) (hi : idx < 26) :
    Calls Yba.prog 4 #[.int .u8 K, .float .f64 Wk, .agg ys] w fun e w' => e = .returned (.bool true) ∧ Below w.heap.size w w' := by
  have i23 : (Yba.prog.info? 23).map (·.size) = some ys.size := by rw [hy.1]; exact info23
  have i24 : (Yba.prog.info? 24).map (·.size) = some ys.size := by rw [hy.1]; exact info24
  have I1 : Hid _ := i23
  have I2 : Hid _ := i24
  clear i23 i24
  go_enter Yba.func4, Yba.ntmps4
  go_wp2_with fail
  go_loop [7] (fun i => ∃ k : Nat, k ≤ 26 ∧ i = .int .i64 k ∧ Hid (∀ j, j < k → Fine (Y j))) (fun i => 26 - (intOf i).toNat)
  case atStart => exact ⟨0, by omega, rfl, fun j hj => by omega⟩
  case round =>
    obtain ⟨k, hk, rfl, hF⟩ := hrel
    by_cases hlt : k < 26
    · have hlt' : (k : Int) < 26 := by omega
      have c1 := hy.2 k hlt
      have HF : Hid (Fine (Y k) → ∀ j, j < k + 1 → Fine (Y j)) := fun hf j hj => by
        by_cases e : j = k
        · subst e; exact hf
        · exact hF.out j (by omega)
      clear hF hY hy
      generalize Y k = y at c1 HF
      cases hI : infB y
      · cases hN : (FloatKind.f64.format.order y y != some .eq)
        · have HG := HF.out ⟨hI, hN⟩
          have HG' : Hid _ := HG
          clear HF HG
          go_wp2_with fail
          refine (inf_any y _).mono ?_
          rintro e w' ⟨rfl, rfl⟩
          rw [hI]
          go_wp2_with fail
          refine (nan_any y _).mono ?_
          rintro e w' ⟨rfl, rfl⟩
          rw [hN]
          go_wp2
          go_round
          case rel => exact ⟨k + 1, by omega, by go_num, HG'⟩
          case measure => simp [intOf]; omega
        · go_wp2_with fail
          refine (inf_any y _).mono ?_
          rintro e w' ⟨rfl, rfl⟩
          rw [hI]
          go_wp2_with fail
          refine (nan_any y _).mono ?_
          rintro e w' ⟨rfl, rfl⟩
          rw [hN]
          go_wp2
          go_ret
          exact ⟨rfl, (Below.refl _ _).alloc (Nat.le_refl _) _⟩
      · go_wp2_with fail
        refine (inf_any y _).mono ?_
        rintro e w' ⟨rfl, rfl⟩
        rw [hI]
        go_wp2
        go_ret
        exact ⟨rfl, (Below.refl _ _).alloc (Nat.le_refl _) _⟩
    · obtain rfl : k = 26 := by omega
      have hfin : Fin26 Y := fun j hj => fine_fin (hY j hj) (hF.out j hj).1 (hF.out j hj).2
      have HFin : Hid (Fin26 Y) := hfin
      clear hfin hF hY
      obtain ⟨W1, hst, hg1, hf1, hb1, hs1⟩ := store_one w ys idx Wk hi
      have HG : Hid (W1.heap[w.heap.size]? = some (.cells ys 23 (0, 0))) := hg1
      clear hg1
      go_wp2_with (first
        | (refine wpList_load_row rfl 23 (.tmp 5) rfl w.heap.size rfl 23 ys (0, 0) (.array 26 22) HG.out Yba.underlying23 rfl I1.out ?_)
        | (refine wpList_store_arr rfl 24 (.tmp 10) (.tmp 34) rfl W1.heap.size ys rfl rfl (there_new rfl (by rw [hy.1]; simp)) I2.out hy.one ?_; intro W2 st2)
        | fail)
      have k2 : Below W1.heap.size W1 W2 := st2.below ((Below.refl _ _).alloc (Nat.le_refl _) _) (Nat.le_refl _)
      have fw := hf1.below k2
      have fc := st2.floats hy
      have f0 := (hy.floats HG.out).below k2
      have hbw : Below w.heap.size w W2 := hb1.trans (k2.mono (by omega))
      clear hst HG hf1 hb1 st2 k2 I1 I2 hs1 hy
      refine (drive_any _ _ (oneW Wk idx) Y W2 fw fc).mono ?_
      rintro e W3 ⟨got, rfl, hgot, hb3⟩
      rw [acc_one HFin.out hi] at hgot
      have c0 := (f0.below hb3) idx hi
      have hb4 : Below w.heap.size w W3 := hbw.trans (hb3.mono hbw.size)
      clear fw fc f0 hbw hb3 HFin
      generalize Y idx = y at hgot c0
      cases hm : mulF Wk y with
      | none =>
        have e1 := fun w => run_mul_none (P := Yba.prog) w 22 hm
        have e2 := fun W w => run_add_none (P := Yba.prog) w 22 (add_nan_right (x := 0) (nanAt_nan W Wk y))
        have e3 := fun W => order_nan_zero (nanAt_nan W Wk y) 0
        have HR : Hid (Rep none got) := by
          show Rep none got
          unfold tgt at hgot
          rw [hm] at hgot
          exact hgot
        clear hgot hm
        go_wp2_with fail
        refine (same_rep none got _ _ HR.out (nanAt_nan _ _ _)).mono ?_
        rintro e w' ⟨rfl, rfl⟩
        go_wp2
        go_ret
        exact ⟨rfl, by repeat (first | exact hb4 | apply Below.drew | apply below_drewN)⟩
      | some r =>
        have e1 := fun w => run_mul_some (P := Yba.prog) w 22 hm
        obtain ⟨hr1, hr2⟩ := mul_form hm
        have ho := order_zero hr1 hr2
        unfold tgt at hgot
        rw [hm] at hgot
        by_cases h0 : r % 9223372036854775808 = 0
        · have e2 := fun w => run_add_some (P := Yba.prog) w 22 (add_zero_zero (isZ_of hr1 h0))
          have e3 : (FloatKind.f64.format.order r 0 == some .eq) = true := ho.trans (decide_eq_true h0)
          simp only [if_pos h0] at hgot
          have HR : Hid (Rep (some 0) got) := hgot
          clear hgot hm hr1 hr2 ho h0
          go_wp2_with fail
          refine (same_rep (some 0) got _ _ HR.out rfl).mono ?_
          rintro e w' ⟨rfl, rfl⟩
          go_wp2
          go_ret
          exact ⟨rfl, hb4⟩
        · have e2 := fun w => run_add_some (P := Yba.prog) w 22 (add_zero_l hr1 hr2 h0)
          have e3 : (FloatKind.f64.format.order r 0 == some .eq) = false := ho.trans (decide_eq_false h0)
          simp only [if_neg h0] at hgot
          have HR : Hid (Rep (some r) got) := hgot
          clear hgot hm hr1 hr2 ho h0
          go_wp2_with fail
          refine (same_rep (some r) got _ _ HR.out rfl).mono ?_
          rintro e w' ⟨rfl, rfl⟩
          go_wp2
          go_ret
          exact ⟨rfl, hb4⟩
end Go.Proofs.Ybulkcdhk
