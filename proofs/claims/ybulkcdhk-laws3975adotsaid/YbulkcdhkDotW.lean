import Derived.Test.YbulkcdhkArr
import Derived.Laws.Rows
import Derived.RegionTactic
import Derived.BigRegion
namespace Go.Proofs.Ybulkcdhk
open Go.RowKit

set_option maxHeartbeats 1000000 in
theorem dot_walk (xs ys : Array Value) (X Y : Nat → Nat) (w : World) (hx : Arr xs X) (hy : Arr ys Y) :
    Calls Yba.prog 3 #[.agg xs, .agg ys] w fun e w' => e = .returned (.bool true) ∧ Below w.heap.size w w' := by
  have i23x : (Yba.prog.info? 23).map (·.size) = some xs.size := by rw [hx.1]; exact info23
  have i23y : (Yba.prog.info? 23).map (·.size) = some ys.size := by rw [hy.1]; exact info23
  have i24y : (Yba.prog.info? 24).map (·.size) = some ys.size := by rw [hy.1]; exact info24
  have I1 : Hid _ := i23x
  have I2 : Hid _ := i23y
  have I3 : Hid _ := i24y
  clear i23x i23y i24y
  have g1 := heap_alloc2_old w (.cells xs 23) (.cells ys 23)
  have HG : Hid _ := g1
  clear g1
  go_enter Yba.func3, Yba.ntmps3
  go_wp2_with (first
    | (refine wpList_load_row rfl 23 (.tmp 2) rfl w.heap.size rfl 23 xs (0, 0) (.array 26 22) HG.out Yba.underlying23 rfl I1.out ?_)
    | (refine wpList_store_arr rfl 23 (.tmp 5) (.tmp 12) rfl (w.heap.size + 1 + 1) xs rfl rfl (there_new (by simp) (by rw [hx.1]; simp)) I1.out hx.one ?_; intro W1 st1; have HK : Hid (W1.heap[w.heap.size + 1]? = some (.cells ys 23 (0, 0))) := (st1.other _ (by omega)).trans (alloc3_1 w _ _ _))
    | (refine wpList_load_row rfl 23 (.tmp 3) rfl (w.heap.size + 1) rfl 23 ys (0, 0) (.array 26 22) HK.out Yba.underlying23 rfl I2.out ?_)
    | (refine wpList_store_arr rfl 24 (.tmp 6) (.tmp 13) rfl W1.heap.size ys rfl rfl (there_new rfl (by rw [hy.1]; simp)) I3.out hy.one ?_; intro W2 st2)
    | fail)
  have d := d_start hx hy st1 st2
  clear st1 st2 HK HG I1 I2 I3 hx hy
  refine (drive_any _ _ X Y W2 d.f2 d.f3).mono ?_
  rintro e W3 ⟨got, rfl, hgot, hb3⟩
  have d3 := d.below hb3
  clear d hb3
  have HR : Hid (Rep (accF X Y 26) got) := hgot
  clear hgot
  go_wp2_with fail
  go_loopw [8, 9] (fun v i wr => ∃ k r : Nat, k ≤ 26 ∧ i = .int .i64 k ∧ v = .float .f64 r ∧ Hid (Rep (accF X Y k) r) ∧ D w wr W1.heap.size X Y) (fun _ i _ => 26 - (intOf i).toNat)
  case atStart => exact ⟨0, 0, by omega, rfl, rfl, rfl, d3⟩
  case round =>
    clear d3
    obtain ⟨k, r, hk, rfl, rfl, hR, d⟩ := hrel
    by_cases hlt : k < 26
    · have hlt' : (k : Int) < 26 := by omega
      have c1 := d.f0 k hlt
      have c2 := d.f1 k hlt
      have HA : Hid (accF X Y (k + 1) = nextF (accF X Y k) (X k) (Y k)) := rfl
      generalize X k = x at c1 HA
      generalize Y k = y at c2 HA
      cases hm : mulF x y with
      | some p =>
        have e1 := fun w => run_mul_some (P := Yba.prog) w 22 hm
        cases ha : addF r p with
        | some q =>
          have e2 := fun w => run_add_some (P := Yba.prog) w 22 ha
          have HN : Hid (Rep (accF X Y (k + 1)) q) := by
            show Rep _ _
            rw [HA.out]
            exact rep_some hR.out hm ha
          clear hm ha hR HA
          go_wp2_with fail
          go_quiet (fail)
          go_wp2
          go_roundw
          case rel => exact ⟨k + 1, q, by omega, by go_num, rfl, HN, d.below (below_drewN (Below.refl _ _) _)⟩
          case measure => simp [intOf]; omega
        | none =>
          have e2 := fun w => run_add_none (P := Yba.prog) w 22 ha
          have HN : Hid (∀ W, Rep (accF X Y (k + 1)) (nanAt W r p)) := by
            intro W
            rw [HA.out]
            exact rep_none1 hR.out hm ha (nanAt_nan _ _ _)
          clear hm ha hR HA
          go_wp2_with fail
          go_quiet (fail)
          go_wp2
          go_roundw
          case rel => exact ⟨k + 1, _, by omega, by go_num, rfl, HN.out _, d.below (below_drewN (Below.refl _ _) _)⟩
          case measure => simp [intOf]; omega
      | none =>
        have e1 := fun w => run_mul_none (P := Yba.prog) w 22 hm
        have e2 := fun W w => run_add_none (P := Yba.prog) w 22 (add_nan_right (x := r) (nanAt_nan W x y))
        have HN : Hid (∀ W W', Rep (accF X Y (k + 1)) (nanAt W r (nanAt W' x y))) := by
          intro W W'
          rw [HA.out]
          exact rep_none2 hm (nanAt_nan _ _ _)
        clear hm hR HA
        go_wp2_with fail
        go_region
        go_wp2
        go_roundw
        case rel => exact ⟨k + 1, _, by omega, by go_num, rfl, HN.out _ _, d.below (by repeat (first | exact Below.refl _ _ | apply Below.drew))⟩
        case measure => simp [intOf]; omega
    · obtain rfl : k = 26 := by omega
      go_wp2_with fail
      refine (same_rep (accF X Y 26) got r wr HR.out hR.out).mono ?_
      rintro e w' ⟨rfl, rfl⟩
      clear HR hR
      have hbits := f64bits
      go_wp2_with fail
      obtain ⟨wo, rfl⟩ : ∃ wo : World, wo = w' := ⟨_, rfl⟩
      go_loopw [11] (fun i wr => ∃ k m : Nat, k ≤ 26 ∧ i = .int .i64 k ∧ wr = wo.drewN m) (fun i _ => 26 - (intOf i).toNat)
      case atStart => exact ⟨0, 0, by omega, rfl, rfl⟩
      case round =>
        obtain ⟨k, m, hk, rfl, rfl⟩ := hrel
        by_cases hlt : k < 26
        · have hlt' : (k : Int) < 26 := by omega
          have c0 := d.f0 k hlt
          have c1 := d.f1 k hlt
          have c2 := d.f2 k hlt
          have c3 := d.f3 k hlt
          generalize X k = x at c0 c2
          generalize Y k = y at c1 c3
          clear d
          go_wp2_with fail
          go_quiet (fail)
          go_wp2_with fail
          go_quiet (fail)
          go_wp2
          go_roundw
          case rel => exact ⟨k + 1, _, by omega, by go_num, rfl⟩
          case measure => simp [intOf]; omega
        · go_wp2
          go_ret
          exact ⟨rfl, below_drewN d.bel _⟩
end Go.Proofs.Ybulkcdhk
