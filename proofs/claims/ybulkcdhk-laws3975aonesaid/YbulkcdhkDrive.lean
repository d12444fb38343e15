import Derived.Test.YbulkcdhkFlo
namespace Go.Proofs.Ybulkcdhk
open Go.RowKit

theorem same_rep (o : Option Nat) (a b : Nat) (w : World) (ha : Rep o a) (hb : Rep o b) :
    Calls Yba.prog 8 #[.float .f64 a, .float .f64 b] w fun e w' => e = .returned (.bool true) ∧ w' = w := by
  have hbits := f64bits
  cases o with
  | none =>
    have h1 : (FloatKind.f64.format.order a a != some .eq) = true := by rw [show FloatKind.f64.format.order a a = none from order_nan ha]; rfl
    have h2 : (FloatKind.f64.format.order b b != some .eq) = true := by rw [show FloatKind.f64.format.order b b = none from order_nan hb]; rfl
    go_enter Yba.func8, Yba.ntmps8
    go_wp2
    go_ret
    exact ⟨rfl, rfl⟩
  | some r =>
    obtain rfl : a = r := ha
    obtain rfl : b = a := hb
    cases h1 : (FloatKind.f64.format.order b b != some .eq)
    · go_enter Yba.func8, Yba.ntmps8
      go_wp2
      go_ret
      exact ⟨by simp, rfl⟩
    · go_enter Yba.func8, Yba.ntmps8
      go_wp2
      go_ret
      exact ⟨rfl, rfl⟩

/-- 26 floats in a row. -/
def Floats (w : World) (b : Nat) (X : Nat → Nat) : Prop := ∀ i, i < 26 → w.cell? ⟨b, i, none⟩ = some (.float .f64 (X i))

theorem Floats.below {w w' : World} {b : Nat} {X : Nat → Nat} (h : Floats w b X) (hb : Below w.heap.size w w') : Floats w' b X := by
  intro i hi
  have h1 := h i hi
  rw [hb.cell (block_lt_of_cell h1)]
  exact h1

set_option maxHeartbeats 400000 in
theorem drive_any (bw bc : Nat) (X Y : Nat → Nat) (w : World) (hX : Floats w bw X) (hY : Floats w bc Y) :
    Calls Yba.prog 7 #[.pointer (some ⟨bw, 0, none⟩), .pointer (some ⟨bc, 0, none⟩)] w fun e w' => ∃ r, e = .returned (.float .f64 r) ∧ Rep (accF X Y 26) r ∧ Below w.heap.size w w' := by
  go_enter Yba.func7, Yba.ntmps7
  go_wp2
  go_loopw [5, 9] (fun v i wr => ∃ k r : Nat, k ≤ 26 ∧ i = .int .i64 k ∧ v = .float .f64 r ∧ Hid (Rep (accF X Y k) r) ∧ Below w.heap.size w wr) (fun _ i _ => 26 - (intOf i).toNat)
  case atStart => exact ⟨0, 0, by omega, rfl, rfl, rfl, Below.refl _ _⟩
  case round =>
    obtain ⟨k, r, hk, rfl, rfl, hR, hbel⟩ := hrel
    by_cases hlt : k < 26
    · have hlt' : (k : Int) < 26 := by omega
      have c1 := (hX.below hbel) k hlt
      have c2 := (hY.below hbel) k hlt
      have HA : Hid (accF X Y (k + 1) = nextF (accF X Y k) (X k) (Y k)) := rfl
      clear hX hY
      generalize X k = x at c1 HA
      generalize Y k = y at c2 HA
      cases hm : mulF x y with
      | some p =>
        have e1 := fun w => run_mul_some (P := Yba.prog) w 22 hm
        cases ha : addF r p with
        | some q =>
          have e2 := fun w => run_add_some (P := Yba.prog) w 22 ha
          have HN : Hid (Rep (accF X Y (k + 1)) q) := by
            show Rep _ _
            rw [HA.out]
            exact rep_some hR.out hm ha
          clear hm ha hR HA
          go_wp2
          go_quiet (fail)
          go_wp2
          go_roundw
          case rel => exact ⟨k + 1, q, by omega, by go_num, rfl, HN, below_drewN hbel _⟩
          case measure => simp [intOf]; omega
        | none =>
          have e2 := fun w => run_add_none (P := Yba.prog) w 22 ha
          have HN : Hid (∀ W, Rep (accF X Y (k + 1)) (nanAt W r p)) := by
            intro W
            rw [HA.out]
            exact rep_none1 hR.out hm ha (nanAt_nan _ _ _)
          clear hm ha hR HA
          go_wp2
          go_quiet (fail)
          go_wp2
          go_roundw
          case rel => exact ⟨k + 1, _, by omega, by go_num, rfl, HN.out _, below_drewN hbel _⟩
          case measure => simp [intOf]; omega
      | none =>
        have e1 := fun w => run_mul_none (P := Yba.prog) w 22 hm
        have e2 := fun W w => run_add_none (P := Yba.prog) w 22 (add_nan_right (x := r) (nanAt_nan W x y))
        have HN : Hid (∀ W W', Rep (accF X Y (k + 1)) (nanAt W r (nanAt W' x y))) := by
          intro W W'
          rw [HA.out]
          exact rep_none2 hm (nanAt_nan _ _ _)
        clear hm hR HA
        go_wp2
        go_quiet (fail)
        go_wp2
        go_roundw
        case rel => exact ⟨k + 1, _, by omega, by go_num, rfl, HN.out _ _, below_drewN hbel _⟩
        case measure => simp [intOf]; omega
    · go_wp2
      go_ret
      obtain rfl : k = 26 := by omega
      exact ⟨r, rfl, hR.out, hbel⟩
end Go.Proofs.Ybulkcdhk
