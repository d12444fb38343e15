/-
  'Rows.LawS3975ADotSaid', proved: the floats' plain layer (YbulkcdhkFlo), the callees by their contracts (YbulkcdhkDrive), the law's walk (YbulkcdhkArr, YbulkcdhkDotW), the row (here).
-/
import Derived.Test.YbulkcdhkDotW
import Derived.ProofKit
import Derived.OpenShut
import Derived.ShutString
import Derived.ChangeOld
import Derived.Below
namespace Go.Proofs.Ybulkcdhk
open Go.ChangeShapes Go.WideShapes Go.ChangeAt Go.RowKit

theorem own3 : ownKnob Yba.prog.godebug = none := by kernel_rfl
theorem laidOut3 : laidOutB Yba.prog = true := by kernel_rfl
theorem cells22' : Yba.prog.cellsOf 22 = 1 := by kernel_rfl
theorem cells23' : Yba.prog.cellsOf 23 = 26 := by kernel_rfl

theorem okWide_arr {W : World} {r : Reach} {base : Nat} {v : Value} (h : Value.okWide Yba.prog W r base 23 v) : ∃ cs, v = .agg cs ∧ cs.size = 26 := by
  simp only [Value.okWide, Yba.underlying23] at h
  obtain ⟨cs, h1, h2, _⟩ := h
  exact ⟨cs, h1, h2.trans cells23'⟩

theorem trod_float {H : Type} {enc : TypeId × Value → H} {W : World} {base : Nat} {spare : Nat → Bool} {held : Bool} {m : Nat} {v : Value} {x : DataW H × List MemPlace} (h : DataW.trod enc Yba.prog W base spare held m 22 [v] = some x) : ∃ b, v = .float .f64 b ∧ b < 18446744073709551616 := by
  cases m with
  | zero => simp [DataW.trod] at h
  | succ n =>
    cases v with
    | float k b =>
      simp only [DataW.trod, Yba.underlying22] at h
      split at h
      · rename_i hc
        obtain ⟨rfl, hw⟩ := hc
        exact ⟨b, rfl, by simpa [Lit.wf] using hw⟩
      · cases h
    | _ => simp [DataW.trod, Yba.underlying22] at h

theorem arr_of_trod {H : Type} {enc : TypeId × Value → H} {W : World} {cs : Array Value} {d : DataW H} {ps : List MemPlace} (hs : cs.size = 26)
    (h : DataW.Trod enc Yba.prog W 0 (fun _ => true) true 23 (.agg cs) d ps) : ∃ X, Arr cs X ∧ ∀ i, i < 26 → X i < 18446744073709551616 := by
  obtain ⟨fuel, hf⟩ := h
  obtain ⟨xs, m, _, _, _, hl, hx⟩ := DataW.trod_array Yba.underlying23 hf
  have each : ∀ i, i < 26 → ∃ b : Nat, cs[i]? = some (.float .f64 b) ∧ b < 18446744073709551616 := by
    intro i hi
    have h1 := hx i hi
    rw [cells22', Nat.mul_one] at h1
    have h2 : ((Value.agg cs).cells.toList.drop i).take 1 = [cs[i]'(by omega)] := by
      simp only [Value.cells]
      rw [List.drop_eq_getElem_cons (by simp; omega)]
      simp
    rw [h2, List.getElem?_eq_getElem (by omega)] at h1
    obtain ⟨b, hb, hlt⟩ := trod_float h1
    exact ⟨b, by rw [Array.getElem?_eq_getElem (by omega), hb], hlt⟩
  have hf : ∃ X : Nat → Nat, ∀ i, i < 26 → cs[i]? = some (.float .f64 (X i)) ∧ X i < 18446744073709551616 := by
    classical
    refine ⟨fun i => if hi : i < 26 then Classical.choose (each i hi) else 0, fun i hi => ?_⟩
    simp only [dif_pos hi]
    exact Classical.choose_spec (each i hi)
  obtain ⟨X, hX⟩ := hf
  exact ⟨X, ⟨hs, fun i hi => (hX i hi).1⟩, fun i hi => (hX i hi).2⟩

set_option maxRecDepth 100000 in
theorem dot_lifted (os : Os) (started : os.Started) (H : Type) (enc : TypeId × Value → H) :
    ReturnsInHanded {} Yba.checked os 3 .any (Rows.lawS3975ADotSpec.pre6 enc Yba.prog Yba.f3 Rows.lawS3975ADotRow.domain false) (Rows.lawS3975ADotSpec.post enc Yba.prog Yba.f3 false true false false) := by
  refine returnsInHanded_of_change (C := Yba.checked) own3 started (by kernel_rfl) Yba.func3
    (ChangeSpec.witness6 (enc := enc) (C := Yba.checked) false ⟨#[], #[.agg #[.float .f64 0, .float .f64 0, .float .f64 0, .float .f64 0, .float .f64 0, .float .f64 0, .float .f64 0, .float .f64 0, .float .f64 0, .float .f64 0, .float .f64 0, .float .f64 0, .float .f64 0, .float .f64 0, .float .f64 0, .float .f64 0, .float .f64 0, .float .f64 0, .float .f64 0, .float .f64 0, .float .f64 0, .float .f64 0, .float .f64 0, .float .f64 0, .float .f64 0, .float .f64 0], .agg #[.float .f64 0, .float .f64 0, .float .f64 0, .float .f64 0, .float .f64 0, .float .f64 0, .float .f64 0, .float .f64 0, .float .f64 0, .float .f64 0, .float .f64 0, .float .f64 0, .float .f64 0, .float .f64 0, .float .f64 0, .float .f64 0, .float .f64 0, .float .f64 0, .float .f64 0, .float .f64 0, .float .f64 0, .float .f64 0, .float .f64 0, .float .f64 0, .float .f64 0, .float .f64 0]], []⟩ 8 (by kernel_rfl) (by kernel_rfl) (by kernel_rfl) (by kernel_rfl)) ?_
  intro W base args ds gs before hval0 hW hcnd _
  have hval : ∀ (j : Nat) t v, Yba.f3.params[j]? = some t → args[j]? = some v → Value.okWide Yba.prog W .any base t v := hval0
  have hW' := hW
  obtain ⟨p, q, hA0, hV, rfl, hfz, hnd⟩ := hW
  have hA : DataW.TrodAll enc Yba.prog W 0 (fun _ => true) true Yba.f3.params.toList args.toList ds p := hA0
  rw [Yba.params3] at hA hval
  obtain ⟨v0, vs0, d0, ds0, p0, q0, hargs, rfl, rfl, h0, r0⟩ := trodAll_cons hA
  obtain ⟨v1, vs1, d1, ds1, p1, q1, rfl, rfl, rfl, h1, r1⟩ := trodAll_cons r0
  obtain ⟨rfl, rfl, rfl⟩ := trodAll_nil r1
  obtain rfl : args = #[v0, v1] := by cases args; simp_all
  obtain ⟨rfl, rfl⟩ := trodVars_none hV
  obtain ⟨xs, rfl, hxs⟩ := okWide_arr (hval 0 23 v0 rfl rfl)
  obtain ⟨ys, rfl, hys⟩ := okWide_arr (hval 1 23 v1 rfl rfl)
  have lt0 : ∀ x ∈ p0, x.block < W.heap.size := by obtain ⟨m, hm⟩ := h0; exact DataW.trod_lt m _ _ _ hm
  have lt1 : ∀ x ∈ p1, x.block < W.heap.size := by obtain ⟨m, hm⟩ := h1; exact DataW.trod_lt m _ _ _ hm
  obtain ⟨X, w0, _⟩ := arr_of_trod hxs h0
  obtain ⟨Y, w1, _⟩ := arr_of_trod hys h1
  clear hA0 hval0
  refine (dot_walk xs ys X Y W w0 w1).mono fun e W' ⟨he, bel⟩ => ?_
  subst he
  exact ⟨_, rfl, _, _, _, [], _, [], hW', trodAll_mk1 (shut_bool Yba.underlying4 _), (trodAll_cons_mk (Below.trod laidOut3 (by kernel_rfl) (of_decide_eq_true (by kernel_rfl)) h0 bel lt0) (trodAll_cons_mk (Below.trod laidOut3 (by kernel_rfl) (of_decide_eq_true (by kernel_rfl)) h1 bel lt1) trodAll_mk0)), rfl, bel.frame _, fun h => by cases h⟩

theorem dot_over : Rows.lawS3975ADotRow.holds Yba.pinned (OpenSpec.ofChange Rows.lawS3975ADotSpec) :=
  OpenClaim.holds_of_wide 3 Yba.f3 rfl rfl rfl rfl rfl rfl rfl ⟨rfl, rfl, rfl, rfl, rfl⟩ rfl rfl rfl rfl rfl (by kernel_rfl) Yba.func3 (by kernel_rfl)
    (of_decide_eq_true (by kernel_rfl)) (by unfold Func.isWrapper; first | (rw [if_pos (by decide +kernel)]; kernel_rfl) | (rw [if_neg (by decide +kernel)]; exact ⟨rfl, rfl⟩))
    (fun os started H enc _ => dot_lifted os started H enc)

theorem dot_proved : Rows.LawS3975ADotSaid := dot_over
#print axioms dot_proved
end Go.Proofs.Ybulkcdhk
