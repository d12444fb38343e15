/-
  'Rows.LawS3975AOneSaid', proved: the floats' plain layer and the plain law (YbulkcdhkFlo, YbulkcdhkPlain, YbulkcdhkOneP), the callees by their contracts (YbulkcdhkDrive, YbulkcdhkOneW), the law's walk (YbulkcdhkArr, YbulkcdhkOneX), the row (here).
-/
import Derived.Test.YbulkcdhkOneX
import Derived.ProofKit
import Derived.OpenShut
import Derived.ShutString
import Derived.ChangeOld
import Derived.Below
namespace Go.Proofs.Ybulkcdhk
open Go.ChangeShapes Go.WideShapes Go.ChangeAt Go.RowKit

theorem own4 : ownKnob Yba.prog.godebug = none := by kernel_rfl
theorem laidOut4 : laidOutB Yba.prog = true := by kernel_rfl
theorem cells22' : Yba.prog.cellsOf 22 = 1 := by kernel_rfl
theorem cells23' : Yba.prog.cellsOf 23 = 26 := by kernel_rfl

theorem okWide_arr {W : World} {r : Reach} {base : Nat} {v : Value} (h : Value.okWide Yba.prog W r base 23 v) : ∃ cs, v = .agg cs ∧ cs.size = 26 := by
  simp only [Value.okWide, Yba.underlying23] at h
  obtain ⟨cs, h1, h2, _⟩ := h
  exact ⟨cs, h1, h2.trans cells23'⟩

theorem trod_float {H : Type} {enc : TypeId × Value → H} {W : World} {base : Nat} {spare : Nat → Bool} {held : Bool} {m : Nat} {v : Value} {x : DataW H × List MemPlace} (h : DataW.trod enc Yba.prog W base spare held m 22 [v] = some x) : ∃ b, v = .float .f64 b ∧ b < 18446744073709551616 := by
  cases m with
  | zero => simp [DataW.trod] at h
  | succ n =>
    cases v with
    | float k b =>
      simp only [DataW.trod, Yba.underlying22] at h
      split at h
      · rename_i hc
        obtain ⟨rfl, hw⟩ := hc
        exact ⟨b, rfl, by simpa [Lit.wf] using hw⟩
      · cases h
    | _ => simp [DataW.trod, Yba.underlying22] at h

theorem arr_of_trod {H : Type} {enc : TypeId × Value → H} {W : World} {cs : Array Value} {d : DataW H} {ps : List MemPlace} (hs : cs.size = 26)
    (h : DataW.Trod enc Yba.prog W 0 (fun _ => true) true 23 (.agg cs) d ps) : ∃ X, Arr cs X ∧ ∀ i, i < 26 → X i < 18446744073709551616 := by
  obtain ⟨fuel, hf⟩ := h
  obtain ⟨xs, m, _, _, _, hl, hx⟩ := DataW.trod_array Yba.underlying23 hf
  have each : ∀ i, i < 26 → ∃ b : Nat, cs[i]? = some (.float .f64 b) ∧ b < 18446744073709551616 := by
    intro i hi
    have h1 := hx i hi
    rw [cells22', Nat.mul_one] at h1
    have h2 : ((Value.agg cs).cells.toList.drop i).take 1 = [cs[i]'(by omega)] := by
      simp only [Value.cells]
      rw [List.drop_eq_getElem_cons (by simp; omega)]
      simp
    rw [h2, List.getElem?_eq_getElem (by omega)] at h1
    obtain ⟨b, hb, hlt⟩ := trod_float h1
    exact ⟨b, by rw [Array.getElem?_eq_getElem (by omega), hb], hlt⟩
  have hf : ∃ X : Nat → Nat, ∀ i, i < 26 → cs[i]? = some (.float .f64 (X i)) ∧ X i < 18446744073709551616 := by
    classical
    refine ⟨fun i => if hi : i < 26 then Classical.choose (each i hi) else 0, fun i hi => ?_⟩
    simp only [dif_pos hi]
    exact Classical.choose_spec (each i hi)
  obtain ⟨X, hX⟩ := hf
  exact ⟨X, ⟨hs, fun i hi => (hX i hi).1⟩, fun i hi => (hX i hi).2⟩

set_option maxRecDepth 100000 in
theorem one_lifted (os : Os) (started : os.Started) (H : Type) (enc : TypeId × Value → H) :
    ReturnsInHanded {} Yba.checked os 4 .any (Rows.lawS3975AOneSpec.pre6 enc Yba.prog Yba.f4 Rows.lawS3975AOneRow.domain false) (Rows.lawS3975AOneSpec.post enc Yba.prog Yba.f4 false true false false) := by
  refine returnsInHanded_of_change (C := Yba.checked) own4 started (by kernel_rfl) Yba.func4
    (ChangeSpec.witness6 (enc := enc) (C := Yba.checked) false ⟨#[], #[.int .u8 0, .float .f64 0, .agg #[.float .f64 0, .float .f64 0, .float .f64 0, .float .f64 0, .float .f64 0, .float .f64 0, .float .f64 0, .float .f64 0, .float .f64 0, .float .f64 0, .float .f64 0, .float .f64 0, .float .f64 0, .float .f64 0, .float .f64 0, .float .f64 0, .float .f64 0, .float .f64 0, .float .f64 0, .float .f64 0, .float .f64 0, .float .f64 0, .float .f64 0, .float .f64 0, .float .f64 0, .float .f64 0]], []⟩ 8 (by kernel_rfl) (by kernel_rfl) (by kernel_rfl) (by kernel_rfl)) ?_
  intro W base args ds gs before hval0 hW hcnd _
  have hval : ∀ (j : Nat) t v, Yba.f4.params[j]? = some t → args[j]? = some v → Value.okWide Yba.prog W .any base t v := hval0
  have hW' := hW
  obtain ⟨p, q, hA0, hV, rfl, hfz, hnd⟩ := hW
  have hA : DataW.TrodAll enc Yba.prog W 0 (fun _ => true) true Yba.f4.params.toList args.toList ds p := hA0
  rw [Yba.params4] at hA hval
  obtain ⟨v0, vs0, d0, ds0, p0, q0, hargs, rfl, rfl, h0, r0⟩ := trodAll_cons hA
  obtain ⟨v1, vs1, d1, ds1, p1, q1, rfl, rfl, rfl, h1, r1⟩ := trodAll_cons r0
  obtain ⟨v2, vs2, d2, ds2, p2, q2, rfl, rfl, rfl, h2, r2⟩ := trodAll_cons r1
  obtain ⟨rfl, rfl, rfl⟩ := trodAll_nil r2
  obtain rfl : args = #[v0, v1, v2] := by cases args; simp_all
  obtain ⟨rfl, rfl⟩ := trodVars_none hV
  obtain ⟨K, rfl, rfl, rfl, wK⟩ := open_int Yba.underlying5 (hval 0 5 v0 rfl rfl) h0
  obtain ⟨Wk, rfl, rfl, rfl, wW⟩ := open_float Yba.underlying22 (hval 1 22 v1 rfl rfl) h1
  obtain ⟨ys, rfl, hys⟩ := okWide_arr (hval 2 23 v2 rfl rfl)
  have lt2 : ∀ x ∈ p2, x.block < W.heap.size := by obtain ⟨m, hm⟩ := h2; exact DataW.trod_lt m _ _ _ hm
  obtain ⟨Y, hy, hY⟩ := arr_of_trod hys h2
  have bK := bounds_u8 wK
  have hk0 : 0 ≤ K % 26 := Int.emod_nonneg _ (by omega)
  have hk1 : K % 26 < 26 := Int.emod_lt_of_pos _ (by omega)
  obtain ⟨idx, hidx⟩ := Int.eq_ofNat_of_zero_le hk0
  clear hA0 hval0
  refine (one_walk K Wk idx ys Y W hy hY bK.1 bK.2 hidx (by omega)).mono fun e W' ⟨he, bel⟩ => ?_
  subst he
  exact ⟨_, rfl, _, _, _, [], _, [], hW', trodAll_mk1 (shut_bool Yba.underlying4 _), (trodAll_cons_mk (shut_int Yba.underlying5 wK) (trodAll_cons_mk (shut_float Yba.underlying22 wW) (trodAll_cons_mk (Below.trod laidOut4 (by kernel_rfl) (of_decide_eq_true (by kernel_rfl)) h2 bel lt2) trodAll_mk0))), rfl, bel.frame _, fun h => by cases h⟩

theorem one_over : Rows.lawS3975AOneRow.holds Yba.pinned (OpenSpec.ofChange Rows.lawS3975AOneSpec) :=
  OpenClaim.holds_of_wide 4 Yba.f4 rfl rfl rfl rfl rfl rfl rfl ⟨rfl, rfl, rfl, rfl, rfl⟩ rfl rfl rfl rfl rfl (by kernel_rfl) Yba.func4 (by kernel_rfl)
    (of_decide_eq_true (by kernel_rfl)) (by unfold Func.isWrapper; first | (rw [if_pos (by decide +kernel)]; kernel_rfl) | (rw [if_neg (by decide +kernel)]; exact ⟨rfl, rfl⟩))
    (fun os started H enc _ => one_lifted os started H enc)

theorem one_proved : Rows.LawS3975AOneSaid := one_over
#print axioms one_proved
end Go.Proofs.Ybulkcdhk
