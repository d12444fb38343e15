/-
  'Rows.LawS3972CModelSaid', proved: the walks are YbulkcdfuSpanA to SpanD (the callees by their contracts) and YbulkcdfuModelW (the law).
-/
import Derived.Test.YbulkcdfuModelW
import Derived.ProofKit
import Derived.OpenShut
import Derived.ShutString
import Derived.ChangeOld
import Derived.Below
import Derived.Deep.SlicePairs
namespace Go.Proofs.Ybulkcdfu
open Go.ChangeShapes Go.WideShapes Go.ChangeAt Go.RowKit

theorem own : ownKnob Yba.prog.godebug = none := by kernel_rfl
theorem laidOut : laidOutB Yba.prog = true := by kernel_rfl
theorem Yba.cells39 : Yba.prog.cellsOf 39 = 2 := by kernel_rfl
theorem Yba.cells2 : Yba.prog.cellsOf 2 = 1 := by kernel_rfl

/-- From a reading of an argument of type []ZzS3972CSpan to what the walks ask. -/
theorem arg_of_trod {H : Type} {enc : TypeId × Value → H} {W : World} {a : Option Addr} {len cap : Nat} {d : DataW H} {ps : List MemPlace}
    (h : DataW.Trod enc Yba.prog W 0 (fun _ => true) true 31 (.slice a len cap) d ps) : ∃ E O, Arg W a len cap E O ∧ len ≤ maxLen := by
  obtain ⟨fuel, hf⟩ := h
  rcases Deep.open_slice_pairs Yba.underlying31 Yba.underlying39 Yba.cells39 rfl rfl Yba.cells2 Yba.cells2 hf with ⟨hcs, _⟩ | ⟨x, l, c, m, n, V0, V1, D0, D1, P0, P1, hcs, _, hl, hm, hmm, _, hx⟩
  · simp [Value.cells] at hcs
    obtain ⟨rfl, rfl, rfl⟩ := hcs
    exact ⟨fun _ => 0, fun _ => 0, .inl ⟨rfl, rfl, rfl⟩, Nat.zero_le _⟩
  · simp [Value.cells] at hcs
    obtain ⟨rfl, rfl, rfl⟩ := hcs
    simp only [if_true] at hmm
    subst hmm
    have each : ∀ i, i < m → ∃ q : Int × Int, W.cell? (x.add (i * 2)) = some (.int .i64 q.1) ∧ W.cell? (x.add (i * 2 + 1)) = some (.int .i64 q.2) := by
      intro i hi
      obtain ⟨g0, g1, t0, t1⟩ := hx i hi
      obtain ⟨e0, k0, _, _⟩ := DataW.trod_int Yba.underlying2 t0
      obtain ⟨e1, k1, _, _⟩ := DataW.trod_int Yba.underlying2 t1
      simp at k0 k1
      exact ⟨(e0, e1), by rw [g0, k0], by rw [g1, k1]⟩
    obtain ⟨q, hq⟩ := Deep.choose_lt each
    refine ⟨fun i => (q i).1, fun i => (q i).2, .inr ⟨x, rfl, ?_⟩, by omega⟩
    by_cases h0 : len = 0
    · exact .inl h0
    · obtain ⟨b, off, spot⟩ := x
      have hspot : spot = none := by simpa [Addr.add] using World.cell?_spot (hq 0 (by omega)).1
      subst hspot
      refine .inr ⟨b, off, rfl, ?_, fun i hi => ?_⟩
      · have := (hq 0 (by omega)).1
        rw [add_plain] at this
        exact block_lt_of_cell this
      · have := hq i (by omega)
        rw [add_plain, add_plain] at this
        exact ⟨this.1, this.2⟩

set_option maxHeartbeats 400000 in
theorem model_long (ao bo : Option Addr) (na ca nb cb : Nat) (w : World) (h : 1024 < na ∨ 1024 < nb) :
    Calls Yba.prog 4 #[.slice ao na ca, .slice bo nb cb] w fun e w' => e = .returned (.bool true) ∧ Below w.heap.size w w' := by
  by_cases h1 : 1024 < na
  · have d1 : decide ((1024 : Int) < (na : Int)) = true := decide_eq_true (by omega)
    go_enter Yba.func4, Yba.ntmps4
    go_wp2
    go_ret
    exact ⟨rfl, Below.refl _ _⟩
  · have d1 : decide ((1024 : Int) < (na : Int)) = false := decide_eq_false (by omega)
    have d2 : decide ((1024 : Int) < (nb : Int)) = true := decide_eq_true (by omega)
    go_enter Yba.func4, Yba.ntmps4
    go_wp2
    go_ret
    exact ⟨rfl, Below.refl _ _⟩

theorem model_any (ao bo : Option Addr) (na ca nb cb : Nat) (E O E' O' : Nat → Int) (w : World) (ha : Arg w ao na ca E O) (hb : Arg w bo nb cb E' O') :
    Calls Yba.prog 4 #[.slice ao na ca, .slice bo nb cb] w fun e w' => e = .returned (.bool true) ∧ Below w.heap.size w w' := by
  by_cases hl : 1024 < na ∨ 1024 < nb
  · exact model_long ao bo na ca nb cb w hl
  · by_cases hne : na = nb
    · subst hne
      by_cases h0 : na = 0
      · subst h0
        exact model_zero ao bo ca cb E O E' O' w ha hb
      · rcases ha.view with h | ⟨b1, o1, rfl, _, _⟩
        · exact absurd h h0
        · rcases hb.view with h | ⟨b2, o2, rfl, _, _⟩
          · exact absurd h h0
          · exact model_eq b1 o1 b2 o2 na ca cb E O E' O' w (by omega) (by omega) ha hb
    · exact model_no ao bo na ca nb cb E O E' O' w (by omega) (by omega) ha hb hne

set_option maxRecDepth 100000 in
theorem model_lifted (os : Os) (started : os.Started) (H : Type) (enc : TypeId × Value → H) :
    ReturnsInHanded {} Yba.checked os 4 .any (Rows.lawS3972CModelSpec.pre6 enc Yba.prog Yba.f4 Rows.lawS3972CModelRow.domain false) (Rows.lawS3972CModelSpec.post enc Yba.prog Yba.f4 false true false false) := by
  refine returnsInHanded_of_change (C := Yba.checked) own started (by kernel_rfl) Yba.func4
    (ChangeSpec.witness6 (enc := enc) (C := Yba.checked) false ⟨#[], #[.slice none 0 0, .slice none 0 0], []⟩ 8 (by kernel_rfl) (by kernel_rfl) (by kernel_rfl) (by kernel_rfl)) ?_
  intro W base args ds gs before hval0 hW hcnd _
  have hval : ∀ (j : Nat) t v, Yba.f4.params[j]? = some t → args[j]? = some v → Value.okWide Yba.prog W .any base t v := hval0
  have hW' := hW
  obtain ⟨p, q, hA0, hV, rfl, hfz, hnd⟩ := hW
  have hA : DataW.TrodAll enc Yba.prog W 0 (fun _ => true) true Yba.f4.params.toList args.toList ds p := hA0
  rw [Yba.params4] at hA hval
  obtain ⟨v0, vs0, d0, ds0, p0, q0, hargs, rfl, rfl, h0, r0⟩ := trodAll_cons hA
  obtain ⟨v1, vs1, d1, ds1, p1, q1, rfl, rfl, rfl, h1, r1⟩ := trodAll_cons r0
  obtain ⟨rfl, rfl, rfl⟩ := trodAll_nil r1
  obtain rfl : args = #[v0, v1] := by cases args; simp_all
  obtain ⟨rfl, rfl⟩ := trodVars_none hV
  obtain ⟨a0, len0, cap0, rfl⟩ := okWide_slice Yba.underlying31 (hval 0 31 v0 rfl rfl)
  obtain ⟨a1, len1, cap1, rfl⟩ := okWide_slice Yba.underlying31 (hval 1 31 v1 rfl rfl)
  have lt0 : ∀ x ∈ p0, x.block < W.heap.size := by obtain ⟨m, hm⟩ := h0; exact DataW.trod_lt m _ _ _ hm
  have lt1 : ∀ x ∈ p1, x.block < W.heap.size := by obtain ⟨m, hm⟩ := h1; exact DataW.trod_lt m _ _ _ hm
  obtain ⟨E, O, w0, _⟩ := arg_of_trod h0
  obtain ⟨E', O', w1, _⟩ := arg_of_trod h1
  clear hA0 hval0
  refine (model_any a0 a1 len0 cap0 len1 cap1 E O E' O' W w0 w1).mono fun e W' ⟨he, bel⟩ => ?_
  subst he
  exact ⟨_, rfl, _, _, _, [], _, [], hW', trodAll_mk1 (shut_bool Yba.underlying4 _), (trodAll_cons_mk (Below.trod laidOut (by kernel_rfl) (of_decide_eq_true (by kernel_rfl)) h0 bel lt0) (trodAll_cons_mk (Below.trod laidOut (by kernel_rfl) (of_decide_eq_true (by kernel_rfl)) h1 bel lt1) trodAll_mk0)), rfl, bel.frame _, fun h => by cases h⟩

theorem model_over : Rows.lawS3972CModelRow.holds Yba.pinned (OpenSpec.ofChange Rows.lawS3972CModelSpec) :=
  OpenClaim.holds_of_wide 4 Yba.f4 rfl rfl rfl rfl rfl rfl rfl ⟨rfl, rfl, rfl, rfl, rfl⟩ rfl rfl rfl rfl rfl (by kernel_rfl) Yba.func4 (by kernel_rfl)
    (of_decide_eq_true (by kernel_rfl)) (by unfold Func.isWrapper; first | (rw [if_pos (by decide +kernel)]; kernel_rfl) | (rw [if_neg (by decide +kernel)]; exact ⟨rfl, rfl⟩))
    (fun os started H enc _ => model_lifted os started H enc)

theorem model_proved : Rows.LawS3972CModelSaid := model_over
#print axioms model_proved
end Go.Proofs.Ybulkcdfu
