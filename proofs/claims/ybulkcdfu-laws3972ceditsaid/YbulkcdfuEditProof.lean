/-
  'Rows.LawS3972CEditSaid', proved: the walks are YbulkcdfuSpanA to SpanD (the callees by their contracts) and YbulkcdfuEditA, EditB, EditC (the law, a walk a way).
-/
import Derived.Test.YbulkcdfuEditA
import Derived.Test.YbulkcdfuEditB
import Derived.Test.YbulkcdfuEditC
import Derived.ProofKit
import Derived.OpenShut
import Derived.ShutString
import Derived.ChangeOld
import Derived.Below
import Derived.Deep.SlicePairs
namespace Go.Proofs.Ybulkcdfu
open Go.ChangeShapes Go.WideShapes Go.ChangeAt Go.RowKit

theorem own5 : ownKnob Yba.prog.godebug = none := by kernel_rfl
theorem laidOut5 : laidOutB Yba.prog = true := by kernel_rfl
theorem cells39' : Yba.prog.cellsOf 39 = 2 := by kernel_rfl
theorem cells2' : Yba.prog.cellsOf 2 = 1 := by kernel_rfl

def InI64 (x : Int) : Prop := -9223372036854775808 ≤ x ∧ x ≤ 9223372036854775807

theorem inI64_of_wf {x : Int} (h : (Lit.int .i64 x).wf = true) : InI64 x := bounds_i64 h

/-- From a reading of an argument of type []ZzS3972CSpan to what the walks ask. -/
theorem arg5_of_trod {H : Type} {enc : TypeId × Value → H} {W : World} {a : Option Addr} {len cap : Nat} {d : DataW H} {ps : List MemPlace}
    (h : DataW.Trod enc Yba.prog W 0 (fun _ => true) true 31 (.slice a len cap) d ps) : ∃ E O, Arg W a len cap E O ∧ ∀ i, i < len → InI64 (E i) ∧ InI64 (O i) := by
  obtain ⟨fuel, hf⟩ := h
  rcases Deep.open_slice_pairs Yba.underlying31 Yba.underlying39 cells39' rfl rfl cells2' cells2' hf with ⟨hcs, _⟩ | ⟨x, l, c, m, n, V0, V1, D0, D1, P0, P1, hcs, _, hl, hm, hmm, _, hx⟩
  · simp [Value.cells] at hcs
    obtain ⟨rfl, rfl, rfl⟩ := hcs
    exact ⟨fun _ => 0, fun _ => 0, .inl ⟨rfl, rfl, rfl⟩, fun i hi => by omega⟩
  · simp [Value.cells] at hcs
    obtain ⟨rfl, rfl, rfl⟩ := hcs
    simp only [if_true] at hmm
    subst hmm
    have each : ∀ i, i < m → ∃ q : Int × Int, W.cell? (x.add (i * 2)) = some (.int .i64 q.1) ∧ W.cell? (x.add (i * 2 + 1)) = some (.int .i64 q.2) ∧ InI64 q.1 ∧ InI64 q.2 := by
      intro i hi
      obtain ⟨g0, g1, t0, t1⟩ := hx i hi
      obtain ⟨e0, k0, _, f0⟩ := DataW.trod_int Yba.underlying2 t0
      obtain ⟨e1, k1, _, f1⟩ := DataW.trod_int Yba.underlying2 t1
      simp at k0 k1
      exact ⟨(e0, e1), by rw [g0, k0], by rw [g1, k1], inI64_of_wf f0, inI64_of_wf f1⟩
    obtain ⟨q, hq⟩ := Deep.choose_lt each
    refine ⟨fun i => (q i).1, fun i => (q i).2, .inr ⟨x, rfl, ?_⟩, fun i hi => (hq i (by omega)).2.2⟩
    by_cases h0 : len = 0
    · exact .inl h0
    · obtain ⟨b, off, spot⟩ := x
      have hspot : spot = none := by simpa [Addr.add] using World.cell?_spot (hq 0 (by omega)).1
      subst hspot
      refine .inr ⟨b, off, rfl, ?_, fun i hi => ?_⟩
      · have := (hq 0 (by omega)).1
        rw [add_plain] at this
        exact block_lt_of_cell this
      · have := hq i (by omega)
        rw [add_plain, add_plain] at this
        exact ⟨this.1, this.2.1⟩

set_option maxHeartbeats 400000 in
theorem edit_long (ao : Option Addr) (n c : Nat) (mm ix de dof : Int) (w : World) (h : 1024 < n) :
    Calls Yba.prog 5 #[.slice ao n c, .int .u8 mm, .int .u64 ix, .int .i64 de, .int .i64 dof] w fun e w' => e = .returned (.bool true) ∧ Below w.heap.size w w' := by
  have d1 : decide ((1024 : Int) < (n : Int)) = true := decide_eq_true (by omega)
  go_enter Yba.func5, Yba.ntmps5
  go_wp2
  go_ret
  exact ⟨rfl, Below.refl _ _⟩

theorem edit_any (ao : Option Addr) (n c : Nat) (mm ix de dof : Int) (E O : Nat → Int) (w : World) (ha : Arg w ao n c E O) (hE : ∀ i, i < n → InI64 (E i) ∧ InI64 (O i)) (hm0 : 0 ≤ mm) (hm1 : mm ≤ 255) (hx0 : 0 ≤ ix) (hde : InI64 de) (hdo : InI64 dof) :
    Calls Yba.prog 5 #[.slice ao n c, .int .u8 mm, .int .u64 ix, .int .i64 de, .int .i64 dof] w fun e w' => e = .returned (.bool true) ∧ Below w.heap.size w w' := by
  by_cases hl : 1024 < n
  · exact edit_long ao n c mm ix de dof w hl
  · have hn : n ≤ 1024 := by omega
    have h5 : mm % 5 = 0 ∨ mm % 5 = 1 ∨ mm % 5 = 2 ∨ mm % 5 = 3 ∨ mm % 5 = 4 := by omega
    by_cases h0 : n = 0
    · subst h0
      rcases h5 with h | h | h | h | h
      · exact edit_0 ao 0 c mm ix de dof E O w hn ha hm0 hm1 h
      · exact edit_10 ao c mm ix de dof E O w ha hm0 hm1 h
      · exact edit_20 ao c mm ix de dof E O w ha hm0 hm1 h
      · exact edit_30 ao c mm ix de dof E O w ha hm0 hm1 h
      · exact edit_4 ao 0 c mm ix de dof E O w hn ha hm0 hm1 h
    · have hp : 0 < n := by omega
      have hk0 : 0 ≤ ix % (n : Int) := Int.emod_nonneg _ (by omega)
      have hk1 : ix % (n : Int) < (n : Int) := Int.emod_lt_of_pos _ (by omega)
      obtain ⟨K, hK⟩ := Int.eq_ofNat_of_zero_le hk0
      have hKn : K < n := by omega
      rcases h5 with h | h | h | h | h
      · exact edit_0 ao n c mm ix de dof E O w hn ha hm0 hm1 h
      · exact edit_1 ao n c mm ix de dof E O w hn ha hm0 hm1 h hp K hK hKn hx0 (hE K hKn).1.1 (hE K hKn).1.2 hde.1 hde.2
      · exact edit_2 ao n c mm ix de dof E O w hn ha hm0 hm1 h hp K hK hKn hx0 (hE K hKn).2.1 (hE K hKn).2.2 hdo.1 hdo.2
      · exact edit_3 ao n c mm ix de dof E O w hn ha hm0 hm1 h hp
      · exact edit_4 ao n c mm ix de dof E O w hn ha hm0 hm1 h

set_option maxRecDepth 100000 in
theorem edit_lifted (os : Os) (started : os.Started) (H : Type) (enc : TypeId × Value → H) :
    ReturnsInHanded {} Yba.checked os 5 .any (Rows.lawS3972CEditSpec.pre6 enc Yba.prog Yba.f5 Rows.lawS3972CEditRow.domain false) (Rows.lawS3972CEditSpec.post enc Yba.prog Yba.f5 false true false false) := by
  refine returnsInHanded_of_change (C := Yba.checked) own5 started (by kernel_rfl) Yba.func5
    (ChangeSpec.witness6 (enc := enc) (C := Yba.checked) false ⟨#[], #[.slice none 0 0, .int .u8 0, .int .u64 0, .int .i64 0, .int .i64 0], []⟩ 8 (by kernel_rfl) (by kernel_rfl) (by kernel_rfl) (by kernel_rfl)) ?_
  intro W base args ds gs before hval0 hW hcnd _
  have hval : ∀ (j : Nat) t v, Yba.f5.params[j]? = some t → args[j]? = some v → Value.okWide Yba.prog W .any base t v := hval0
  have hW' := hW
  obtain ⟨p, q, hA0, hV, rfl, hfz, hnd⟩ := hW
  have hA : DataW.TrodAll enc Yba.prog W 0 (fun _ => true) true Yba.f5.params.toList args.toList ds p := hA0
  rw [Yba.params5] at hA hval
  obtain ⟨v0, vs0, d0, ds0, p0, q0, hargs, rfl, rfl, h0, r0⟩ := trodAll_cons hA
  obtain ⟨v1, vs1, d1, ds1, p1, q1, rfl, rfl, rfl, h1, r1⟩ := trodAll_cons r0
  obtain ⟨v2, vs2, d2, ds2, p2, q2, rfl, rfl, rfl, h2, r2⟩ := trodAll_cons r1
  obtain ⟨v3, vs3, d3, ds3, p3, q3, rfl, rfl, rfl, h3, r3⟩ := trodAll_cons r2
  obtain ⟨v4, vs4, d4, ds4, p4, q4, rfl, rfl, rfl, h4, r4⟩ := trodAll_cons r3
  obtain ⟨rfl, rfl, rfl⟩ := trodAll_nil r4
  obtain rfl : args = #[v0, v1, v2, v3, v4] := by cases args; simp_all
  obtain ⟨rfl, rfl⟩ := trodVars_none hV
  obtain ⟨a0, len0, cap0, rfl⟩ := okWide_slice Yba.underlying31 (hval 0 31 v0 rfl rfl)
  have lt0 : ∀ x ∈ p0, x.block < W.heap.size := by obtain ⟨m, hm⟩ := h0; exact DataW.trod_lt m _ _ _ hm
  obtain ⟨E, O, w0, hE⟩ := arg5_of_trod h0
  obtain ⟨x1, rfl, rfl, rfl, w1⟩ := open_int Yba.underlying5 (hval 1 5 v1 rfl rfl) h1
  obtain ⟨x2, rfl, rfl, rfl, w2⟩ := open_int Yba.underlying29 (hval 2 29 v2 rfl rfl) h2
  obtain ⟨x3, rfl, rfl, rfl, w3⟩ := open_int Yba.underlying2 (hval 3 2 v3 rfl rfl) h3
  obtain ⟨x4, rfl, rfl, rfl, w4⟩ := open_int Yba.underlying2 (hval 4 2 v4 rfl rfl) h4
  have b1 : 0 ≤ x1 ∧ x1 ≤ 255 := bounds_u8 w1
  have b2 : 0 ≤ x2 := (bounds_u64 w2).1
  clear hA0 hval0
  refine (edit_any a0 len0 cap0 x1 x2 x3 x4 E O W w0 hE b1.1 b1.2 b2 (inI64_of_wf w3) (inI64_of_wf w4)).mono fun e W' ⟨he, bel⟩ => ?_
  subst he
  exact ⟨_, rfl, _, _, _, [], _, [], hW', trodAll_mk1 (shut_bool Yba.underlying4 _), (trodAll_cons_mk (Below.trod laidOut5 (by kernel_rfl) (of_decide_eq_true (by kernel_rfl)) h0 bel lt0) (trodAll_cons_mk (shut_int Yba.underlying5 w1) (trodAll_cons_mk (shut_int Yba.underlying29 w2) (trodAll_cons_mk (shut_int Yba.underlying2 w3) (trodAll_cons_mk (shut_int Yba.underlying2 w4) trodAll_mk0))))), rfl, bel.frame _, fun h => by cases h⟩

theorem edit_over : Rows.lawS3972CEditRow.holds Yba.pinned (OpenSpec.ofChange Rows.lawS3972CEditSpec) :=
  OpenClaim.holds_of_wide 5 Yba.f5 rfl rfl rfl rfl rfl rfl rfl ⟨rfl, rfl, rfl, rfl, rfl⟩ rfl rfl rfl rfl rfl (by kernel_rfl) Yba.func5 (by kernel_rfl)
    (of_decide_eq_true (by kernel_rfl)) (by unfold Func.isWrapper; first | (rw [if_pos (by decide +kernel)]; kernel_rfl) | (rw [if_neg (by decide +kernel)]; exact ⟨rfl, rfl⟩))
    (fun os started H enc _ => edit_lifted os started H enc)

theorem edit_proved : Rows.LawS3972CEditSaid := edit_over
#print axioms edit_proved
end Go.Proofs.Ybulkcdfu
