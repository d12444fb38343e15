/-
  'Rows.LawS3972AExactSaid', proved: the callees by their contracts (YbulkcdfuVar, YbulkcdfuPre, YbulkcdfuFields), the law's walk (YbulkcdfuExP, YbulkcdfuExW), the row (here).
-/
import Derived.Test.YbulkcdfuExW
import Derived.ProofKit
import Derived.OpenShut
import Derived.ShutString
import Derived.ChangeOld
import Derived.Below
import Derived.Deep.Strs
namespace Go.Proofs.Ybulkcdfu
open Go.ChangeShapes Go.WideShapes Go.ChangeAt Go.RowKit

theorem own3 : ownKnob Yba.prog.godebug = none := by kernel_rfl
theorem laidOut3 : laidOutB Yba.prog = true := by kernel_rfl
theorem cells5' : Yba.prog.cellsOf 5 = 1 := by kernel_rfl
theorem cells9' : Yba.prog.cellsOf 9 = 1 := by kernel_rfl

theorem pre_of_trod {H : Type} {enc : TypeId × Value → H} {W : World} {a : Option Addr} {len cap : Nat} {d : DataW H} {ps : List MemPlace}
    (h : DataW.Trod enc Yba.prog W 0 (fun _ => true) true 22 (.slice a len cap) d ps) : ∃ P, PreArg W a len cap P := by
  obtain ⟨fuel, hf⟩ := h
  rcases open_ints Yba.underlying22 Yba.underlying5 cells5' hf with ⟨hcs, _⟩ | ⟨x, l, c, zs, hcs, _, hl, hm, hz, _, hcell, hwz⟩
  · simp [Value.cells] at hcs
    obtain ⟨rfl, rfl, rfl⟩ := hcs
    exact ⟨[], rfl, .inl ⟨rfl, rfl, rfl⟩⟩
  · simp [Value.cells] at hcs
    obtain ⟨rfl, rfl, rfl⟩ := hcs
    simp only [if_true] at hz
    refine ⟨zs.take len, by rw [List.length_take]; omega, .inr ⟨x, rfl, fun j hj => ?_, fun h0 => ?_⟩⟩
    · rw [hcell j (by omega)]
      simp [List.getD, hj]
    · have := hcell 0 (by omega)
      have h1 := block_lt_of_cell this
      rw [add_block] at h1
      exact h1

theorem strs_of_trod {H : Type} {enc : TypeId × Value → H} {W : World} {a : Option Addr} {len cap : Nat} {d : DataW H} {ps : List MemPlace}
    (h : DataW.Trod enc Yba.prog W 0 (fun _ => true) true 23 (.slice a len cap) d ps) : ∃ S, StrArg W a len S := by
  obtain ⟨fuel, hf⟩ := h
  rcases Deep.open_strs Yba.underlying23 Yba.underlying9 cells9' hf with ⟨hcs, _⟩ | ⟨x, l, c, m, S, hcs, _, hl, hm, hmm, _, hx⟩
  · simp [Value.cells] at hcs
    obtain ⟨rfl, rfl, rfl⟩ := hcs
    exact ⟨fun _ => ByteArray.empty, .inl rfl⟩
  · simp [Value.cells] at hcs
    obtain ⟨rfl, rfl, rfl⟩ := hcs
    simp only [if_true] at hmm
    subst hmm
    refine ⟨S, ?_⟩
    by_cases h0 : len = 0
    · exact .inl h0
    · obtain ⟨b, off, spot⟩ := x
      have hspot : spot = none := by simpa [Addr.add] using World.cell?_spot (hx 0 (by omega)).1
      subst hspot
      refine .inr ⟨b, off, rfl, ?_, fun i hi => ?_⟩
      · have := (hx 0 (by omega)).1
        rw [add_plain] at this
        exact block_lt_of_cell this
      · have := (hx i (by omega)).1
        rw [add_plain] at this
        exact this

set_option maxHeartbeats 400000 in
theorem ex_long (a0 a1 : Option Addr) (n c0 N c1 : Nat) (w : World) (h : 4096 < n ∨ 1024 < N) :
    Calls Yba.prog 3 #[.slice a0 n c0, .slice a1 N c1] w fun e w' => e = .returned (.bool true) ∧ Below w.heap.size w w' := by
  by_cases h1 : 4096 < n
  · have d1 : decide ((4096 : Int) < (n : Int)) = true := decide_eq_true (by omega)
    go_enter Yba.func3, Yba.ntmps3
    go_wp2
    go_ret
    exact ⟨rfl, Below.refl _ _⟩
  · have d1 : decide ((4096 : Int) < (n : Int)) = false := decide_eq_false (by omega)
    have d2 : decide ((1024 : Int) < (N : Int)) = true := decide_eq_true (by omega)
    go_enter Yba.func3, Yba.ntmps3
    go_wp2
    go_ret
    exact ⟨rfl, Below.refl _ _⟩

set_option maxHeartbeats 400000 in
theorem ex_wide (a0 a1 : Option Addr) (n c0 N c1 : Nat) (S : Nat → ByteArray) (w : World) (hn : n ≤ 4096) (hN : N ≤ 1024) (h1 : StrArg w a1 N S) (hno : ∃ k, k < N ∧ 4096 < (S k).size) :
    Calls Yba.prog 3 #[.slice a0 n c0, .slice a1 N c1] w fun e w' => e = .returned (.bool true) ∧ Below w.heap.size w w' := by
  have d1 : decide ((4096 : Int) < (n : Int)) = false := decide_eq_false (by omega)
  have d2 : decide ((1024 : Int) < (N : Int)) = false := decide_eq_false (by omega)
  go_enter Yba.func3, Yba.ntmps3
  go_wp2_with fail
  go_loop [5] (fun i => ∃ k : Nat, k ≤ N ∧ i = .int .i64 k ∧ Hid (∀ j, j < k → (S j).size ≤ 4096)) (fun i => N - (intOf i).toNat)
  case atStart => exact ⟨0, Nat.zero_le _, rfl, fun j hj => by omega⟩
  case round =>
    obtain ⟨k, hk, rfl, hH⟩ := hrel
    by_cases hlt : k < N
    · have hlt' : (k : Int) < (N : Int) := by omega
      obtain ⟨b1, o1, rfl, hb1, cs⟩ := h1.at hlt
      by_cases hs : (S k).size ≤ 4096
      · have HH : Hid (∀ j, j < k + 1 → (S j).size ≤ 4096) := fun j hj => by
          by_cases e : j = k
          · subst e; exact hs
          · exact hH.out j (by omega)
        generalize S k = s at cs hs
        have d3 : decide ((4096 : Int) < (s.size : Int)) = false := decide_eq_false (by omega)
        clear h1 hH hno
        go_wp2
        go_round
        case rel => exact ⟨k + 1, by omega, by go_num, HH⟩
        case measure => simp [intOf]; omega
      · generalize S k = s at cs hs
        have d3 : decide ((4096 : Int) < (s.size : Int)) = true := decide_eq_true (by omega)
        clear h1 hH hno
        go_wp2
        go_ret
        exact ⟨rfl, Below.refl _ _⟩
    · obtain ⟨j, hj, hbig⟩ := hno
      have := hH.out j (by omega)
      omega

theorem ex_any (a0 a1 : Option Addr) (n c0 N c1 : Nat) (P : List Int) (S : Nat → ByteArray) (w : World) (h0 : PreArg w a0 n c0 P) (h1 : StrArg w a1 N S) :
    Calls Yba.prog 3 #[.slice a0 n c0, .slice a1 N c1] w fun e w' => e = .returned (.bool true) ∧ Below w.heap.size w w' := by
  by_cases hl : 4096 < n ∨ 1024 < N
  · exact ex_long a0 a1 n c0 N c1 w hl
  · by_cases hno : ∃ k, k < N ∧ 4096 < (S k).size
    · exact ex_wide a0 a1 n c0 N c1 S w (by omega) (by omega) h1 hno
    · exact ex_main a0 a1 n c0 N c1 P S w (by omega) (by omega) (fun k hk => Nat.le_of_not_lt fun h => hno ⟨k, hk, h⟩) h0 h1 _ rfl

set_option maxRecDepth 100000 in
theorem ex_lifted (os : Os) (started : os.Started) (H : Type) (enc : TypeId × Value → H) :
    ReturnsInHanded {} Yba.checked os 3 .any (Rows.lawS3972AExactSpec.pre6 enc Yba.prog Yba.f3 Rows.lawS3972AExactRow.domain false) (Rows.lawS3972AExactSpec.post enc Yba.prog Yba.f3 false true false false) := by
  refine returnsInHanded_of_change (C := Yba.checked) own3 started (by kernel_rfl) Yba.func3
    (ChangeSpec.witness6 (enc := enc) (C := Yba.checked) false ⟨#[], #[.slice none 0 0, .slice none 0 0], []⟩ 8 (by kernel_rfl) (by kernel_rfl) (by kernel_rfl) (by kernel_rfl)) ?_
  intro W base args ds gs before hval0 hW hcnd _
  have hval : ∀ (j : Nat) t v, Yba.f3.params[j]? = some t → args[j]? = some v → Value.okWide Yba.prog W .any base t v := hval0
  have hW' := hW
  obtain ⟨p, q, hA0, hV, rfl, hfz, hnd⟩ := hW
  have hA : DataW.TrodAll enc Yba.prog W 0 (fun _ => true) true Yba.f3.params.toList args.toList ds p := hA0
  rw [Yba.params3] at hA hval
  obtain ⟨v0, vs0, d0, ds0, p0, q0, hargs, rfl, rfl, h0, r0⟩ := trodAll_cons hA
  obtain ⟨v1, vs1, d1, ds1, p1, q1, rfl, rfl, rfl, h1, r1⟩ := trodAll_cons r0
  obtain ⟨rfl, rfl, rfl⟩ := trodAll_nil r1
  obtain rfl : args = #[v0, v1] := by cases args; simp_all
  obtain ⟨rfl, rfl⟩ := trodVars_none hV
  obtain ⟨a0, len0, cap0, rfl⟩ := okWide_slice Yba.underlying22 (hval 0 22 v0 rfl rfl)
  obtain ⟨a1, len1, cap1, rfl⟩ := okWide_slice Yba.underlying23 (hval 1 23 v1 rfl rfl)
  have lt0 : ∀ x ∈ p0, x.block < W.heap.size := by obtain ⟨m, hm⟩ := h0; exact DataW.trod_lt m _ _ _ hm
  have lt1 : ∀ x ∈ p1, x.block < W.heap.size := by obtain ⟨m, hm⟩ := h1; exact DataW.trod_lt m _ _ _ hm
  obtain ⟨P, w0⟩ := pre_of_trod h0
  obtain ⟨S, w1⟩ := strs_of_trod h1
  clear hA0 hval0
  refine (ex_any a0 a1 len0 cap0 len1 cap1 P S W w0 w1).mono fun e W' ⟨he, bel⟩ => ?_
  subst he
  exact ⟨_, rfl, _, _, _, [], _, [], hW', trodAll_mk1 (shut_bool Yba.underlying4 _), (trodAll_cons_mk (Below.trod laidOut3 (by kernel_rfl) (of_decide_eq_true (by kernel_rfl)) h0 bel lt0) (trodAll_cons_mk (Below.trod laidOut3 (by kernel_rfl) (of_decide_eq_true (by kernel_rfl)) h1 bel lt1) trodAll_mk0)), rfl, bel.frame _, fun h => by cases h⟩

theorem ex_over : Rows.lawS3972AExactRow.holds Yba.pinned (OpenSpec.ofChange Rows.lawS3972AExactSpec) :=
  OpenClaim.holds_of_wide 3 Yba.f3 rfl rfl rfl rfl rfl rfl rfl ⟨rfl, rfl, rfl, rfl, rfl⟩ rfl rfl rfl rfl rfl (by kernel_rfl) Yba.func3 (by kernel_rfl)
    (of_decide_eq_true (by kernel_rfl)) (by unfold Func.isWrapper; first | (rw [if_pos (by decide +kernel)]; kernel_rfl) | (rw [if_neg (by decide +kernel)]; exact ⟨rfl, rfl⟩))
    (fun os started H enc _ => ex_lifted os started H enc)

theorem ex_proved : Rows.LawS3972AExactSaid := ex_over
#print axioms ex_proved
end Go.Proofs.Ybulkcdfu
