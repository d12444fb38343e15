import Derived.Test.YbulkcdfuRows
import Derived.WalkKit
import Derived.WalkSpells
import Derived.WalkLawsBesides
import Derived.Lib.Walk
import Derived.Lib.VarintMem
import Derived.Lib.Slices
import Derived.Lib.AppendStr
import Derived.OwnWalk
import Derived.Deep.QuietTactic
import Derived.BigQuiet
namespace Go.Proofs.Ybulkcdfu
open Go.RowKit

theorem Yba.info5 : (Yba.prog.info? 5).map (fun i => (i.zero, i.size, i.bytes)) = some (some (.int .u8 0), 1, 1) := by kernel_rfl

/-- Below B nothing has turned; and no row of another element type than byte has turned. -/
structure Fr (B : Nat) (w w' : World) : Prop where
  bel : Below B w w'
  oth : ∀ (k : Nat) (c : Array Value) (t : TypeId) (fr : Nat × Nat), w.heap[k]? = some (Obj.cells c t fr) → t ≠ 5 → w'.heap[k]? = some (Obj.cells c t fr)

theorem Fr.refl (B : Nat) (w : World) : Fr B w w := ⟨Below.refl _ _, fun _ _ _ _ h _ => h⟩
theorem Fr.trans {B : Nat} {a b c : World} (h : Fr B a b) (k : Fr B b c) : Fr B a c := ⟨h.bel.trans k.bel, fun i x t f e n => k.oth i x t f (h.oth i x t f e n) n⟩
theorem Fr.drew {B : Nat} {a w : World} (h : Fr B a w) : Fr B a w.drew := ⟨h.bel.drew, fun i x t f e n => h.oth i x t f e n⟩
theorem Fr.drewN {B : Nat} {a w : World} (h : Fr B a w) (n : Nat) : Fr B a (w.drewN n) := ⟨below_drewN h.bel n, fun i x t f e n => h.oth i x t f e n⟩
theorem Fr.alloc {B : Nat} {a w : World} (h : Fr B a w) (hB : B ≤ w.heap.size) (o : Obj) : Fr B a (w.alloc o) :=
  ⟨h.bel.alloc hB o, fun i x t f e n => by
    have e' := h.oth i x t f e n
    have hi : i < w.heap.size := (Array.getElem?_eq_some_iff.1 e').1
    rw [Below.heap_alloc _ _ _ hi]
    exact e'⟩
theorem Fr.size {B : Nat} {a w : World} (h : Fr B a w) : a.heap.size ≤ w.heap.size := h.bel.size

theorem own_at {w : World} {B e size n : Nat} {v : Value} {xs : List Value} (h : w.ownsRow B e size v n xs) : ∀ k, v.ownBlock = some k → B ≤ k ∧ ∃ (c : Array Value) (fr : Nat × Nat), w.heap[k]? = some (Obj.cells c e fr) := by
  intro k hk
  rcases h.2 with ⟨rfl, _⟩ | ⟨g, cap, cur, rfl, hB, hh, _⟩
  · simp [Value.ownBlock] at hk
  · simp [Value.ownBlock] at hk
    subst hk
    exact ⟨hB, cur, _, hh⟩

theorem Fr.grown {B n : Nat} {a w w' : World} {v : Value} {xs : List Value} (h : Fr B a w) (hown : w.ownsRow B 5 1 v n xs) (hg : w.grownBy w' v.ownBlock) (hB : B ≤ w.heap.size) : Fr B a w' :=
  ⟨h.bel.grown hg hB (fun k hk => (own_at hown k hk).1), fun i x t f e ne => by
    have e' := h.oth i x t f e ne
    have hi : i < w.heap.size := (Array.getElem?_eq_some_iff.1 e').1
    rw [hg.block i hi (fun q => ?_)]
    · exact e'
    · obtain ⟨_, c, fr, hc⟩ := own_at hown i q.symm
      rw [e'] at hc
      injection hc with hc
      injection hc with _ ht _
      exact ne ht⟩

set_option maxHeartbeats 4000000 in
set_option maxRecDepth 100000 in
/-- Function 7: what comes back owns the cells that came in and, behind them, x's varint. -/
theorem uv7 (B n x : Nat) (hx : x < 18446744073709551616) (sv : Value) (xs : List Value) (w : World) (hown : w.ownsRow B 5 1 sv n xs) (hBw : B ≤ w.heap.size) (hlim : n + 10 ≤ 140737488355328) :
    Calls Yba.prog 7 #[sv, .int .u64 x] w fun e w' => ∃ v', e = .returned v' ∧ w'.ownsRow B 5 1 v' (n + (Lib.uvarint x).length) (xs ++ Lib.byteCells (Lib.uvarint x)) ∧ Fr B w w' := by
  obtain ⟨i0, hi, hz0, hz1, hz2⟩ := info_parts Yba.info5
  have hlen := Lib.uvarint_length64 hx
  go_enter Yba.func7, Yba.ntmps7
  go_wp2
  go_loopw [0, 1] (fun vb vx wr => ∃ (y : Nat) (pre : List UInt8), vx = .int .u64 y ∧ y ≤ x ∧ Lib.uvarint x = pre ++ Lib.uvarint y ∧ wr.ownsRow B 5 1 vb (n + pre.length) (xs ++ Lib.byteCells pre) ∧ Fr B w wr)
    (fun _ vx _ => (intOf vx).toNat)
  case atStart => exact ⟨x, [], rfl, Nat.le_refl _, rfl, by simpa [Lib.byteCells] using hown, Fr.refl _ _⟩
  case round =>
    obtain ⟨y, pre, rfl, hy, hsplit, hown1, hnx⟩ := hrel
    have hpl : pre.length + (Lib.uvarint y).length ≤ 10 := by
      have h2 := congrArg List.length hsplit
      rw [List.length_append] at h2
      omega
    have hyp := Lib.uvarint_pos y
    have hws := hnx.size
    by_cases h128 : 128 ≤ y
    · -- ONE BYTE WITH THE BIT 128, AND ON
      have hor : bits .or .u8 ((y : Int) % 256) 128 = ((y % 128 + 128 : Nat) : Int) := by
        rw [Lib.u8_or128_any _ (by omega) (by omega)]
        omega
      go_wp2_with (at_builtin; refine wpList_append_own _ rfl _ _ 22 rfl B 5 i0 (.int .u8 0) 1 1 Yba.underlying22 hi hz0 hz1 hz2 rfl (by decide) _ _ _ rfl (hown1.alloc _) ⟨wr.heap.size, 0, none⟩ 1 1 [Value.int .u8 ((y % 128 + 128 : Nat) : Int)] rfl rfl ?c1 ?c2 ?c3 ?c4 ?c5 ?_)
      case c1 =>
        intro j u hj
        match j, hj with
        | 0, hj => simp at hj; subst hj; simp [Addr.add]
      case c2 => intro u hu; simp at hu; subst hu; rfl
      case c3 => unfold maxLen; omega
      case c4 => omega
      case c5 => simp; omega
      intro v' w1 hown' hgrow _
      have hnx1 : Fr B w w1 := (hnx.alloc (by omega) _).grown (hown1.alloc _) hgrow (by simp; omega)
      go_wp2
      go_roundw
      case rel =>
        refine ⟨y / 128, pre ++ [(y % 128 + 128).toUInt8], by go_num, by omega, by rw [hsplit, Lib.uvarint_big h128]; simp, ?_, hnx1⟩
        have ec : ((y % 128 + 128 : Nat) : Int) = (y : Int) % 128 + 128 := by omega
        rw [Lib.byteCells_snoc pre (by omega), List.length_append, List.length_singleton, ← Nat.add_assoc, ec]
        exact hown'
      case measure => simp [intOf]; omega
    · -- THE LAST BYTE
      have hsm : Lib.uvarint y = [y.toUInt8] := Lib.uvarint_small (by omega)
      go_wp2_with (at_builtin; refine wpList_append_own _ rfl _ _ 22 rfl B 5 i0 (.int .u8 0) 1 1 Yba.underlying22 hi hz0 hz1 hz2 rfl (by decide) _ _ _ rfl (hown1.alloc _) ⟨wr.heap.size, 0, none⟩ 1 1 [Value.int .u8 (y : Int)] rfl rfl ?c1 ?c2 ?c3 ?c4 ?c5 ?_)
      case c1 =>
        intro j u hj
        match j, hj with
        | 0, hj => simp at hj; subst hj; simp [Addr.add]
      case c2 => intro u hu; simp at hu; subst hu; rfl
      case c3 => unfold maxLen; omega
      case c4 => omega
      case c5 => simp; omega
      intro v' w1 hown' hgrow _
      have hnx1 : Fr B w w1 := (hnx.alloc (by omega) _).grown (hown1.alloc _) hgrow (by simp; omega)
      go_wp2
      go_ret
      refine ⟨v', rfl, ?_, hnx1⟩
      rw [hsplit, hsm, Lib.byteCells_snoc pre (by omega), List.length_append, List.length_singleton, ← Nat.add_assoc]
      exact hown'

set_option maxHeartbeats 4000000 in
set_option maxRecDepth 100000 in
/-- Function 12: what comes back owns the cells that came in and, behind them, x's varint. -/
theorem uv12 (B n x : Nat) (hx : x < 18446744073709551616) (sv : Value) (xs : List Value) (w : World) (hown : w.ownsRow B 5 1 sv n xs) (hBw : B ≤ w.heap.size) (hlim : n + 10 ≤ 140737488355328) :
    Calls Yba.prog 12 #[sv, .int .u64 x] w fun e w' => ∃ v', e = .returned v' ∧ w'.ownsRow B 5 1 v' (n + (Lib.uvarint x).length) (xs ++ Lib.byteCells (Lib.uvarint x)) ∧ Fr B w w' := by
  obtain ⟨i0, hi, hz0, hz1, hz2⟩ := info_parts Yba.info5
  have hlen := Lib.uvarint_length64 hx
  go_enter Yba.func12, Yba.ntmps12
  go_wp2
  go_loopw [0, 1] (fun vb vx wr => ∃ (y : Nat) (pre : List UInt8), vx = .int .u64 y ∧ y ≤ x ∧ Lib.uvarint x = pre ++ Lib.uvarint y ∧ wr.ownsRow B 5 1 vb (n + pre.length) (xs ++ Lib.byteCells pre) ∧ Fr B w wr)
    (fun _ vx _ => (intOf vx).toNat)
  case atStart => exact ⟨x, [], rfl, Nat.le_refl _, rfl, by simpa [Lib.byteCells] using hown, Fr.refl _ _⟩
  case round =>
    obtain ⟨y, pre, rfl, hy, hsplit, hown1, hnx⟩ := hrel
    have hpl : pre.length + (Lib.uvarint y).length ≤ 10 := by
      have h2 := congrArg List.length hsplit
      rw [List.length_append] at h2
      omega
    have hyp := Lib.uvarint_pos y
    have hws := hnx.size
    by_cases h128 : 128 ≤ y
    · -- ONE BYTE WITH THE BIT 128, AND ON
      have hor : bits .or .u8 ((y : Int) % 256) 128 = ((y % 128 + 128 : Nat) : Int) := by
        rw [Lib.u8_or128_any _ (by omega) (by omega)]
        omega
      go_wp2_with (at_builtin; refine wpList_append_own _ rfl _ _ 22 rfl B 5 i0 (.int .u8 0) 1 1 Yba.underlying22 hi hz0 hz1 hz2 rfl (by decide) _ _ _ rfl (hown1.alloc _) ⟨wr.heap.size, 0, none⟩ 1 1 [Value.int .u8 ((y % 128 + 128 : Nat) : Int)] rfl rfl ?c1 ?c2 ?c3 ?c4 ?c5 ?_)
      case c1 =>
        intro j u hj
        match j, hj with
        | 0, hj => simp at hj; subst hj; simp [Addr.add]
      case c2 => intro u hu; simp at hu; subst hu; rfl
      case c3 => unfold maxLen; omega
      case c4 => omega
      case c5 => simp; omega
      intro v' w1 hown' hgrow _
      have hnx1 : Fr B w w1 := (hnx.alloc (by omega) _).grown (hown1.alloc _) hgrow (by simp; omega)
      go_wp2
      go_roundw
      case rel =>
        refine ⟨y / 128, pre ++ [(y % 128 + 128).toUInt8], by go_num, by omega, by rw [hsplit, Lib.uvarint_big h128]; simp, ?_, hnx1⟩
        have ec : ((y % 128 + 128 : Nat) : Int) = (y : Int) % 128 + 128 := by omega
        rw [Lib.byteCells_snoc pre (by omega), List.length_append, List.length_singleton, ← Nat.add_assoc, ec]
        exact hown'
      case measure => simp [intOf]; omega
    · -- THE LAST BYTE
      have hsm : Lib.uvarint y = [y.toUInt8] := Lib.uvarint_small (by omega)
      go_wp2_with (at_builtin; refine wpList_append_own _ rfl _ _ 22 rfl B 5 i0 (.int .u8 0) 1 1 Yba.underlying22 hi hz0 hz1 hz2 rfl (by decide) _ _ _ rfl (hown1.alloc _) ⟨wr.heap.size, 0, none⟩ 1 1 [Value.int .u8 (y : Int)] rfl rfl ?c1 ?c2 ?c3 ?c4 ?c5 ?_)
      case c1 =>
        intro j u hj
        match j, hj with
        | 0, hj => simp at hj; subst hj; simp [Addr.add]
      case c2 => intro u hu; simp at hu; subst hu; rfl
      case c3 => unfold maxLen; omega
      case c4 => omega
      case c5 => simp; omega
      intro v' w1 hown' hgrow _
      have hnx1 : Fr B w w1 := (hnx.alloc (by omega) _).grown (hown1.alloc _) hgrow (by simp; omega)
      go_wp2
      go_ret
      refine ⟨v', rfl, ?_, hnx1⟩
      rw [hsplit, hsm, Lib.byteCells_snoc pre (by omega), List.length_append, List.length_singleton, ← Nat.add_assoc]
      exact hown'
end Go.Proofs.Ybulkcdfu
