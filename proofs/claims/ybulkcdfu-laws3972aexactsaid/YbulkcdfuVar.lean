import Derived.Test.YbulkcdfuRows
import Derived.WalkKit
import Derived.WalkSpells
import Derived.WalkLawsBesides
import Derived.Lib.Walk
import Derived.Lib.VarintMem
import Derived.Lib.Slices
import Derived.Lib.AppendStr
import Derived.OwnWalk
import Derived.Deep.QuietTactic
import Derived.BigQuiet
namespace Go.Proofs.Ybulkcdfu
open Go.RowKit

theorem Yba.info5 : (Yba.prog.info? 5).map (fun i => (i.zero, i.size, i.bytes)) = some (some (.int .u8 0), 1, 1) := by kernel_rfl

/-- Below B nothing has turned; and no row of another element type than byte has turned. -/
structure Fr (B : Nat) (w w' : World) : Prop where
  bel : Below B w w'
  oth : ∀ (k : Nat) (c : Array Value) (t : TypeId) (fr : Nat × Nat), w.heap[k]? = some (Obj.cells c t fr) → t ≠ 5 → w'.heap[k]? = some (Obj.cells c t fr)

theorem Fr.refl (B : Nat) (w : World) : Fr B w w := ⟨Below.refl _ _, fun _ _ _ _ h _ => h⟩
theorem Fr.trans {B : Nat} {a b c : World} (h : Fr B a b) (k : Fr B b c) : Fr B a c := ⟨h.bel.trans k.bel, fun i x t f e n => k.oth i x t f (h.oth i x t f e n) n⟩
theorem Fr.drew {B : Nat} {a w : World} (h : Fr B a w) : Fr B a w.drew := ⟨h.bel.drew, fun i x t f e n => h.oth i x t f e n⟩
theorem Fr.drewN {B : Nat} {a w : World} (h : Fr B a w) (n : Nat) : Fr B a (w.drewN n) := ⟨below_drewN h.bel n, fun i x t f e n => h.oth i x t f e n⟩
theorem Fr.alloc {B : Nat} {a w : World} (h : Fr B a w) (hB : B ≤ w.heap.size) (o : Obj) : Fr B a (w.alloc o) :=
  ⟨h.bel.alloc hB o, fun i x t f e n => by
    have e' := h.oth i x t f e n
    have hi : i < w.heap.size := (Array.getElem?_eq_some_iff.1 e').1
    rw [Below.heap_alloc _ _ _ hi]
    exact e'⟩
theorem Fr.size {B : Nat} {a w : World} (h : Fr B a w) : a.heap.size ≤ w.heap.size := h.bel.size

theorem own_at {w : World} {B e size n : Nat} {v : Value} {xs : List Value} (h : w.ownsRow B e size v n xs) : ∀ k, v.ownBlock = some k → B ≤ k ∧ ∃ (c : Array Value) (fr : Nat × Nat), w.heap[k]? = some (Obj.cells c e fr) := by
  intro k hk
  rcases h.2 with ⟨rfl, _⟩ | ⟨g, cap, cur, rfl, hB, hh, _⟩
  · simp [Value.ownBlock] at hk
  · simp [Value.ownBlock] at hk
    subst hk
    exact ⟨hB, cur, _, hh⟩

theorem Fr.grown {B n : Nat} {a w w' : World} {v : Value} {xs : List Value} (h : Fr B a w) (hown : w.ownsRow B 5 1 v n xs) (hg : w.grownBy w' v.ownBlock) (hB : B ≤ w.heap.size) : Fr B a w' :=
  ⟨h.bel.grown hg hB (fun k hk => (own_at hown k hk).1), fun i x t f e ne => by
    have e' := h.oth i x t f e ne
    have hi : i < w.heap.size := (Array.getElem?_eq_some_iff.1 e').1
    rw [hg.block i hi (fun q => ?_)]
    · exact e'
    · obtain ⟨_, c, fr, hc⟩ := own_at hown i q.symm
      rw [e'] at hc
      injection hc with hc
      injection hc with _ ht _
      exact ne ht⟩

/-- One byte, which the translation has just laid in a block of its own, appended to an owned slice of bytes. -/
theorem wpList_push {ops : Array Oper} {rest : List Oper} {o : Oper} {a : Act} {w : World} {Q : Exit → Act → World → Prop} (hgd : o.guard = none) (s x : Operand)
    (ho : o.op = .call { callee := .builtin .append, args := #[s, x], argTypes := #[22, 22] }) (B m : Nat) (q : Int) (v : Value) (ws : List Value) (hs : a.eval s = v) (hx : a.eval x = .slice (some ⟨w.heap.size, 0, none⟩) 1 1)
    (hown : w.ownsRow B 5 1 v m ws) (hm : m + 1 ≤ 140737488355328) (hB : B ≤ w.heap.size)
    (h : ∀ v' w', w'.ownsRow B 5 1 v' (m + 1) (ws ++ [.int .u8 q]) → Fr B w w' → wpList Yba.prog ops Q rest (a.put o.dst v') w') :
    wpList Yba.prog ops Q (o :: rest) a (w.alloc (.cells #[.int .u8 q] 5)) := by
  obtain ⟨i0, hi, hz0, hz1, hz2⟩ := info_parts Yba.info5
  have hB' : B ≤ (w.alloc (.cells #[.int .u8 q] 5)).heap.size := by simp; omega
  refine wpList_append_own _ hgd s x 22 ho B 5 i0 (.int .u8 0) 1 1 Yba.underlying22 hi hz0 hz1 hz2 rfl (by decide) v m ws hs (hown.alloc _) ⟨w.heap.size, 0, none⟩ 1 1 [.int .u8 q] hx rfl (cell_one_new _ _ _) ?_ ?_ ?_ hB' ?_
  · intro u hu
    rw [List.mem_singleton] at hu
    rw [hu]
    rfl
  · unfold maxLen; omega
  · omega
  · intro v' w' h1 h2 _
    exact h v' w' h1 (((Fr.refl B w).alloc hB _).grown (hown.alloc _) h2 hB')

theorem own_len {w : World} {B m : Nat} {v : Value} {ws : List Value} (h : w.ownsRow B 5 1 v m ws) : ws.length = m := by simpa using h.1

theorem bytes_len (l : List UInt8) : (Lib.byteCells l).length = l.length := by simp [Lib.byteCells]

/-- A byte that is still to come, laid: what is owned and what is to come stay the same together. -/
theorem bytes_step {ws : List Value} {c : Nat} {l : List UInt8} (hc : c < 256) : ws ++ Lib.byteCells (c.toUInt8 :: l) = (ws ++ [.int .u8 (c : Int)]) ++ Lib.byteCells l := by
  simp [Lib.byteCells]
  omega

set_option maxHeartbeats 1000000 in
set_option maxRecDepth 100000 in
/-- Function 7, an encoder of varints: what comes back owns the cells that came in and, behind them, x's varint. -/
theorem uv7 (B n x : Nat) (hx : x < 18446744073709551616) (sv : Value) (xs : List Value) (w : World) (hown : w.ownsRow B 5 1 sv n xs) (hBw : B ≤ w.heap.size) (hlim : n + 10 ≤ 140737488355328) :
    Calls Yba.prog 7 #[sv, .int .u64 x] w fun e w' => ∃ v', e = .returned v' ∧ w'.ownsRow B 5 1 v' (n + (Lib.uvarint x).length) (xs ++ Lib.byteCells (Lib.uvarint x)) ∧ Fr B w w' := by
  have hlen := Lib.uvarint_length64 hx
  have HG : Hid (∀ (m y : Nat) (ws : List Value), ws.length = m → ws ++ Lib.byteCells (Lib.uvarint y) = xs ++ Lib.byteCells (Lib.uvarint x) → m + (Lib.uvarint y).length = n + (Lib.uvarint x).length) := by
    intro m y ws h1 h2
    have h3 := congrArg List.length h2
    rw [List.length_append, List.length_append, bytes_len, bytes_len, own_len hown] at h3
    omega
  go_enter Yba.func7, Yba.ntmps7
  go_wp2
  go_loopw [0, 1] (fun vb vx wr => ∃ (y m : Nat) (ws : List Value), vx = .int .u64 y ∧ y ≤ x ∧ wr.ownsRow B 5 1 vb m ws ∧ Hid (ws ++ Lib.byteCells (Lib.uvarint y) = xs ++ Lib.byteCells (Lib.uvarint x)) ∧ Fr B w wr) (fun _ vx _ => (intOf vx).toNat)
  case atStart => exact ⟨x, n, xs, rfl, Nat.le_refl _, hown, rfl, Fr.refl _ _⟩
  case round =>
    obtain ⟨y, m, ws, rfl, hy, ho, HE, hf⟩ := hrel
    have hl := HG.out m y ws (own_len ho) HE.out
    have hpos := Lib.uvarint_pos y
    have hws : B ≤ wr.heap.size := Nat.le_trans hBw hf.size
    have hm : m + 1 ≤ 140737488355328 := by omega
    clear hown HG hlen hlim
    by_cases hb : y < 128
    · have HS : Hid (Lib.uvarint y = [y.toUInt8]) := Lib.uvarint_small hb
      go_wp2_with (first | (at_builtin; refine wpList_push (by rfl) _ _ (by rfl) B m _ _ ws (by rfl) (by rfl) ho hm hws ?_) | fail)
      intro v1 w1 h1 hf1
      go_wp2
      go_ret
      have e1 := HE.out
      rw [HS.out, bytes_step (by omega)] at e1
      have e2 : m + 1 = n + (Lib.uvarint x).length := by rw [HS.out] at hl; simpa using hl
      rw [← e2, ← e1]
      exact ⟨v1, rfl, by simpa [Lib.byteCells] using h1, hf.trans hf1⟩
    · have HS : Hid (Lib.uvarint y = (y % 128 + 128).toUInt8 :: Lib.uvarint (y / 128)) := Lib.uvarint_big (by omega)
      have hor : bits .or .u8 ((y : Int) % 256) 128 = ((y % 128 + 128 : Nat) : Int) := by
        rw [Lib.u8_or128_any _ (by omega) (by omega)]
        omega
      go_wp2_with (first | (at_builtin; refine wpList_push (by rfl) _ _ (by rfl) B m ((y % 128 + 128 : Nat) : Int) _ ws (by rfl) (by rfl) ho hm hws ?_) | fail)
      intro v1 w1 h1 hf1
      have e1 := HE.out
      rw [HS.out, bytes_step (by omega)] at e1
      have HE1 : Hid _ := e1
      clear e1 HE HS hor
      go_wp2
      go_roundw
      case rel => exact ⟨y / 128, m + 1, _, by go_num, by omega, h1, HE1, hf.trans hf1⟩
      case measure => simp [intOf]; omega

set_option maxHeartbeats 1000000 in
set_option maxRecDepth 100000 in
/-- Function 12, an encoder of varints: what comes back owns the cells that came in and, behind them, x's varint. -/
theorem uv12 (B n x : Nat) (hx : x < 18446744073709551616) (sv : Value) (xs : List Value) (w : World) (hown : w.ownsRow B 5 1 sv n xs) (hBw : B ≤ w.heap.size) (hlim : n + 10 ≤ 140737488355328) :
    Calls Yba.prog 12 #[sv, .int .u64 x] w fun e w' => ∃ v', e = .returned v' ∧ w'.ownsRow B 5 1 v' (n + (Lib.uvarint x).length) (xs ++ Lib.byteCells (Lib.uvarint x)) ∧ Fr B w w' := by
  have hlen := Lib.uvarint_length64 hx
  have HG : Hid (∀ (m y : Nat) (ws : List Value), ws.length = m → ws ++ Lib.byteCells (Lib.uvarint y) = xs ++ Lib.byteCells (Lib.uvarint x) → m + (Lib.uvarint y).length = n + (Lib.uvarint x).length) := by
    intro m y ws h1 h2
    have h3 := congrArg List.length h2
    rw [List.length_append, List.length_append, bytes_len, bytes_len, own_len hown] at h3
    omega
  go_enter Yba.func12, Yba.ntmps12
  go_wp2
  go_loopw [0, 1] (fun vb vx wr => ∃ (y m : Nat) (ws : List Value), vx = .int .u64 y ∧ y ≤ x ∧ wr.ownsRow B 5 1 vb m ws ∧ Hid (ws ++ Lib.byteCells (Lib.uvarint y) = xs ++ Lib.byteCells (Lib.uvarint x)) ∧ Fr B w wr) (fun _ vx _ => (intOf vx).toNat)
  case atStart => exact ⟨x, n, xs, rfl, Nat.le_refl _, hown, rfl, Fr.refl _ _⟩
  case round =>
    obtain ⟨y, m, ws, rfl, hy, ho, HE, hf⟩ := hrel
    have hl := HG.out m y ws (own_len ho) HE.out
    have hpos := Lib.uvarint_pos y
    have hws : B ≤ wr.heap.size := Nat.le_trans hBw hf.size
    have hm : m + 1 ≤ 140737488355328 := by omega
    clear hown HG hlen hlim
    by_cases hb : y < 128
    · have HS : Hid (Lib.uvarint y = [y.toUInt8]) := Lib.uvarint_small hb
      go_wp2_with (first | (at_builtin; refine wpList_push (by rfl) _ _ (by rfl) B m _ _ ws (by rfl) (by rfl) ho hm hws ?_) | fail)
      intro v1 w1 h1 hf1
      go_wp2
      go_ret
      have e1 := HE.out
      rw [HS.out, bytes_step (by omega)] at e1
      have e2 : m + 1 = n + (Lib.uvarint x).length := by rw [HS.out] at hl; simpa using hl
      rw [← e2, ← e1]
      exact ⟨v1, rfl, by simpa [Lib.byteCells] using h1, hf.trans hf1⟩
    · have HS : Hid (Lib.uvarint y = (y % 128 + 128).toUInt8 :: Lib.uvarint (y / 128)) := Lib.uvarint_big (by omega)
      have hor : bits .or .u8 ((y : Int) % 256) 128 = ((y % 128 + 128 : Nat) : Int) := by
        rw [Lib.u8_or128_any _ (by omega) (by omega)]
        omega
      go_wp2_with (first | (at_builtin; refine wpList_push (by rfl) _ _ (by rfl) B m ((y % 128 + 128 : Nat) : Int) _ ws (by rfl) (by rfl) ho hm hws ?_) | fail)
      intro v1 w1 h1 hf1
      have e1 := HE.out
      rw [HS.out, bytes_step (by omega)] at e1
      have HE1 : Hid _ := e1
      clear e1 HE HS hor
      go_wp2
      go_roundw
      case rel => exact ⟨y / 128, m + 1, _, by go_num, by omega, h1, HE1, hf.trans hf1⟩
      case measure => simp [intOf]; omega
end Go.Proofs.Ybulkcdfu
