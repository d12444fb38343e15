import Derived.Test.YbulkcdfuSpanA
import Derived.Deep.OwnRows
import Derived.RegionTactic
import Derived.BigRegion
import Derived.Lib.SliceRun
namespace Go.Proofs.Ybulkcdfu
open Go.RowKit

theorem Yba.info44 : (Yba.prog.info? 44).map (fun i => (i.zero, i.size, i.bytes)) = some (some (.agg #[.int .i64 0, .int .i64 0]), 2, 16) := by kernel_rfl

/-- What cell j of the row of pairs holds when k pairs have been laid. -/
def laidF (E O : Nat → Int) (k : Nat) (j : Nat) : Value := if j / 2 < k then (if j % 2 = 0 then .int .i64 (E (j / 2)) else .int .i64 (O (j / 2))) else .int .i64 0

theorem make_pairs (n : Nat) (hn : n ≤ 1025) (w : World) :
    (Instr.makeSlice 33 (.int .i64 (n : Int)) (.int .i64 (n : Int))).run Yba.prog w = .ok (.slice (some ⟨w.heap.size, 0, none⟩) n n) (w.alloc (.cells (madeCells #[.int .i64 0, .int .i64 0] (n * 2)) 44)) := by
  obtain ⟨i, hi, hzz⟩ := Option.map_eq_some_iff.1 Yba.info44
  simp only [Prod.mk.injEq] at hzz
  obtain ⟨hz, hs, hb⟩ := hzz
  have hr := run_make (P := Yba.prog) w 33 44 i _ Yba.underlying33 hi hz .i64 .i64 n n (by omega) (Int.le_refl _) (by rw [hb]; omega) (by omega)
  simp only [Int.toNat_natCast, hs, Value.cells] at hr
  exact hr

theorem rowIs_start (w : World) (n : Nat) (E O : Nat → Int) : (w.alloc (.cells (madeCells #[.int .i64 0, .int .i64 0] (n * 2)) 44)).rowIs w.heap.size 44 (n * 2) (laidF E O 0) := by
  refine ⟨_, Deep.blk_alloc_new _ _, size_madeCells _ _, fun i hi => ?_⟩
  have h2 : i % 2 = 0 ∨ i % 2 = 1 := by omega
  rcases h2 with h | h <;> simp [madeCells, hi, laidF, h]

theorem rowIs_step {w : World} {B n k : Nat} {E O : Nat → Int} (h : w.rowIs B 44 (n * 2) (laidF E O k)) (_hk : k < n) :
    ((w.setCell ⟨B, k * 2, none⟩ (.int .i64 (E k))).setCell ⟨B, k * 2 + 1, none⟩ (.int .i64 (O k))).drew.rowIs B 44 (n * 2) (laidF E O (k + 1)) := by
  refine (((h.set (k * 2) _).set (k * 2 + 1) _).drew).congr fun j hj => ?_
  unfold laidF
  by_cases e1 : j = k * 2 + 1
  · subst e1
    rw [if_pos rfl, if_pos (by omega), if_neg (by omega), show (k * 2 + 1) / 2 = k by omega]
  · rw [if_neg e1]
    by_cases e2 : j = k * 2
    · subst e2
      rw [if_pos rfl, if_pos (by omega), if_pos (by omega), show (k * 2) / 2 = k by omega]
    · rw [if_neg e2]
      by_cases e3 : j / 2 < k
      · rw [if_pos e3, if_pos (show j / 2 < k + 1 by omega)]
      · rw [if_neg e3, if_neg (show ¬ j / 2 < k + 1 by omega)]

set_option maxHeartbeats 400000 in
theorem conv_some (b off c n : Nat) (E O : Nat → Int) (w : World) (hn : n ≤ 1024) (hbl : 0 < n → b < w.heap.size) (h1 : Pairs w b off n E O) :
    Calls Yba.prog 8 #[.slice (some ⟨b, off, none⟩) n c] w fun e w' => e = .returned (.slice (some ⟨w.heap.size, 0, none⟩) n n) ∧ Below w.heap.size w w' ∧ w'.rowIs w.heap.size 44 (n * 2) (laidF E O n) := by
  have hmk := make_pairs n (by omega)
  have q : ∀ (w : World) (a : Option Addr) (n c n' c' : Nat), (binOp .eql 31 (.slice a n c) (.slice none n' c')).run Yba.prog w = .ok (.bool a.isNone) w := fun w a n c n' c' => Lib.run_eql_slice_nil w _ _ a n c n' c' Yba.underlying31
  go_enter Yba.func8, Yba.ntmps8
  go_wp2
  go_loopw [12] (fun i wr => ∃ k : Nat, k ≤ n ∧ i = .int .i64 k ∧ Below w.heap.size w wr ∧ wr.rowIs w.heap.size 44 (n * 2) (laidF E O k)) (fun i _ => n - (intOf i).toNat)
  case atStart => exact ⟨0, by omega, rfl, (Below.refl _ _).alloc (Nat.le_refl _) _, rowIs_start _ _ _ _⟩
  case round =>
    obtain ⟨k, hk, rfl, hbel, hrow⟩ := hrel
    by_cases hlt : k < n
    · have hlt' : (k : Int) < (n : Int) := by omega
      obtain ⟨c1, c2⟩ := h1 k hlt
      have hb := hbl (by omega)
      rw [← hbel.cell (by exact hb)] at c1 c2
      have d1 := hrow.cell (i := k * 2) (by omega)
      have d2 := hrow.cell (i := k * 2 + 1) (by omega)
      have f1 := hrow.frozen (k * 2)
      have f2 := hrow.frozen (k * 2 + 1)
      generalize laidF E O k (k * 2) = x1 at d1
      generalize laidF E O k (k * 2 + 1) = x2 at d2
      clear hmk q
      go_wp2
      go_region
      go_wp2
      go_roundw
      case rel => exact ⟨k + 1, by omega, by go_num, (((hbel.setCell (Nat.le_refl _) _).setCell (Nat.le_refl _) _).drew), rowIs_step hrow hlt⟩
      case measure => simp [intOf]; omega
    · go_wp2
      go_ret
      obtain rfl : k = n := by omega
      exact ⟨rfl, hbel, hrow⟩

theorem conv_nil (w : World) : Calls Yba.prog 8 #[.slice none 0 0] w fun e w' => e = .returned (.slice none 0 0) ∧ w' = w := by
  have q : ∀ (w : World) (a : Option Addr) (n c n' c' : Nat), (binOp .eql 31 (.slice a n c) (.slice none n' c')).run Yba.prog w = .ok (.bool a.isNone) w := fun w a n c n' c' => Lib.run_eql_slice_nil w _ _ a n c n' c' Yba.underlying31
  go_enter Yba.func8, Yba.ntmps8
  go_wp2
  go_ret
  exact ⟨rfl, rfl⟩

theorem conv_zero (a : Addr) (c : Nat) (E O : Nat → Int) (w : World) :
    Calls Yba.prog 8 #[.slice (some a) 0 c] w fun e w' => e = .returned (.slice (some ⟨w.heap.size, 0, none⟩) 0 0) ∧ Below w.heap.size w w' ∧ w'.rowIs w.heap.size 44 (0 * 2) (laidF E O 0) := by
  have hmk : ∀ w, (Instr.makeSlice 33 (.int .i64 0) (.int .i64 0)).run Yba.prog w = .ok (.slice (some ⟨w.heap.size, 0, none⟩) 0 0) (w.alloc (.cells (madeCells #[.int .i64 0, .int .i64 0] (0 * 2)) 44)) := make_pairs 0 (by omega)
  have q : ∀ (w : World) (a : Option Addr) (n c n' c' : Nat), (binOp .eql 31 (.slice a n c) (.slice none n' c')).run Yba.prog w = .ok (.bool a.isNone) w := fun w a n c n' c' => Lib.run_eql_slice_nil w _ _ a n c n' c' Yba.underlying31
  go_enter Yba.func8, Yba.ntmps8
  go_wp2
  refine wp_loop_rounds 1 ?_
  rw [rounds_succ]
  go_wp2
  go_ret
  exact ⟨rfl, (Below.refl _ _).alloc (Nat.le_refl _) _, rowIs_start w 0 E O⟩
end Go.Proofs.Ybulkcdfu
