import Derived.Test.YbulkcdfuSpanC
namespace Go.Proofs.Ybulkcdfu
open Go.RowKit

/-- A slice value's elements: none, or n pairs behind its address, in a block that is there. -/
def View (w : World) (ao : Option Addr) (n : Nat) (E O : Nat → Int) : Prop := n = 0 ∨ ∃ b off, ao = some ⟨b, off, none⟩ ∧ b < w.heap.size ∧ Pairs w b off n E O

theorem View.below {w w' : World} {ao : Option Addr} {n : Nat} {E O : Nat → Int} (h : View w ao n E O) (hb : Below w.heap.size w w') : View w' ao n E O := by
  rcases h with h | ⟨b, off, rfl, hl, hp⟩
  · exact .inl h
  · refine .inr ⟨b, off, rfl, by have := hb.size; omega, fun i hi => ?_⟩
    rw [hb.cell (by exact hl), hb.cell (by exact hl)]
    exact hp i hi

/-- The cells of n pairs, in a row. -/
def cellsL (E O : Nat → Int) (n : Nat) : List Value := (List.range (n * 2)).map (laidF E O n)

theorem owns_of_rowIs {w : World} {g B n : Nat} {E O : Nat → Int} (hn : n ≤ 1024) (hB : B ≤ g) (h : w.rowIs g 44 (n * 2) (laidF E O n)) : w.ownsRow B 44 2 (.slice (some ⟨g, 0, none⟩) n n) n (cellsL E O n) := by
  obtain ⟨c, hb, hs, hc⟩ := h
  refine ⟨by simp [cellsL], .inr ⟨g, n, c, rfl, hB, hb, Nat.le_refl _, by unfold maxLen; omega, hs, ?_⟩⟩
  apply List.ext_getElem?
  intro j
  by_cases hj : j < n * 2
  · simp [cellsL, hj, hc j hj]
  · simp [cellsL, hj, List.getElem?_take]

theorem view_of_owns {w : World} {B n c : Nat} {ao : Option Addr} {E O : Nat → Int} (h : w.ownsRow B 44 2 (.slice ao n c) n (cellsL E O n)) : View w ao n E O := by
  rcases h.2 with ⟨_, h0⟩ | ⟨g, cap, cur, hv, _, hh, _, _, _, _⟩
  · exact .inl h0
  · injection hv with e1 e2 e3
    subst e1; subst e3
    refine .inr ⟨g, 0, rfl, (Array.getElem?_eq_some_iff.1 hh).1, fun i hi => ?_⟩
    rw [Nat.zero_add, h.cellAt (i * 2) (by omega), h.cellAt (i * 2 + 1) (by omega)]
    constructor
    · simp [cellsL, laidF, show i * 2 < n * 2 by omega, show i * 2 / 2 = i by omega, hi]
    · simp [cellsL, laidF, show i * 2 + 1 < n * 2 by omega, show (i * 2 + 1) / 2 = i by omega, hi, show (i * 2 + 1) % 2 = 1 by omega]

/-- The argument: nil, or not nil with its pairs. -/
def Arg (w : World) (ao : Option Addr) (n c : Nat) (E O : Nat → Int) : Prop := (ao = none ∧ n = 0 ∧ c = 0) ∨ (∃ a, ao = some a ∧ View w ao n E O)

theorem Arg.view {w : World} {ao : Option Addr} {n c : Nat} {E O : Nat → Int} (h : Arg w ao n c E O) : View w ao n E O := by
  rcases h with ⟨_, h, _⟩ | ⟨_, _, h⟩
  · exact .inl h
  · exact h

theorem Arg.below {w w' : World} {ao : Option Addr} {n c : Nat} {E O : Nat → Int} (h : Arg w ao n c E O) (hb : Below w.heap.size w w') : Arg w' ao n c E O := by
  rcases h with h | ⟨a, rfl, h⟩
  · exact .inl h
  · exact .inr ⟨a, rfl, h.below hb⟩

theorem conv_any (ao : Option Addr) (n c : Nat) (E O : Nat → Int) (w : World) (hn : n ≤ 1024) (h : Arg w ao n c E O) :
    Calls Yba.prog 8 #[.slice ao n c] w fun e w' => ∃ ao' c', e = .returned (.slice ao' n c') ∧ Below w.heap.size w w' ∧ w'.ownsRow w.heap.size 44 2 (.slice ao' n c') n (cellsL E O n) := by
  rcases h with ⟨rfl, rfl, rfl⟩ | ⟨a, rfl, h | ⟨b, off, ha, hl, hp⟩⟩
  · refine (conv_nil w).mono fun e w' ⟨he, hw⟩ => ?_
    subst hw
    exact ⟨none, 0, he, Below.refl _ _, by simp [cellsL], .inl ⟨rfl, rfl⟩⟩
  · subst h
    refine (conv_zero a c E O w).mono fun e w' ⟨he, hb, hr⟩ => ?_
    exact ⟨_, _, he, hb, owns_of_rowIs hn (Nat.le_refl _) hr⟩
  · injection ha with ha
    subst ha
    refine (conv_some b off c n E O w hn (fun _ => hl) hp).mono fun e w' ⟨he, hb, hr⟩ => ?_
    exact ⟨_, _, he, hb, owns_of_rowIs hn (Nat.le_refl _) hr⟩

def sameB (n m : Nat) (E O E' O' : Nat → Int) : Bool := decide (n = m) && eqB n E O E' O'

theorem eqB_symm (n : Nat) (E O E' O' : Nat → Int) : eqB n E O E' O' = eqB n E' O' E O := by
  induction n with
  | zero => rfl
  | succ n ih => rw [eqB_succ, eqB_succ, ih, BEq.comm (a := E n), BEq.comm (a := O n)]

theorem sameB_symm (n m : Nat) (E O E' O' : Nat → Int) : sameB n m E O E' O' = sameB m n E' O' E O := by
  unfold sameB
  by_cases h : n = m
  · subst h; rw [eqB_symm]
  · simp [h, show ¬ m = n from fun e => h e.symm]

theorem same_any (bt bu : Nat) (ta ua : Option Addr) (n m ct cu : Nat) (E O E' O' : Nat → Int) (w : World) (ht : Tab w bt ta n ct) (hu : Tab w bu ua m cu) (hn : n ≤ 1025)
    (l2 : bu < w.heap.size) (h1 : View w ta n E O) (h2 : View w ua m E' O') :
    Calls Yba.prog 9 #[.pointer (some ⟨bt, 0, none⟩), .pointer (some ⟨bu, 0, none⟩)] w fun e w' => e = .returned (.bool (sameB n m E O E' O')) ∧ Below w.heap.size w w' := by
  by_cases hnm : n = m
  · subst hnm
    have hs : sameB n n E O E' O' = eqB n E O E' O' := by simp [sameB]
    rw [hs]
    rcases h1 with rfl | ⟨b, off, rfl, l3, h1⟩
    · exact same_zero bt bu ta ua ct cu w ht hu
    · rcases h2 with rfl | ⟨b', off', rfl, l4, h2⟩
      · exact same_zero bt bu _ ua ct cu w ht hu
      · exact same_some bt bu b off b' off' n ct cu E O E' O' w ht hu hn l2 l3 l4 h1 h2
  · have hs : sameB n m E O E' O' = false := by simp [sameB, hnm]
    rw [hs]
    exact same_diff bt bu ta ua n m ct cu w ht hu hnm

theorem csame_zero (sa aa : Option Addr) (c c' : Nat) (w : World) :
    Calls Yba.prog 10 #[.slice sa 0 c, .slice aa 0 c'] w fun e w' => e = .returned (.bool true) ∧ ∃ m, w' = w.drewN m := by
  go_enter Yba.func10, Yba.ntmps10
  go_wp2
  refine wp_loop_rounds 1 ?_
  rw [rounds_succ]
  go_wp2
  go_ret
  exact ⟨rfl, 0, rfl⟩

theorem csame_any (sa aa : Option Addr) (n c c' : Nat) (E O : Nat → Int) (w : World) (hn : n ≤ 1025) (h1 : View w sa n E O) (h2 : View w aa n E O) :
    Calls Yba.prog 10 #[.slice sa n c, .slice aa n c'] w fun e w' => e = .returned (.bool true) ∧ ∃ m, w' = w.drewN m := by
  rcases h1 with rfl | ⟨b, off, rfl, l3, h1⟩
  · exact csame_zero sa aa c c' w
  · rcases h2 with rfl | ⟨b', off', rfl, l4, h2⟩
    · exact csame_zero _ aa c c' w
    · exact csame_yes b off c b' off' c' n E O w hn h1 h2
end Go.Proofs.Ybulkcdfu
