import Derived.Test.YbulkcdfuSpanB
namespace Go.Proofs.Ybulkcdfu
open Go.RowKit

/-- The first n pairs of the two tables are equal. -/
def eqB (n : Nat) (E O E' O' : Nat → Int) : Bool := (List.range n).all fun i => E i == E' i && O i == O' i

theorem eqB_succ (n : Nat) (E O E' O' : Nat → Int) : eqB (n + 1) E O E' O' = (eqB n E O E' O' && (E n == E' n && O n == O' n)) := by
  simp [eqB, List.range_succ]

theorem eqB_mono {k n : Nat} (h : k ≤ n) {E O E' O' : Nat → Int} (hf : eqB k E O E' O' = false) : eqB n E O E' O' = false := by
  induction n with
  | zero => obtain rfl : k = 0 := by omega
            exact hf
  | succ n ih =>
    by_cases e : k = n + 1
    · subst e; exact hf
    · rw [eqB_succ, ih (by omega)]; rfl

/-- What the two pointers lead to. -/
def Tab (w : World) (b : Nat) (ao : Option Addr) (n c : Nat) : Prop := w.cell? ⟨b, 0, none⟩ = some (.slice ao n c)

set_option maxHeartbeats 400000 in
theorem same_diff (bt bu : Nat) (ta ua : Option Addr) (n m ct cu : Nat) (w : World) (ht : Tab w bt ta n ct) (hu : Tab w bu ua m cu) (hne : n ≠ m) :
    Calls Yba.prog 9 #[.pointer (some ⟨bt, 0, none⟩), .pointer (some ⟨bu, 0, none⟩)] w fun e w' => e = .returned (.bool false) ∧ Below w.heap.size w w' := by
  unfold Tab at ht hu
  have hd : ((n : Int) != (m : Int)) = true := by rw [bne_iff_ne]; omega
  go_enter Yba.func9, Yba.ntmps9
  go_wp2
  go_quiet (fail)
  go_wp2
  go_ret
  exact ⟨rfl, below_drewN (Below.refl _ _) _⟩

set_option maxHeartbeats 400000 in
theorem same_zero (bt bu : Nat) (ta ua : Option Addr) (ct cu : Nat) (w : World) (ht : Tab w bt ta 0 ct) (hu : Tab w bu ua 0 cu) :
    Calls Yba.prog 9 #[.pointer (some ⟨bt, 0, none⟩), .pointer (some ⟨bu, 0, none⟩)] w fun e w' => e = .returned (.bool true) ∧ Below w.heap.size w w' := by
  unfold Tab at ht hu
  go_enter Yba.func9, Yba.ntmps9
  go_wp2
  go_quiet (fail)
  go_wp2
  refine wp_loop_rounds 1 ?_
  rw [rounds_succ]
  go_wp2
  go_ret
  exact ⟨rfl, below_drewN (Below.refl _ _) _⟩

set_option maxHeartbeats 400000 in
theorem same_some (bt bu b off b' off' n ct cu : Nat) (E O E' O' : Nat → Int) (w : World) (ht : Tab w bt (some ⟨b, off, none⟩) n ct) (hu : Tab w bu (some ⟨b', off', none⟩) n cu) (hn : n ≤ 1025)
    (l2 : bu < w.heap.size) (l3 : b < w.heap.size) (l4 : b' < w.heap.size) (h1 : Pairs w b off n E O) (h2 : Pairs w b' off' n E' O') :
    Calls Yba.prog 9 #[.pointer (some ⟨bt, 0, none⟩), .pointer (some ⟨bu, 0, none⟩)] w fun e w' => e = .returned (.bool (eqB n E O E' O')) ∧ Below w.heap.size w w' := by
  unfold Tab at ht hu
  go_enter Yba.func9, Yba.ntmps9
  go_wp2
  go_quiet (fail)
  go_wp2
  go_loopw [23] (fun i wr => ∃ k : Nat, k ≤ n ∧ i = .int .i64 k ∧ Below w.heap.size w wr ∧ Hid (eqB k E O E' O' = true)) (fun i _ => n - (intOf i).toNat)
  case atStart => exact ⟨0, by omega, rfl, below_drewN (Below.refl _ _) _, rfl⟩
  case round =>
    obtain ⟨k, hk, rfl, hbel, hE⟩ := hrel
    by_cases hlt : k < n
    · have hlt' : (k : Int) < (n : Int) := by omega
      obtain ⟨c1, c2⟩ := h1 k hlt
      obtain ⟨c3, c4⟩ := h2 k hlt
      rw [← hbel.cell (by exact l3)] at c1 c2
      rw [← hbel.cell (by exact l4)] at c3 c4
      rw [← hbel.cell (by exact l2)] at hu
      have hsz := hbel.size
      have m2 : bu < wr.heap.size := by omega
      have m3 : b < wr.heap.size := by omega
      have m4 : b' < wr.heap.size := by omega
      have hes := eqB_succ k E O E' O'
      rw [hE.out] at hes
      have HE : Hid (eqB (k + 1) E O E' O' = (true && (E k == E' k && O k == O' k))) := hes
      clear hes hE
      cases e1 : (E k == E' k)
      · go_wp2
        go_quiet (fail)
        go_wp2
        go_ret
        refine ⟨?_, below_drewN (hbel.alloc hsz _) _⟩
        rw [eqB_mono (k := k + 1) (by omega) (by rw [HE.out, e1]; rfl)]
        rfl
      · cases e2 : (O k == O' k)
        · go_wp2
          go_quiet (fail)
          go_wp2
          go_ret
          refine ⟨?_, below_drewN (hbel.alloc hsz _) _⟩
          rw [eqB_mono (k := k + 1) (by omega) (by rw [HE.out, e1, e2]; rfl)]
          rfl
        · go_wp2
          go_quiet (fail)
          go_wp2
          go_roundw
          case rel => exact ⟨k + 1, by omega, by go_num, below_drewN (hbel.alloc hsz _) _, show _ = _ by rw [HE.out, e1, e2]; rfl⟩
          case measure => simp [intOf]; omega
    · go_wp2
      go_ret
      have e : k = n := by omega
      have hE' := hE.out
      rw [e] at hE'
      exact ⟨by rw [hE']; rfl, hbel⟩
end Go.Proofs.Ybulkcdfu
