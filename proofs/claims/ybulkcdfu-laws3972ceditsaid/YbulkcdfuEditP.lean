import Derived.Test.YbulkcdfuModelW
namespace Go.Proofs.Ybulkcdfu
open Go.RowKit

/-- What stands behind the making of both tables in LawS3972CEdit. -/
structure Sd (w W : World) (ao ao1 ao2 : Option Addr) (n m c1 c2 bt bu : Nat) (E O : Nat → Int) : Prop where
  bel : Below w.heap.size w W
  t1 : Tab W bt ao1 n c1
  t2 : Tab W bu ao2 m c2
  l1 : bt < W.heap.size
  l2 : bu < W.heap.size
  v1 : View W ao1 n E O
  a1 : View W ao n E O

theorem Sd.below {w W W' : World} {ao ao1 ao2 : Option Addr} {n m c1 c2 bt bu : Nat} {E O : Nat → Int} (h : Sd w W ao ao1 ao2 n m c1 c2 bt bu E O) (hb : Below W.heap.size W W') :
    Sd w W' ao ao1 ao2 n m c1 c2 bt bu E O :=
  ⟨h.bel.trans (hb.mono h.bel.size), (hb.cell (by exact h.l1)).trans h.t1, (hb.cell (by exact h.l2)).trans h.t2, Nat.lt_of_lt_of_le h.l1 hb.size, Nat.lt_of_lt_of_le h.l2 hb.size, h.v1.below hb, h.a1.below hb⟩

theorem sd_start {w w1 w2 : World} {ao ao1 ao2 : Option Addr} {n m c c1 c2 bu : Nat} {E O : Nat → Int} {r1 r2 r3 r4 r5 s1 s2 s3 s4 s5 : Value} (ha : Arg w ao n c E O)
    (hb1 : Below w.heap.size w w1) (ho1 : w1.ownsRow w.heap.size 44 2 (.slice ao1 n c1) n (cellsL E O n))
    (hb2 : Below (w1.heap.size + 1) (w1.alloc (.cells #[.slice ao1 n c1, r1, r2, r3, r4, r5] 37)) w2) (hbu : w2.heap.size = bu) :
    Sd w (w2.alloc (.cells #[.slice ao2 m c2, s1, s2, s3, s4, s5] 37)) ao ao1 ao2 n m c1 c2 w1.heap.size bu E O := by
  subst hbu
  have k1 : Below w1.heap.size w1 (w1.alloc (.cells #[.slice ao1 n c1, r1, r2, r3, r4, r5] 37)) := (Below.refl _ _).alloc (Nat.le_refl _) _
  have k2 : Below w2.heap.size w2 (w2.alloc (.cells #[.slice ao2 m c2, s1, s2, s3, s4, s5] 37)) := (Below.refl _ _).alloc (Nat.le_refl _) _
  have hb2' : Below (w1.alloc (.cells #[.slice ao1 n c1, r1, r2, r3, r4, r5] 37)).heap.size (w1.alloc (.cells #[.slice ao1 n c1, r1, r2, r3, r4, r5] 37)) w2 := by simpa using hb2
  have z1 := hb1.size
  have z2 : w1.heap.size + 1 ≤ w2.heap.size := by have := hb2.size; simpa using this
  have t1 : Tab (w1.alloc (.cells #[.slice ao1 n c1, r1, r2, r3, r4, r5] 37)) w1.heap.size ao1 n c1 := by simp [Tab, World.cell?_alloc_at]
  have t1' : Tab w2 w1.heap.size ao1 n c1 := (hb2'.cell (by simp)).trans t1
  refine ⟨((hb1.trans (k1.mono z1)).trans (hb2'.mono (by simp; omega))).trans (k2.mono (by omega)), (k2.cell (by simp; omega)).trans t1', by simp [Tab, World.cell?_alloc_at], by simp; omega, by simp, ?_, ?_⟩
  · exact (((view_of_owns ho1).below k1).below hb2').below k2
  · exact (((ha.view.below hb1).below k1).below hb2').below k2

theorem own_parts {w : World} {B n c : Nat} {ao : Option Addr} {E O : Nat → Int} (h : w.ownsRow B 44 2 (.slice ao n c) n (cellsL E O n)) (hp : 0 < n) :
    ∃ g, ao = some ⟨g, 0, none⟩ ∧ B ≤ g ∧ g < w.heap.size ∧ n ≤ c ∧ Pairs w g 0 n E O ∧ ∀ j, w.frozen? ⟨g, j, none⟩ = false := by
  have hv := view_of_owns h
  rcases h.2 with ⟨_, h0⟩ | ⟨g, cap, cur, hv', hB, hh, hc, _, _, _⟩
  · omega
  · injection hv' with e1 e2 e3
    subst e1; subst e3
    refine ⟨g, rfl, hB, (Array.getElem?_eq_some_iff.1 hh).1, hc, ?_, fun j => h.frozenAt j⟩
    rcases hv with h0 | ⟨b, off, e, _, hp⟩
    · omega
    · injection e with e; injection e with e1 e2
      subst e1; subst e2
      exact hp

theorem pairs_end {w : World} {g n K : Nat} {E O : Nat → Int} (h : Pairs w g 0 n E O) (x : Int) (hK : K < n) :
    Pairs (w.setCell ⟨g, K * 2, none⟩ (.int .i64 x)) g 0 n (fun i => if i = K then x else E i) O := by
  intro i hi
  obtain ⟨h1, h2⟩ := h i hi
  rw [Nat.zero_add] at h1 h2 ⊢
  have hK1 := (h K hK).1
  rw [Nat.zero_add] at hK1
  refine ⟨?_, ?_⟩
  · by_cases e : i = K
    · subst e
      rw [World.cell?_setCell_same _ _ _ hK1]; simp
    · rw [World.cell?_setCell_other _ _ _ _ (by intro q; injection q with q1 q2; omega), h1]; simp [e]
  · rw [World.cell?_setCell_other _ _ _ _ (by intro q; injection q with q1 q2; omega), h2]

theorem pairs_off {w : World} {g n K : Nat} {E O : Nat → Int} (h : Pairs w g 0 n E O) (x : Int) (hK : K < n) :
    Pairs (w.setCell ⟨g, K * 2 + 1, none⟩ (.int .i64 x)) g 0 n E (fun i => if i = K then x else O i) := by
  intro i hi
  obtain ⟨h1, h2⟩ := h i hi
  rw [Nat.zero_add] at h1 h2 ⊢
  have hK1 := (h K hK).2
  rw [Nat.zero_add] at hK1
  refine ⟨?_, ?_⟩
  · rw [World.cell?_setCell_other _ _ _ _ (by intro q; injection q with q1 q2; omega), h1]
  · by_cases e : i = K
    · subst e
      rw [World.cell?_setCell_same _ _ _ hK1]; simp
    · rw [World.cell?_setCell_other _ _ _ _ (by intro q; injection q with q1 q2; omega), h2]; simp [e]

theorem eqB_all {n : Nat} {E O E' O' : Nat → Int} (h : ∀ i, i < n → E i = E' i ∧ O i = O' i) : eqB n E O E' O' = true := by
  simp only [eqB, List.all_eq_true, List.mem_range, Bool.and_eq_true, beq_iff_eq]
  exact h

theorem eqB_at {n : Nat} {E O E' O' : Nat → Int} (k : Nat) (hk : k < n) (h : ¬ (E k = E' k ∧ O k = O' k)) : eqB n E O E' O' = false := by
  cases e : eqB n E O E' O'
  · rfl
  · simp only [eqB, List.all_eq_true, List.mem_range, Bool.and_eq_true, beq_iff_eq] at e
    exact absurd (e k hk) h

theorem eqB_refl (n : Nat) (E O : Nat → Int) : eqB n E O E O = true := eqB_all fun _ _ => ⟨rfl, rfl⟩

theorem wrap64_zero {x d : Int} (h1 : -9223372036854775808 ≤ x) (h2 : x ≤ 9223372036854775807) (hd : d = 0) : wrap64 (x + d) = x := by
  unfold wrap64; omega

theorem wrap64_ne {x d : Int} (h1 : -9223372036854775808 ≤ d) (h2 : d ≤ 9223372036854775807) (hd : d ≠ 0) : wrap64 (x + d) ≠ x := by
  unfold wrap64; omega

theorem sameB_end {n K : Nat} {E O : Nat → Int} {d : Int} (hK : K < n) (h1 : -9223372036854775808 ≤ E K) (h2 : E K ≤ 9223372036854775807) (h3 : -9223372036854775808 ≤ d) (h4 : d ≤ 9223372036854775807) :
    sameB n n E O (fun i => if i = K then wrap64 (E K + d) else E i) O = (d == 0) := by
  unfold sameB
  by_cases hd : d = 0
  · rw [eqB_all]
    · simp [hd]
    · intro i _
      refine ⟨?_, rfl⟩
      show E i = if i = K then wrap64 (E K + d) else E i
      by_cases e : i = K
      · subst e; rw [if_pos rfl, wrap64_zero h1 h2 hd]
      · rw [if_neg e]
  · rw [eqB_at K hK]
    · simp [hd]
    · rintro ⟨e, _⟩
      have e' : E K = wrap64 (E K + d) := by simpa using e
      exact wrap64_ne h3 h4 hd e'.symm

theorem sameB_off {n K : Nat} {E O : Nat → Int} {d : Int} (hK : K < n) (h1 : -9223372036854775808 ≤ O K) (h2 : O K ≤ 9223372036854775807) (h3 : -9223372036854775808 ≤ d) (h4 : d ≤ 9223372036854775807) :
    sameB n n E O E (fun i => if i = K then wrap64 (O K + d) else O i) = (d == 0) := by
  unfold sameB
  by_cases hd : d = 0
  · rw [eqB_all]
    · simp [hd]
    · intro i _
      refine ⟨rfl, ?_⟩
      show O i = if i = K then wrap64 (O K + d) else O i
      by_cases e : i = K
      · subst e; rw [if_pos rfl, wrap64_zero h1 h2 hd]
      · rw [if_neg e]
  · rw [eqB_at K hK]
    · simp [hd]
    · rintro ⟨_, e⟩
      have e' : O K = wrap64 (O K + d) := by simpa using e
      exact wrap64_ne h3 h4 hd e'.symm
end Go.Proofs.Ybulkcdfu
