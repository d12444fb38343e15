import Derived.Test.YbulkcdhkDrive
import Derived.Deep.MidRow
namespace Go.Proofs.Ybulkcdhk
open Go.RowKit

/-- The 26 floats of an array value. -/
def Arr (xs : Array Value) (X : Nat → Nat) : Prop := xs.size = 26 ∧ ∀ i, i < 26 → xs[i]? = some (.float .f64 (X i))

theorem Arr.one {xs : Array Value} {X : Nat → Nat} (h : Arr xs X) : xs.all (·.oneCell') = true := by
  rw [Array.all_eq_true_iff_forall_mem]
  intro v hv
  obtain ⟨i, hi, he⟩ := Array.mem_iff_getElem.1 hv
  have h2 := h.2 i (by have := h.1; omega)
  rw [Array.getElem?_eq_getElem hi, he] at h2
  injection h2 with h2
  rw [h2]
  rfl

theorem Arr.floats {xs : Array Value} {X : Nat → Nat} (h : Arr xs X) {W : World} {b : Nat} {t : TypeId} {fr : Nat × Nat} (hb : W.heap[b]? = some (.cells xs t fr)) : Floats W b X := by
  intro i hi
  rw [cell_of_row W b i xs t fr hb]
  exact h.2 i hi

theorem heap_setCells_ne (b : Nat) : ∀ (vs : List Value) (o : Nat) (w : World) (k : Nat), k ≠ b → (w.setCells b o vs).heap[k]? = w.heap[k]?
  | [], _, _, _, _ => rfl
  | v :: r, o, w, k, h => by
    show ((w.setCell ⟨b, o, none⟩ v).setCells b (o + 1) r).heap[k]? = _
    rw [heap_setCells_ne b r (o + 1) _ k h]
    exact Below.heap_setCell _ _ _ _ h

theorem same_setCells (b : Nat) : ∀ (vs : List Value) (o : Nat) (w : World), (w.setCells b o vs).os = w.os ∧ (w.setCells b o vs).tape = w.tape ∧ (w.setCells b o vs).output = w.output ∧ (w.setCells b o vs).heap.size = w.heap.size
  | [], _, _ => ⟨rfl, rfl, rfl, rfl⟩
  | v :: r, o, w => by
    obtain ⟨h1, h2, h3, h4⟩ := same_setCells b r (o + 1) (w.setCell ⟨b, o, none⟩ v)
    exact ⟨h1, h2, h3, h4.trans (by simp [World.setCell])⟩

/-- A whole array has been stored into block b. -/
structure Stored (w W' : World) (b : Nat) (cs : Array Value) : Prop where
  os : W'.os = w.os
  tape : W'.tape = w.tape
  output : W'.output = w.output
  size : W'.heap.size = w.heap.size
  other : ∀ k, k ≠ b → W'.heap[k]? = w.heap[k]?
  cell : ∀ j v, cs[j]? = some v → W'.cell? ⟨b, j, none⟩ = some v

theorem Stored.floats {w W' : World} {b : Nat} {cs : Array Value} {X : Nat → Nat} (h : Stored w W' b cs) (hx : Arr cs X) : Floats W' b X := fun i hi => h.cell i _ (hx.2 i hi)

theorem Stored.below {B : Nat} {a w W' : World} {b : Nat} {cs : Array Value} (h : Stored w W' b cs) (hb : Below B a w) (hB : B ≤ b) : Below B a W' :=
  hb.trans ⟨h.os, h.tape, h.output, Nat.le_of_eq h.size.symm, fun k hk => h.other k (by omega)⟩

theorem there_new {W : World} {c : Array Value} {t : TypeId} {g n : Nat} (hg : W.heap.size = g) (hn : n ≤ c.size) : (W.alloc (.cells c t)).there g 0 n := by
  subst hg
  intro j hj
  have hb := heap_alloc_new W (.cells c t)
  refine ⟨?_, ?_⟩
  · rw [Nat.zero_add, cell_of_row _ _ j c t (0, 0) hb, Array.getElem?_eq_getElem (by omega)]
    rfl
  · rw [Nat.zero_add]
    exact frozen_of_row _ _ j c t hb

theorem wpList_store_arr {P : Program} {ops : Array Oper} {rest : List Oper} {op : Oper} {a : Act} {w : World} {Q : Exit → Act → World → Prop} (hgd : op.guard = none) (ty : TypeId) (x y : Operand) (ho : op.op = .store ty x y)
    (b : Nat) (cells : Array Value) (hx : a.eval x = .pointer (some ⟨b, 0, none⟩)) (hy : a.eval y = .agg cells)
    (ht : w.there b 0 cells.size) (hi : (P.info? ty).map (·.size) = some cells.size) (h1 : cells.all (·.oneCell') = true)
    (h : ∀ W', Stored w W' b cells → wpList P ops Q rest (a.put op.dst undef) W') : wpList P ops Q (op :: rest) a w := by
  refine wpList_store_mid hgd ty x y ho b 0 cells hx hy ht hi h1 (h _ ?_)
  obtain ⟨h1, h2, h3, h4⟩ := same_setCells b cells.toList 0 w
  refine ⟨h1, h2, h3, h4, fun k hk => heap_setCells_ne b _ _ _ _ hk, fun j v hv => ?_⟩
  have := World.rangeAt_setCells_same w b 0 cells.toList (by simpa using ht) j v (by simpa using hv)
  simpa using this

/-- What the law's two arrays, and their copies, hold. -/
structure D (w W : World) (bc : Nat) (X Y : Nat → Nat) : Prop where
  bel : Below w.heap.size w W
  f0 : Floats W w.heap.size X
  f1 : Floats W (w.heap.size + 1) Y
  f2 : Floats W (w.heap.size + 1 + 1) X
  f3 : Floats W bc Y

theorem D.below {w W W' : World} {bc : Nat} {X Y : Nat → Nat} (h : D w W bc X Y) (hb : Below W.heap.size W W') : D w W' bc X Y :=
  ⟨h.bel.trans (hb.mono h.bel.size), h.f0.below hb, h.f1.below hb, h.f2.below hb, h.f3.below hb⟩

theorem alloc3_0 (w : World) (A B Z : Obj) : (((w.alloc A).alloc B).alloc Z).heap[w.heap.size]? = some A := by
  rw [Below.heap_alloc _ Z w.heap.size (by simp; omega)]
  exact heap_alloc2_old w A B

theorem alloc3_1 (w : World) (A B Z : Obj) : (((w.alloc A).alloc B).alloc Z).heap[w.heap.size + 1]? = some B := by
  rw [Below.heap_alloc _ Z (w.heap.size + 1) (by simp)]
  exact heap_alloc2_new w A B

theorem d_start {w W1 W2 : World} {xs ys : Array Value} {X Y : Nat → Nat} {Z Z' : Obj} (hx : Arr xs X) (hy : Arr ys Y)
    (st1 : Stored (((w.alloc (.cells xs 23)).alloc (.cells ys 23)).alloc Z) W1 (w.heap.size + 1 + 1) xs) (st2 : Stored (W1.alloc Z') W2 W1.heap.size ys) : D w W2 W1.heap.size X Y := by
  have hs : W1.heap.size = w.heap.size + 3 := by rw [st1.size]; simp
  have k0 : Below w.heap.size w (((w.alloc (.cells xs 23)).alloc (.cells ys 23)).alloc Z) := (((Below.refl _ _).alloc (Nat.le_refl _) _).alloc (by simp) _).alloc (by simp; omega) _
  have k1 : Below w.heap.size w W1 := st1.below k0 (by omega)
  have k2 : Below W1.heap.size W1 W2 := st2.below ((Below.refl _ _).alloc (Nat.le_refl _) _) (Nat.le_refl _)
  have e0 : W1.heap[w.heap.size]? = some (.cells xs 23 (0, 0)) := by rw [st1.other _ (by omega)]; exact alloc3_0 w _ _ _
  have e1 : W1.heap[w.heap.size + 1]? = some (.cells ys 23 (0, 0)) := by rw [st1.other _ (by omega)]; exact alloc3_1 w _ _ _
  exact ⟨k1.trans (k2.mono (by omega)), (hx.floats e0).below k2, (hy.floats e1).below k2, (st1.floats hx).below k2, st2.floats hy⟩

theorem info23 : (Yba.prog.info? 23).map (·.size) = some 26 := by kernel_rfl
theorem info24 : (Yba.prog.info? 24).map (·.size) = some 26 := by kernel_rfl
end Go.Proofs.Ybulkcdhk
