import Derived.Test.YbulkcdfuFields
import Derived.Deep.OwnRows
import Derived.Laws.CopyOwn
import Derived.Laws.AppendOwnNone
namespace Go.Proofs.Ybulkcdfu
open Go.RowKit

theorem Yba.info25 : (Yba.prog.info? 25).map (fun i => (i.zero, i.size, i.bytes)) = some (some (.pointer none), 1, 8) := by kernel_rfl

theorem add_block (a : Addr) (j : Nat) : (a.add j).block = a.block := by
  unfold Addr.add
  split <;> rfl

/-- The bytes of the first argument. -/
def PreArg (w : World) (ao : Option Addr) (n c : Nat) (P : List Int) : Prop :=
  P.length = n ∧ ((ao = none ∧ n = 0 ∧ c = 0) ∨ ∃ ad : Addr, ao = some ad ∧ (∀ j, j < n → w.cell? (ad.add j) = some (.int .u8 (P.getD j 0))) ∧ (0 < n → ad.block < w.heap.size))

theorem PreArg.below {w w' : World} {ao : Option Addr} {n c : Nat} {P : List Int} (h : PreArg w ao n c P) (hb : Below w.heap.size w w') : PreArg w' ao n c P := by
  obtain ⟨h1, h2⟩ := h
  refine ⟨h1, ?_⟩
  rcases h2 with h2 | ⟨ad, rfl, hc, hl⟩
  · exact .inl h2
  · refine .inr ⟨ad, rfl, fun j hj => ?_, fun h0 => Nat.lt_of_lt_of_le (hl h0) hb.size⟩
    rw [hb.cell (by rw [add_block]; exact hl (by omega))]
    exact hc j hj

theorem cells_get {w : World} {ad : Addr} {P : List Int} (hc : ∀ j, j < P.length → w.cell? (ad.add j) = some (.int .u8 (P.getD j 0))) : ∀ j u, (P.map (Value.int .u8))[j]? = some u → w.cell? (ad.add j) = some u := by
  intro j u hu
  rw [List.getElem?_map] at hu
  obtain ⟨x, hx, rfl⟩ := Option.map_eq_some_iff.1 hu
  obtain ⟨hj, hx'⟩ := List.getElem?_eq_some_iff.1 hx
  rw [hc j hj, List.getD, hx]
  rfl

/-- The strings of the argument 'strs'. -/
def StrArg (w : World) (ao : Option Addr) (N : Nat) (S : Nat → ByteArray) : Prop :=
  N = 0 ∨ ∃ b o, ao = some ⟨b, o, none⟩ ∧ b < w.heap.size ∧ ∀ k, k < N → w.cell? ⟨b, o + k, none⟩ = some (.string (S k))

theorem StrArg.below {w w' : World} {ao : Option Addr} {N : Nat} {S : Nat → ByteArray} (h : StrArg w ao N S) (hb : Below w.heap.size w w') : StrArg w' ao N S := by
  rcases h with h | ⟨b, o, rfl, hl, hc⟩
  · exact .inl h
  · refine .inr ⟨b, o, rfl, Nat.lt_of_lt_of_le hl hb.size, fun k hk => ?_⟩
    rw [hb.cell (by exact hl)]
    exact hc k hk

theorem StrArg.at {w : World} {ao : Option Addr} {N : Nat} {S : Nat → ByteArray} (h : StrArg w ao N S) {k : Nat} (hk : k < N) : ∃ b o, ao = some ⟨b, o, none⟩ ∧ b < w.heap.size ∧ w.cell? ⟨b, o + k, none⟩ = some (.string (S k)) := by
  rcases h with h | ⟨b, o, e, hl, hc⟩
  · omega
  · exact ⟨b, o, e, hl, hc k hk⟩

theorem owns_below {B e size n : Nat} {v : Value} {xs : List Value} {W W' : World} (h : W.ownsRow B e size v n xs) (hb : Below W.heap.size W W') : W'.ownsRow B e size v n xs := by
  refine ⟨h.1, ?_⟩
  rcases h.2 with h2 | ⟨g, cap, cur, hv, hB, hh, h3⟩
  · exact .inl h2
  · exact .inr ⟨g, cap, cur, hv, hB, (hb.block g (Array.getElem?_eq_some_iff.1 hh).1).trans hh, h3⟩

theorem Fields.below {W W' : World} {F N : Nat} {Pk : Nat → Nat} {S : Nat → ByteArray} (h : Fields W F N Pk S) (hb : Below W.heap.size W W') : Fields W' F N Pk S := by
  obtain ⟨⟨c, fr, h1, h2⟩, h3⟩ := h
  refine ⟨⟨c, fr, (hb.block F (Array.getElem?_eq_some_iff.1 h1).1).trans h1, h2⟩, fun k hk => ?_⟩
  obtain ⟨f, hx⟩ := h3 k hk
  exact ⟨f, (hb.block _ (Array.getElem?_eq_some_iff.1 hx).1).trans hx⟩

/-- What stands once appendStringFields has come back. -/
structure G (w W : World) (got : Value) (L : Nat) (cs : List Value) (F N : Nat) (Pk : Nat → Nat) (S : Nat → ByteArray) : Prop where
  bel : Below w.heap.size w W
  own : W.ownsRow w.heap.size 5 1 got L cs
  fl : Fields W F N Pk S

theorem G.below {w W W' : World} {got : Value} {L : Nat} {cs : List Value} {F N : Nat} {Pk : Nat → Nat} {S : Nat → ByteArray} (h : G w W got L cs F N Pk S) (hb : Below W.heap.size W W') : G w W' got L cs F N Pk S :=
  ⟨h.bel.trans (hb.mono h.bel.size), owns_below h.own hb, h.fl.below hb⟩

theorem own_shape {w : World} {B e size n : Nat} {v : Value} {xs : List Value} (h : w.ownsRow B e size v n xs) : ∃ ao c, v = .slice ao n c := by
  rcases h.2 with ⟨rfl, rfl⟩ | ⟨g, cap, _, hv, _⟩
  · exact ⟨_, _, rfl⟩
  · exact ⟨_, _, hv⟩

theorem own_get {w : World} {B L c : Nat} {ao : Option Addr} {T : List Int} (h : w.ownsRow B 5 1 (.slice ao L c) L (T.map (Value.int .u8))) {j : Nat} (hj : j < L) :
    ∃ g, ao = some ⟨g, 0, none⟩ ∧ w.cell? ⟨g, j, none⟩ = some (.int .u8 (T.getD j 0)) := by
  rcases h.2 with ⟨_, h0⟩ | ⟨g, cap, cur, hv, _, _, _⟩
  · omega
  · injection hv with e1 e2 e3
    subst e1; subst e3
    refine ⟨g, rfl, ?_⟩
    have hl : T.length = L := by simpa using h.1
    rw [h.cellAt j (by omega), List.getElem?_map, List.getD, List.getElem?_eq_getElem (by omega)]
    rfl

theorem own_of_splice {w : World} {B g n : Nat} {cur cs : List Value} (h : w.heap[g]? = some (.cells (splice cur 0 cs).toArray 5 (0, 0))) (hB : B ≤ g) (hc : cur.length = n) (hs : cs.length = n) (hn : n ≤ 4096) :
    w.ownsRow B 5 1 (.slice (some ⟨g, 0, none⟩) n n) n cs := by
  have e : splice cur 0 cs = cs := by
    unfold splice
    rw [List.drop_eq_nil_of_le (by omega)]
    simp
  rw [e] at h
  exact ⟨by omega, .inr ⟨g, n, _, rfl, hB, h, Nat.le_refl _, by unfold maxLen; omega, by simp [hs], by simp [← hs]⟩⟩

/-- 'append(out, xs...)', out the call's own, xs nil or not. -/
theorem wpList_append_src {P : Program} {w : World} {ops : Array Oper} {rest : List Oper} {o : Oper} {a : Act} {Q : Exit → Act → World → Prop} (hgd : o.guard = none) (s x : Operand) (t : TypeId)
    (ho : o.op = .call { callee := .builtin .append, args := #[s, x], argTypes := #[t, t] })
    (base : Nat) (e : TypeId) (i : TypeInfo) (z : Value) (bytes : Nat) (ht : P.underlying t = some (.slice e)) (hi : P.info? e = some i) (hz : i.zero = some z)
    (hsize : i.size = 1) (hby : i.bytes = bytes) (hzs : z.cells.size = 1)
    (v : Value) (n : Nat) (xs : List Value) (hs : a.eval s = v) (hown : w.ownsRow base e 1 v n xs)
    (ao : Option Addr) (m c : Nat) (news : List Value) (hx : a.eval x = .slice ao m c) (hl : news.length = m) (hnil : ao = none → m = 0 ∧ c = 0) (hnews : ∀ ad, ao = some ad → ∀ j u, news[j]? = some u → w.cell? (ad.add j) = some u) (h1 : ∀ u ∈ news, u.oneCell' = true)
    (h63 : n + m ≤ maxLen) (hbytes : (n + m) * bytes ≤ 140737488355328) (hbase : base ≤ w.heap.size)
    (h : ∀ v' w', w'.ownsRow base e 1 v' (n + m) (xs ++ news) → Below base w w' → wpList P ops Q rest (a.put o.dst v') w') : wpList P ops Q (o :: rest) a w := by
  cases ao with
  | none =>
    obtain ⟨rfl, rfl⟩ := hnil rfl
    obtain rfl : news = [] := List.eq_nil_of_length_eq_zero hl
    refine wpList_append_own_none hgd s x t ho base e i 1 ht hi v n xs hs hown hx (h v w ?_ (Below.refl _ _))
    simpa using hown
  | some ad =>
    refine wpList_append_own w hgd s x t ho base e i z 1 bytes ht hi hz hsize hby hzs (by decide) v n xs hs hown ad m c news hx (by omega) (hnews ad rfl) h1 h63 hbytes hbase ?_
    intro v' w' h2 h3 _
    exact h v' w' h2 ((Below.refl _ _).grown h3 hbase (fun k hk => (own_at hown k hk).1))

theorem own_next2 {w : World} {B n : Nat} {v : Value} {xs : List Value} {E p q : List UInt8} {s : ByteArray}
    (h : w.ownsRow B 5 1 v (n + E.length + p.length + q.length + s.size) (xs ++ Lib.byteCells E ++ Lib.byteCells p ++ Lib.byteCells q ++ Lib.strCells s)) :
    w.ownsRow B 5 1 v (n + (E ++ ((p ++ q) ++ s.data.toList)).length) (xs ++ Lib.byteCells (E ++ ((p ++ q) ++ s.data.toList))) := by
  refine own_next ?_
  have e1 : n + E.length + (p ++ q).length + s.size = n + E.length + p.length + q.length + s.size := by rw [List.length_append]; omega
  have e2 : xs ++ Lib.byteCells E ++ Lib.byteCells (p ++ q) ++ Lib.strCells s = xs ++ Lib.byteCells E ++ Lib.byteCells p ++ Lib.byteCells q ++ Lib.strCells s := by
    rw [byteCells_append]
    simp only [List.append_assoc]
  rw [e1, e2]
  exact h

theorem PreArg.nil {w : World} {ao : Option Addr} {n c : Nat} {P : List Int} (h : PreArg w ao n c P) : ao = none → n = 0 ∧ c = 0 := by
  intro e
  rcases h.2 with ⟨_, h1, h2⟩ | ⟨ad, e2, _⟩
  · exact ⟨h1, h2⟩
  · rw [e] at e2; cases e2

theorem PreArg.news {w : World} {ao : Option Addr} {n c : Nat} {P : List Int} (h : PreArg w ao n c P) : ∀ ad, ao = some ad → ∀ j u, (P.map (Value.int .u8))[j]? = some u → w.cell? (ad.add j) = some u := by
  intro ad e
  obtain ⟨hl, h⟩ := h
  rcases h with ⟨e2, _, _⟩ | ⟨ad2, e2, hc, _⟩
  · rw [e] at e2; cases e2
  · rw [e] at e2
    injection e2 with e2
    subst e2
    exact cells_get (fun j hj => hc j (by omega))

theorem all_bytes (P : List Int) (E : List UInt8) : P.map (Value.int .u8) ++ Lib.byteCells E = (P ++ E.map (fun b => (b.toNat : Int))).map (Value.int .u8) := by
  simp [Lib.byteCells]

/-- What stands behind k rounds of the loop that lays the boxes of the strings. -/
structure L2 (W wr : World) (F N k : Nat) (S : Nat → ByteArray) : Prop where
  bel : Below F W wr
  size : wr.heap.size = F + 1 + k
  row : wr.rowIs F 25 N (fun j => if j < k then .pointer (some ⟨F + 1 + j, 0, none⟩) else .pointer none)
  box : ∀ j, j < k → wr.heap[F + 1 + j]? = some (.cells #[.string (S j)] 9 (0, 0))

theorem L2.start (W : World) (N : Nat) (S : Nat → ByteArray) : L2 W (W.alloc (.cells (madeCells #[.pointer none] N) 25)) W.heap.size N 0 S :=
  ⟨(Below.refl _ _).alloc (Nat.le_refl _) _, by simp, (World.rowIs_made W (.pointer none) N 25).congr (fun j _ => by simp), fun j hj => by omega⟩

theorem L2.step {W wr : World} {F N k : Nat} {S : Nat → ByteArray} (h : L2 W wr F N k S) : L2 W ((wr.setCell ⟨F, k, none⟩ (.pointer (some ⟨wr.heap.size, 0, none⟩))).alloc (.cells #[.string (S k)] 9)) F N (k + 1) S := by
  have hs := h.size
  have hz : (wr.setCell ⟨F, k, none⟩ (.pointer (some ⟨wr.heap.size, 0, none⟩))).heap.size = wr.heap.size := Deep.nblk_setCell _ _ _
  refine ⟨(h.bel.setCell (Nat.le_refl _) _).alloc (by omega) _, ?_, ?_, ?_⟩
  · rw [Deep.nblk_alloc, hz]
    omega
  · refine ((h.row.set k _).alloc _).congr fun j hj => ?_
    by_cases e : j = k
    · subst e
      rw [if_pos rfl, if_pos (Nat.lt_succ_self _), hs]
    · rw [if_neg e]
      by_cases e2 : j < k
      · rw [if_pos e2, if_pos (by omega)]
      · rw [if_neg e2, if_neg (by omega)]
  · intro j hj
    by_cases e : j = k
    · subst e
      have hnew := Deep.blk_alloc_new (wr.setCell ⟨F, j, none⟩ (.pointer (some ⟨wr.heap.size, 0, none⟩))) (.cells #[.string (S j)] 9)
      rw [hz, hs] at hnew
      rw [hs]
      exact hnew
    · rw [Below.heap_alloc _ _ _ (by omega), Below.heap_setCell _ _ _ _ (by show F + 1 + j ≠ F; omega)]
      exact h.box j (by omega)

theorem L2.done {W wr : World} {F N : Nat} {S : Nat → ByteArray} (h : L2 W wr F N N S) : Fields wr F N (fun j => F + 1 + j) S := by
  obtain ⟨c, h1, h2, h3⟩ := h.row
  refine ⟨⟨c, _, h1, fun k hk => ?_⟩, fun k hk => ⟨_, h.box k hk⟩⟩
  rw [h3 k hk]
  simp [hk]
end Go.Proofs.Ybulkcdfu
