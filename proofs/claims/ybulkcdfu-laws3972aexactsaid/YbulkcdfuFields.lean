import Derived.Test.YbulkcdfuPre
import Derived.Deep.RegionHeld3
import Derived.Deep.DrawnRows
import Derived.Laws.Pointers
namespace Go.Proofs.Ybulkcdfu
open Go.RowKit

/-- 'append(b, s...)', s a string, at a step of a region that draws its order. -/
theorem step_append_string {P : Program} {w : World} {ops : Array Oper} {o : Oper} {a : Act} {K : Act → World → Prop} {Q : Exit → Act → World → Prop} {E : Prop} (hgd : o.guard = none) (sl x : Operand) (t u : TypeId)
    (ho : o.op = .call { callee := .builtin .append, args := #[sl, x], argTypes := #[t, u] })
    (base : Nat) (e : TypeId) (i : TypeInfo) (ht : P.underlying t = some (.slice e)) (hu : P.underlying u = some .string) (hi : P.info? e = some i) (hz : i.zero = some (.int .u8 0))
    (hsize : i.size = 1) (hby : i.bytes = 1)
    (v : Value) (n : Nat) (xs : List Value) (hs : a.eval sl = v) (hown : w.ownsRow base e 1 v n xs) (s : ByteArray) (hx : a.eval x = .string s)
    (h63 : n + s.size ≤ maxLen) (hbytes : n + s.size ≤ 140737488355328) (hbase : base ≤ w.heap.size)
    (h : ∀ v' w', w'.ownsRow base e 1 v' (n + s.size) (xs ++ Lib.strCells s) → w.grownBy w' v.ownBlock → K (a.put o.dst v') w') :
    if Region.wanted o (yielded ops a.tmps) = true then Oper.wp P o a w K Q else E := by
  have hw : Region.wanted o (yielded ops a.tmps) = true := by simp [Region.wanted, hgd]
  rw [if_pos hw]
  obtain ⟨v', w', hr, h2, h3, h4⟩ := Lib.run_append_own_string (P := P) w base t u o.type e i ht hu hi hz hsize hby v n xs hown s h63 hbytes hbase
  unfold Oper.wp execOp
  simp only [ho, resolve, invoke, builtin, Sem.run_bind, Sem.run_pure, Result.andThen_ok, List.map_toArray, List.map_cons, List.map_nil, hs, hx, hr]
  exact h v' w' h2 h3

/-- The row of pointers to strings, and the strings. -/
structure Fields (w : World) (F N : Nat) (Pk : Nat → Nat) (S : Nat → ByteArray) : Prop where
  row : ∃ (c : Array Value) (fr : Nat × Nat), w.heap[F]? = some (Obj.cells c 25 fr) ∧ ∀ k, k < N → c[k]? = some (.pointer (some ⟨Pk k, 0, none⟩))
  box : ∀ k, k < N → ∃ fr : Nat × Nat, w.heap[Pk k]? = some (Obj.cells #[.string (S k)] 9 fr)

theorem Fields.fr {B : Nat} {w w' : World} {F N : Nat} {Pk : Nat → Nat} {S : Nat → ByteArray} (h : Fields w F N Pk S) (hf : Fr B w w') : Fields w' F N Pk S := by
  obtain ⟨⟨c, fr, h1, h2⟩, h3⟩ := h
  refine ⟨⟨c, fr, hf.oth F c 25 fr h1 (by decide), h2⟩, fun k hk => ?_⟩
  obtain ⟨f, hb⟩ := h3 k hk
  exact ⟨f, hf.oth _ _ 9 f hb (by decide)⟩

theorem Fields.ptr {w : World} {F N : Nat} {Pk : Nat → Nat} {S : Nat → ByteArray} (h : Fields w F N Pk S) (k : Nat) (hk : k < N) : w.cell? ⟨F, k, none⟩ = some (.pointer (some ⟨Pk k, 0, none⟩)) := by
  obtain ⟨⟨c, fr, h1, h2⟩, _⟩ := h
  rw [cell_of_row w F k c 25 fr h1]
  exact h2 k hk

theorem Fields.str {w : World} {F N : Nat} {Pk : Nat → Nat} {S : Nat → ByteArray} (h : Fields w F N Pk S) (k : Nat) (hk : k < N) : w.cell? ⟨Pk k, 0, none⟩ = some (.string (S k)) := by
  obtain ⟨fr, h1⟩ := h.box k hk
  rw [cell_of_row w (Pk k) 0 _ 9 fr h1]
  rfl

theorem toList_isEmpty (s : ByteArray) : s.toList.isEmpty = decide (s.size = 0) := by
  rw [ByteArray.toList_eq]
  obtain ⟨⟨l⟩⟩ := s
  cases l <;> simp [ByteArray.size]

/-- What the first k strings give. -/
def encF (S : Nat → ByteArray) : Nat → List UInt8
  | 0 => []
  | k + 1 => encF S k ++ (if (S k).size = 0 then [] else preL ((k : Int) + 1) (S k).size ++ (S k).data.toList)

theorem encF_length (S : Nat → ByteArray) (N : Nat) (hS : ∀ k, k < N → (S k).size ≤ 4096) : ∀ k, k ≤ N → (encF S k).length ≤ k * 4116 := by
  intro k
  induction k with
  | zero => intro _; simp [encF]
  | succ k ih =>
    intro hk
    have h1 := ih (by omega)
    have h2 := hS k (by omega)
    unfold encF
    by_cases h0 : (S k).size = 0
    · rw [if_pos h0, List.append_nil]
      exact Nat.le_trans h1 (Nat.mul_le_mul_right _ (Nat.le_succ k))
    · rw [if_neg h0]
      have h3 := preL_length ((k : Int) + 1) (S k).size h2
      have h4 : (S k).data.toList.length = (S k).size := by simp
      simp only [List.length_append]
      omega

theorem own_next {w : World} {B n : Nat} {v : Value} {xs : List Value} {E p : List UInt8} {s : ByteArray}
    (h : w.ownsRow B 5 1 v (n + E.length + p.length + s.size) (xs ++ Lib.byteCells E ++ Lib.byteCells p ++ Lib.strCells s)) :
    w.ownsRow B 5 1 v (n + (E ++ (p ++ s.data.toList)).length) (xs ++ Lib.byteCells (E ++ (p ++ s.data.toList))) := by
  have e1 : n + (E ++ (p ++ s.data.toList)).length = n + E.length + p.length + s.size := by
    have : s.data.toList.length = s.size := by simp
    simp only [List.length_append]; omega
  have e2 : xs ++ Lib.byteCells (E ++ (p ++ s.data.toList)) = xs ++ Lib.byteCells E ++ Lib.byteCells p ++ Lib.strCells s := by
    rw [byteCells_append, byteCells_append, show Lib.strCells s = Lib.byteCells s.data.toList from rfl]
    simp only [List.append_assoc]
  rw [e1, e2]
  exact h

set_option maxHeartbeats 1000000 in
theorem fields_any (B n F N : Nat) (Pk : Nat → Nat) (S : Nat → ByteArray) (hN : N ≤ 1024) (hS : ∀ k, k < N → (S k).size ≤ 4096) (hn : n ≤ 4096) (sv : Value) (xs : List Value) (w : World) (hown : w.ownsRow B 5 1 sv n xs) (hBw : B ≤ w.heap.size) (hF : Fields w F N Pk S) :
    Calls Yba.prog 6 #[sv, .slice (some ⟨F, 0, none⟩) N N] w fun e w' => ∃ v', e = .returned v' ∧ w'.ownsRow B 5 1 v' (n + (encF S N).length) (xs ++ Lib.byteCells (encF S N)) ∧ Fr B w w' := by
  obtain ⟨i0, hi, hz0, hz1, hz2⟩ := info_parts Yba.info5
  have HL := encF_length S N hS
  go_enter Yba.func6, Yba.ntmps6
  go_wp2
  go_loopw [0, 9] (fun vb vi wr => ∃ k : Nat, k ≤ N ∧ vi = .int .i64 k ∧ wr.ownsRow B 5 1 vb (n + (encF S k).length) (xs ++ Lib.byteCells (encF S k)) ∧ Fr B w wr) (fun _ i _ => N - (intOf i).toNat)
  case atStart => exact ⟨0, Nat.zero_le _, rfl, by simpa [Lib.byteCells, encF] using hown, Fr.refl _ _⟩
  case round =>
    obtain ⟨k, hk, rfl, hown1, hfr⟩ := hrel
    by_cases hlt : k < N
    · have hlt' : (k : Int) < (N : Int) := by omega
      have hFk := hF.fr hfr
      have cp := hFk.ptr k hlt
      have cs := hFk.str k hlt
      have hl := HL k hk
      have hsz := hS k hlt
      have hws := hfr.size
      have HE : Hid (encF S (k + 1) = encF S k ++ (if (S k).size = 0 then [] else preL ((k : Int) + 1) (S k).size ++ (S k).data.toList)) := rfl
      obtain ⟨s, hs⟩ : ∃ s, s = S k := ⟨_, rfl⟩
      rw [← hs] at cs hsz HE
      have HS : Hid (s = S k) := hs
      clear hs hF hown HL
      by_cases h0 : s.size = 0
      · have he : s.toList.isEmpty = true := by rw [toList_isEmpty]; exact decide_eq_true h0
        rw [if_pos h0, List.append_nil] at HE
        clear h0
        go_wp2
        go_roundw
        case rel => exact ⟨k + 1, by omega, by go_num, by rw [HE.out]; exact hown1, hfr⟩
        case measure => simp [intOf]; omega
      · have he : s.toList.isEmpty = false := by rw [toList_isEmpty]; exact decide_eq_false h0
        rw [if_neg h0] at HE
        clear h0
        have hpl := preL_length ((k : Int) + 1) s.size hsz
        have HW : Hid (IntKind.i64.wrap ((k : Int) + 1) = (k : Int) + 1) := show _ = _ by rw [IntKind.wrap_i64]; omega
        go_wp2_with fail
        go_region_held3 (fun w' => w'.cell? ⟨Pk k, 0, none⟩ = some (.string s)) (first | go_keep | assumption)
          (first
            | (go_at_call 11; rw [HW.out]; refine (pre_any B _ _ _ ?_ ?_ hsz _ _ _ hown1.drew ?_ ?_).mono ?_; (omega); (omega); (exact Nat.le_trans hBw hws); (omega); rintro e w1 ⟨v1, rfl, hown2, hf1⟩; have cs1 := ((hFk.fr (Fr.refl B wr).drew).fr hf1).str k hlt; rw [← HS.out] at cs1; have hz1' : wr.heap.size ≤ w1.heap.size := hf1.size)
            | (refine step_append_string (by rfl) _ _ _ _ (by rfl) B 5 i0 Yba.underlying22 Yba.underlying9 hi hz0 hz1 hz2 v1 _ _ (by rfl) hown2 s (by rfl) ?_ ?_ ?_ ?_; (unfold maxLen; omega); (omega); (omega); intro v2 w2 hown3 hgr; have cs2 := (((hFk.fr (Fr.refl B wr).drew).fr hf1).fr ((Fr.refl B w1).grown hown2 hgr (Nat.le_trans (Nat.le_trans hBw hws) hz1'))).str k hlt; rw [← HS.out] at cs2)
            | fail)
        go_wp2
        go_roundw
        case rel =>
          refine ⟨k + 1, by omega, by go_num, ?_, (hfr.drew.trans hf1).grown hown2 hgr (by omega)⟩
          rw [HE.out]
          exact own_next hown3
        case measure => simp [intOf]; omega
    · go_wp2
      go_ret
      obtain rfl : k = N := by omega
      exact ⟨_, rfl, hown1, hfr⟩
end Go.Proofs.Ybulkcdfu
