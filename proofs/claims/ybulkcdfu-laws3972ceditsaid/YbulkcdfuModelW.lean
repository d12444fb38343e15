import Derived.Test.YbulkcdfuSpanD
namespace Go.Proofs.Ybulkcdfu
open Go.RowKit

/-- What stands behind the two conversions: the two tables, what they lead to, and the two arguments. -/
structure St (w W : World) (ao bo ao1 ao2 : Option Addr) (na nb c1 c2 bt bu : Nat) (E O E' O' : Nat → Int) : Prop where
  bel : Below w.heap.size w W
  t1 : Tab W bt ao1 na c1
  t2 : Tab W bu ao2 nb c2
  l1 : bt < W.heap.size
  l2 : bu < W.heap.size
  v1 : View W ao1 na E O
  v2 : View W ao2 nb E' O'
  a1 : View W ao na E O
  a2 : View W bo nb E' O'

theorem St.below {w W W' : World} {ao bo ao1 ao2 : Option Addr} {na nb c1 c2 bt bu : Nat} {E O E' O' : Nat → Int} (h : St w W ao bo ao1 ao2 na nb c1 c2 bt bu E O E' O') (hb : Below W.heap.size W W') :
    St w W' ao bo ao1 ao2 na nb c1 c2 bt bu E O E' O' :=
  ⟨h.bel.trans (hb.mono h.bel.size), (hb.cell (by exact h.l1)).trans h.t1, (hb.cell (by exact h.l2)).trans h.t2, Nat.lt_of_lt_of_le h.l1 hb.size, Nat.lt_of_lt_of_le h.l2 hb.size, h.v1.below hb, h.v2.below hb, h.a1.below hb, h.a2.below hb⟩

theorem St.drewN {w W : World} {ao bo ao1 ao2 : Option Addr} {na nb c1 c2 bt bu : Nat} {E O E' O' : Nat → Int} (h : St w W ao bo ao1 ao2 na nb c1 c2 bt bu E O E' O') (m : Nat) :
    St w (W.drewN m) ao bo ao1 ao2 na nb c1 c2 bt bu E O E' O' := h.below (below_drewN (Below.refl _ _) m)

theorem st_start {w w1 w2 : World} {ao bo ao1 ao2 : Option Addr} {na nb c1 c2 ca cb : Nat} {E O E' O' : Nat → Int} {r1 r2 r3 r4 r5 s1 s2 s3 s4 s5 : Value} (ha : Arg w ao na ca E O) (hb : Arg w bo nb cb E' O')
    (hb1 : Below w.heap.size w w1) (ho1 : w1.ownsRow w.heap.size 44 2 (.slice ao1 na c1) na (cellsL E O na))
    (hb2 : Below (w1.alloc (.cells #[.slice ao1 na c1, r1, r2, r3, r4, r5] 37)).heap.size (w1.alloc (.cells #[.slice ao1 na c1, r1, r2, r3, r4, r5] 37)) w2)
    (ho2 : w2.ownsRow (w1.alloc (.cells #[.slice ao1 na c1, r1, r2, r3, r4, r5] 37)).heap.size 44 2 (.slice ao2 nb c2) nb (cellsL E' O' nb)) :
    St w (w2.alloc (.cells #[.slice ao2 nb c2, s1, s2, s3, s4, s5] 37)) ao bo ao1 ao2 na nb c1 c2 w1.heap.size w2.heap.size E O E' O' := by
  have k1 : Below w1.heap.size w1 (w1.alloc (.cells #[.slice ao1 na c1, r1, r2, r3, r4, r5] 37)) := (Below.refl _ _).alloc (Nat.le_refl _) _
  have k2 : Below w2.heap.size w2 (w2.alloc (.cells #[.slice ao2 nb c2, s1, s2, s3, s4, s5] 37)) := (Below.refl _ _).alloc (Nat.le_refl _) _
  have z1 := hb1.size
  have z2 : w1.heap.size + 1 ≤ w2.heap.size := by have := hb2.size; simpa using this
  have t1 : Tab (w1.alloc (.cells #[.slice ao1 na c1, r1, r2, r3, r4, r5] 37)) w1.heap.size ao1 na c1 := by simp [Tab, World.cell?_alloc_at]
  have t1' : Tab w2 w1.heap.size ao1 na c1 := (hb2.cell (by simp)).trans t1
  refine ⟨((hb1.trans (k1.mono z1)).trans (hb2.mono (by simp; omega))).trans (k2.mono (by omega)), (k2.cell (by simp; omega)).trans t1', by simp [Tab, World.cell?_alloc_at], by simp; omega, by simp, ?_, ?_, ?_, ?_⟩
  · exact (((view_of_owns ho1).below k1).below hb2).below k2
  · exact (view_of_owns ho2).below k2
  · exact (((ha.view.below hb1).below k1).below hb2).below k2
  · exact (((hb.view.below hb1).below k1).below hb2).below k2

set_option maxHeartbeats 400000 in
theorem model_no (ao bo : Option Addr) (na ca nb cb : Nat) (E O E' O' : Nat → Int) (w : World) (hna : na ≤ 1024) (hnb : nb ≤ 1024) (ha : Arg w ao na ca E O) (hb : Arg w bo nb cb E' O') (hno : na ≠ nb) :
    Calls Yba.prog 4 #[.slice ao na ca, .slice bo nb cb] w fun e w' => e = .returned (.bool true) ∧ Below w.heap.size w w' := by
  have d1 : decide ((1024 : Int) < (na : Int)) = false := decide_eq_false (by omega)
  have d2 : decide ((1024 : Int) < (nb : Int)) = false := decide_eq_false (by omega)
  have d3 : ((na : Int) == (nb : Int)) = false := by rw [beq_eq_false_iff_ne]; omega
  have S1 : sameB na nb E O E' O' = false := by simp [sameB, hno]
  have S2 : sameB nb na E' O' E O = false := by rw [sameB_symm]; exact S1
  go_enter Yba.func4, Yba.ntmps4
  go_wp2_with fail
  refine (conv_any ao na ca E O _ hna ha).mono ?_
  rintro e w1 ⟨ao1, c1, rfl, hb1, ho1⟩
  go_wp2_with fail
  refine (conv_any bo nb cb E' O' _ hnb ((hb.below hb1).below ((Below.refl _ _).alloc (Nat.le_refl _) _))).mono ?_
  rintro e w2 ⟨ao2, c2, rfl, hb2, ho2⟩
  have st := st_start (s1 := .slice none 0 0) (s2 := .int .u64 0) (s3 := .int .i64 0) (s4 := .int .i64 0) (s5 := .int .i64 0) ha hb hb1 ho1 hb2 ho2
  clear ha hb hb1 ho1 hb2 ho2
  go_wp2_with fail
  refine wp_loop_rounds 1 ?_
  rw [rounds_succ]
  go_wp2_with fail
  refine (same_any _ _ _ _ _ _ _ _ _ _ _ _ _ st.t1 st.t2 (by omega) st.l2 st.v1 st.v2).mono ?_
  rintro e w3 ⟨rfl, hb3⟩
  have st3 := st.below hb3
  clear hb3 st
  rw [S1]
  go_wp2_with fail
  refine (same_any _ _ _ _ _ _ _ _ _ _ _ _ _ st3.t2 st3.t1 (by omega) st3.l1 st3.v2 st3.v1).mono ?_
  rintro e w4 ⟨rfl, hb4⟩
  have st4 := st3.below hb4
  clear hb4 st3
  rw [S2]
  have ct1 := st4.t1
  have ct2 := st4.t2
  unfold Tab at ct1 ct2
  go_wp2_with fail
  refine (csame_any _ _ _ _ _ _ _ _ (by omega) st4.v1 st4.a1).mono ?_
  rintro e w5 ⟨rfl, m, rfl⟩
  go_wp2_with fail
  refine (csame_any _ _ _ _ _ _ _ _ (by omega) (st4.drewN m).v2 (st4.drewN m).a2).mono ?_
  rintro e w5 ⟨rfl, m', rfl⟩
  go_wp2
  go_ret
  exact ⟨rfl, (st4.drewN _).bel⟩

set_option maxHeartbeats 400000 in
theorem model_zero (ao bo : Option Addr) (ca cb : Nat) (E O E' O' : Nat → Int) (w : World) (ha : Arg w ao 0 ca E O) (hb : Arg w bo 0 cb E' O') :
    Calls Yba.prog 4 #[.slice ao 0 ca, .slice bo 0 cb] w fun e w' => e = .returned (.bool true) ∧ Below w.heap.size w w' := by
  have S1 : sameB 0 0 E O E' O' = true := rfl
  have S2 : sameB 0 0 E' O' E O = true := rfl
  have hn : 0 ≤ 1024 := by omega
  go_enter Yba.func4, Yba.ntmps4
  go_wp2_with fail
  refine (conv_any ao 0 ca E O _ hn ha).mono ?_
  rintro e w1 ⟨ao1, c1, rfl, hb1, ho1⟩
  go_wp2_with fail
  refine (conv_any bo 0 cb E' O' _ hn ((hb.below hb1).below ((Below.refl _ _).alloc (Nat.le_refl _) _))).mono ?_
  rintro e w2 ⟨ao2, c2, rfl, hb2, ho2⟩
  have st := st_start (s1 := .slice none 0 0) (s2 := .int .u64 0) (s3 := .int .i64 0) (s4 := .int .i64 0) (s5 := .int .i64 0) ha hb hb1 ho1 hb2 ho2
  clear ha hb hb1 ho1 hb2 ho2
  go_wp2_with fail
  refine wp_loop_rounds 1 ?_
  rw [rounds_succ]
  go_wp2_with fail
  refine (same_any _ _ _ _ _ _ _ _ _ _ _ _ _ st.t1 st.t2 (by omega) st.l2 st.v1 st.v2).mono ?_
  rintro e w3 ⟨rfl, hb3⟩
  have st3 := st.below hb3
  clear hb3 st
  rw [S1]
  go_wp2_with fail
  refine (same_any _ _ _ _ _ _ _ _ _ _ _ _ _ st3.t2 st3.t1 (by omega) st3.l1 st3.v2 st3.v1).mono ?_
  rintro e w4 ⟨rfl, hb4⟩
  have st4 := st3.below hb4
  clear hb4 st3
  rw [S2]
  have ct1 := st4.t1
  have ct2 := st4.t2
  unfold Tab at ct1 ct2
  go_wp2_with fail
  refine (csame_any _ _ _ _ _ _ _ _ (by omega) st4.v1 st4.a1).mono ?_
  rintro e w5 ⟨rfl, m, rfl⟩
  go_wp2_with fail
  refine (csame_any _ _ _ _ _ _ _ _ (by omega) (st4.drewN m).v2 (st4.drewN m).a2).mono ?_
  rintro e w5 ⟨rfl, m', rfl⟩
  go_wp2
  go_ret
  exact ⟨rfl, (st4.drewN _).bel⟩

set_option maxHeartbeats 800000 in
theorem model_eq (b1 o1 b2 o2 n ca cb : Nat) (E O E' O' : Nat → Int) (w : World) (hn : n ≤ 1024) (hp : 0 < n) (ha : Arg w (some ⟨b1, o1, none⟩) n ca E O) (hb : Arg w (some ⟨b2, o2, none⟩) n cb E' O') :
    Calls Yba.prog 4 #[.slice (some ⟨b1, o1, none⟩) n ca, .slice (some ⟨b2, o2, none⟩) n cb] w fun e w' => e = .returned (.bool true) ∧ Below w.heap.size w w' := by
  have d1 : decide ((1024 : Int) < (n : Int)) = false := decide_eq_false (by omega)
  have HS1 : Hid (sameB n n E O E' O' = eqB n E O E' O') := show _ = _ by simp [sameB]
  have HS2 : Hid (sameB n n E' O' E O = eqB n E O E' O') := show _ = _ by rw [sameB_symm]; exact HS1
  go_enter Yba.func4, Yba.ntmps4
  go_wp2_with fail
  refine (conv_any (some ⟨b1, o1, none⟩) n ca E O _ hn ha).mono ?_
  rintro e w1 ⟨ao1, c1, rfl, hb1, ho1⟩
  go_wp2_with fail
  refine (conv_any (some ⟨b2, o2, none⟩) n cb E' O' _ hn ((hb.below hb1).below ((Below.refl _ _).alloc (Nat.le_refl _) _))).mono ?_
  rintro e w2 ⟨ao2, c2, rfl, hb2, ho2⟩
  have st := st_start (s1 := .slice none 0 0) (s2 := .int .u64 0) (s3 := .int .i64 0) (s4 := .int .i64 0) (s5 := .int .i64 0) ha hb hb1 ho1 hb2 ho2
  clear ha hb hb1 ho1 hb2 ho2
  go_wp2_with fail
  go_loopw [7, 8] (fun v i wr => ∃ k : Nat, k ≤ n ∧ i = .int .i64 k ∧ v = .bool (eqB k E O E' O') ∧ St w wr (some ⟨b1, o1, none⟩) (some ⟨b2, o2, none⟩) ao1 ao2 n n c1 c2 w1.heap.size w2.heap.size E O E' O') (fun _ i _ => n - (intOf i).toNat)
  case atStart => exact ⟨0, by omega, rfl, rfl, st⟩
  case round =>
    clear st
    obtain ⟨k, hk, rfl, rfl, st⟩ := hrel
    have HE : Hid (eqB (k + 1) E O E' O' = (eqB k E O E' O' && (E k == E' k && O k == O' k))) := eqB_succ k E O E' O'
    have HM : Hid (eqB k E O E' O' = false → eqB n E O E' O' = false) := fun h => eqB_mono hk h
    generalize hg : eqB k E O E' O' = g at HE HM
    have HG : Hid (eqB k E O E' O' = g) := hg
    clear hg
    cases g
    · have S1 : sameB n n E O E' O' = false := HS1.out.trans (HM.out rfl)
      have S2 : sameB n n E' O' E O = false := HS2.out.trans (HM.out rfl)
      go_wp2_with fail
      refine (same_any _ _ _ _ _ _ _ _ _ _ _ _ _ st.t1 st.t2 (by omega) st.l2 st.v1 st.v2).mono ?_
      rintro e w3 ⟨rfl, hb3⟩
      have st3 := st.below hb3
      clear hb3 st
      rw [S1]
      go_wp2_with fail
      refine (same_any _ _ _ _ _ _ _ _ _ _ _ _ _ st3.t2 st3.t1 (by omega) st3.l1 st3.v2 st3.v1).mono ?_
      rintro e w4 ⟨rfl, hb4⟩
      have st4 := st3.below hb4
      clear hb4 st3
      rw [S2]
      have ct1 := st4.t1
      have ct2 := st4.t2
      unfold Tab at ct1 ct2
      go_wp2_with fail
      refine (csame_any _ _ _ _ _ _ _ _ (by omega) st4.v1 st4.a1).mono ?_
      rintro e w5 ⟨rfl, m, rfl⟩
      go_wp2_with fail
      refine (csame_any _ _ _ _ _ _ _ _ (by omega) (st4.drewN m).v2 (st4.drewN m).a2).mono ?_
      rintro e w5 ⟨rfl, m', rfl⟩
      go_wp2
      go_ret
      exact ⟨rfl, (st4.drewN _).bel⟩
    · by_cases hlt : k < n
      · have hlt' : (k : Int) < (n : Int) := by omega
        obtain ⟨x1, y1, c1', c2', c3', c4'⟩ : b1 < wr.heap.size ∧ b2 < wr.heap.size ∧ wr.cell? ⟨b1, o1 + k * 2, none⟩ = some (.int .i64 (E k)) ∧ wr.cell? ⟨b1, o1 + k * 2 + 1, none⟩ = some (.int .i64 (O k)) ∧ wr.cell? ⟨b2, o2 + k * 2, none⟩ = some (.int .i64 (E' k)) ∧ wr.cell? ⟨b2, o2 + k * 2 + 1, none⟩ = some (.int .i64 (O' k)) := by
          rcases st.a1 with h | ⟨p1, q1, e1, l1, h1⟩
          · omega
          · rcases st.a2 with h | ⟨p2, q2, e2, l2, h2⟩
            · omega
            · injection e1 with e1; injection e1 with e11 e12; injection e2 with e2; injection e2 with e21 e22
              subst e11; subst e12; subst e21; subst e22
              exact ⟨l1, l2, (h1 k hlt).1, (h1 k hlt).2, (h2 k hlt).1, (h2 k hlt).2⟩
        clear HS1 HS2 HM
        cases e1 : (E k == E' k)
        · have e1' : (E k != E' k) = true := by simp [bne, e1]
          go_wp2_with fail
          go_quiet (fail)
          go_wp2
          go_roundw
          case rel => exact ⟨k + 1, by omega, by go_num, by rw [HE.out, e1]; rfl, st.drewN _⟩
          case measure => simp [intOf]; omega
        · have e1' : (E k != E' k) = false := by simp [bne, e1]
          cases e2 : (O k == O' k)
          · have e2' : (O k != O' k) = true := by simp [bne, e2]
            go_wp2_with fail
            go_quiet (fail)
            go_wp2
            go_roundw
            case rel => exact ⟨k + 1, by omega, by go_num, by rw [HE.out, e1, e2]; rfl, st.drewN _⟩
            case measure => simp [intOf]; omega
          · have e2' : (O k != O' k) = false := by simp [bne, e2]
            go_wp2_with fail
            go_quiet (fail)
            go_wp2
            go_roundw
            case rel => exact ⟨k + 1, by omega, by go_num, by rw [HE.out, e1, e2]; rfl, st.drewN _⟩
            case measure => simp [intOf]; omega
      · obtain rfl : k = n := by omega
        have S1 : sameB k k E O E' O' = true := HS1.out.trans HG.out
        have S2 : sameB k k E' O' E O = true := HS2.out.trans HG.out
        go_wp2_with fail
        refine (same_any _ _ _ _ _ _ _ _ _ _ _ _ _ st.t1 st.t2 (by omega) st.l2 st.v1 st.v2).mono ?_
        rintro e w3 ⟨rfl, hb3⟩
        have st3 := st.below hb3
        clear hb3 st
        rw [S1]
        go_wp2_with fail
        refine (same_any _ _ _ _ _ _ _ _ _ _ _ _ _ st3.t2 st3.t1 (by omega) st3.l1 st3.v2 st3.v1).mono ?_
        rintro e w4 ⟨rfl, hb4⟩
        have st4 := st3.below hb4
        clear hb4 st3
        rw [S2]
        have ct1 := st4.t1
        have ct2 := st4.t2
        unfold Tab at ct1 ct2
        go_wp2_with fail
        refine (csame_any _ _ _ _ _ _ _ _ (by omega) st4.v1 st4.a1).mono ?_
        rintro e w5 ⟨rfl, m, rfl⟩
        go_wp2_with fail
        refine (csame_any _ _ _ _ _ _ _ _ (by omega) (st4.drewN m).v2 (st4.drewN m).a2).mono ?_
        rintro e w5 ⟨rfl, m', rfl⟩
        go_wp2
        go_ret
        exact ⟨rfl, (st4.drewN _).bel⟩
end Go.Proofs.Ybulkcdfu
