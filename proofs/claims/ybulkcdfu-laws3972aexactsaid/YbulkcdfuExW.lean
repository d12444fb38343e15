import Derived.Test.YbulkcdfuExP
namespace Go.Proofs.Ybulkcdfu
open Go.RowKit

theorem makeB (n : Nat) (hn : n ≤ 4096) (w : World) : (Instr.makeSlice 22 (.int .i64 (n : Int)) (.int .i64 (n : Int))).run Yba.prog w = .ok (.slice (some ⟨w.heap.size, 0, none⟩) n n) (w.alloc (.cells (madeCells #[.int .u8 0] n) 5)) :=
  run_make_row' (P := Yba.prog) 22 5 (.int .u8 0) 1 Yba.underlying22 Yba.info5 rfl .i64 .i64 n (by omega) (by omega) w

theorem makeF (n : Nat) (hn : n ≤ 1024) (w : World) : (Instr.makeSlice 24 (.int .i64 (n : Int)) (.int .i64 (n : Int))).run Yba.prog w = .ok (.slice (some ⟨w.heap.size, 0, none⟩) n n) (w.alloc (.cells (madeCells #[.pointer none] n) 25)) :=
  run_make_row' (P := Yba.prog) 24 25 (.pointer none) 8 Yba.underlying24 Yba.info25 rfl .i64 .i64 n (by omega) (by omega) w

theorem info5size : (Yba.prog.info? 5).map (·.size) = some 1 := by kernel_rfl

/-- The copy of the first argument into b, the row that make has just laid: b's cells are then that argument's. -/
theorem copy_run {w : World} {a0 : Option Addr} {n c0 : Nat} {P : List Int} (hn : n ≤ 4096) (h0 : PreArg w a0 n c0 P) :
    ∃ W2, (Builtin.copy_ #[22, 22] 3 #[.slice (some ⟨w.heap.size, 0, none⟩) n n, .slice a0 n c0]).run Yba.prog (w.alloc (.cells (madeCells #[.int .u8 0] n) 5)) = .ok (.int .i64 (n : Int)) W2 ∧
      W2.ownsRow w.heap.size 5 1 (.slice (some ⟨w.heap.size, 0, none⟩) n n) n (P.map (Value.int .u8)) ∧ Below w.heap.size w W2 := by
  have hk1 : Below w.heap.size w (w.alloc (.cells (madeCells #[.int .u8 0] n) 5)) := (Below.refl _ _).alloc (Nat.le_refl _) _
  have hg : (w.alloc (.cells (madeCells #[.int .u8 0] n) 5)).heap[w.heap.size]? = some (.cells (madeCells #[.int .u8 0] n) 5 (0, 0)) := Deep.blk_alloc_new _ _
  obtain ⟨hl, h2⟩ := h0.below hk1
  by_cases hz : n = 0
  · subst hz
    obtain rfl : P = [] := List.eq_nil_of_length_eq_zero hl
    refine ⟨_, run_copy_none (P := Yba.prog) _ 22 22 3 5 _ a0 0 0 0 c0 Yba.underlying22 info5size (by rfl), ?_, hk1⟩
    exact ⟨rfl, .inr ⟨_, 0, _, rfl, Nat.le_refl _, hg, Nat.le_refl _, by unfold maxLen; omega, size_madeCells _ _, by simp⟩⟩
  · rcases h2 with ⟨_, h, _⟩ | ⟨ad, rfl, hc, _⟩
    · exact absurd h hz
    · have hX : (P.map (Value.int .u8)).length = n := by rw [List.length_map]; exact hl
      have hr := run_copy_row (P := Yba.prog) (w.alloc (.cells (madeCells #[.int .u8 0] n) 5)) 22 22 3 5 w.heap.size 0 n n ad n c0 (madeCells #[.int .u8 0] n) 5 (P.map (Value.int .u8)) Yba.underlying22 info5size hg (by rw [hX]; simp) (cells_get (fun j hj => hc j (by omega))) (by rw [hX, size_madeCells]; omega) (by intro v hv; obtain ⟨x, _, rfl⟩ := List.mem_map.1 hv; rfl)
      rw [hX] at hr
      refine ⟨_, hr, ?_, below_setRow hk1 (Nat.le_refl _) _⟩
      refine own_of_splice (cur := (madeCells #[.int .u8 0] n).toList) ?_ (Nat.le_refl _) (by rw [Array.length_toList, size_madeCells]) hX hn
      rw [setRow_heap _ _ _ _ 5 _ hg]
      unfold splice
      rw [hX, List.append_assoc]

set_option maxHeartbeats 1000000 in
theorem ex_main (a0 a1 : Option Addr) (n c0 N c1 : Nat) (P : List Int) (S : Nat → ByteArray) (w : World) (hn : n ≤ 4096) (hN : N ≤ 1024) (hS : ∀ k, k < N → (S k).size ≤ 4096) (h0 : PreArg w a0 n c0 P) (h1 : StrArg w a1 N S) (X : List Value) (hXP : Hid (X = P.map (Value.int .u8))) :
    Calls Yba.prog 3 #[.slice a0 n c0, .slice a1 N c1] w fun e w' => e = .returned (.bool true) ∧ Below w.heap.size w w' := by
  have d1 : decide ((4096 : Int) < (n : Int)) = false := decide_eq_false (by omega)
  have d2 : decide ((1024 : Int) < (N : Int)) = false := decide_eq_false (by omega)
  go_enter Yba.func3, Yba.ntmps3
  go_wp2_with fail
  go_loop [5] (fun i => ∃ k : Nat, k ≤ N ∧ i = .int .i64 k) (fun i => N - (intOf i).toNat)
  case atStart => exact ⟨0, Nat.zero_le _, rfl⟩
  case round =>
    obtain ⟨k, hk, rfl⟩ := hrel
    by_cases hlt : k < N
    · have hlt' : (k : Int) < (N : Int) := by omega
      obtain ⟨b1, o1, rfl, hb1, cs⟩ := h1.at hlt
      have hs := hS k hlt
      generalize S k = s at cs hs
      have d3 : decide ((4096 : Int) < (s.size : Int)) = false := decide_eq_false (by omega)
      clear h0 h1 hS
      go_wp2
      go_round
      case rel => exact ⟨k + 1, by omega, by go_num⟩
      case measure => simp [intOf]; omega
    · have hmB := makeB n hn
      have hmF := makeF N hN
      obtain ⟨w2, hcp, hown2, hB2⟩ := copy_run hn h0
      rw [← hXP.out] at hown2
      go_wp2_with fail
      clear hcp hmB hmF
      go_loopw [8] (fun i wr => ∃ k : Nat, k ≤ N ∧ i = .int .i64 k ∧ L2 w2 wr w2.heap.size N k S) (fun i _ => N - (intOf i).toNat)
      case atStart => exact ⟨0, Nat.zero_le _, rfl, L2.start w2 N S⟩
      case round =>
        obtain ⟨k2, hk2, rfl, hL⟩ := hrel
        have hbw : Below w.heap.size w wr := hB2.trans (hL.bel.mono hB2.size)
        by_cases hlt2 : k2 < N
        · have hlt2' : (k2 : Int) < (N : Int) := by omega
          obtain ⟨b1, o1, rfl, hb1, cs⟩ := (h1.below hbw).at hlt2
          have cr := hL.row.cell hlt2
          have fz := hL.row.frozen k2
          have hFl := hL.row.lt
          simp only [Nat.lt_irrefl, if_false] at cr
          have HL : Hid (L2 w2 wr w2.heap.size N k2 S) := hL
          clear hL h0 h1 hS hown2 hB2 hbw
          obtain ⟨s, hs⟩ : ∃ s, s = S k2 := ⟨_, rfl⟩
          rw [← hs] at cs
          have HS : Hid (s = S k2) := hs
          clear hs
          go_wp2
          go_roundw
          case rel => exact ⟨k2 + 1, by omega, by go_num, by rw [HS.out]; exact HL.out.step⟩
          case measure => simp [intOf]; omega
        · obtain rfl : k2 = N := by omega
          obtain ⟨i0, hi, hz0, hz1, hz2⟩ := info_parts Yba.info5
          have hel := encF_length S k2 hS k2 (Nat.le_refl _)
          go_wp2_with fail
          refine (fields_any w.heap.size n w2.heap.size k2 _ S hN hS hn _ X wr (owns_below hown2 hL.bel) hbw.size hL.done).mono ?_
          rintro e w4 ⟨got, rfl, hown4, hf4⟩
          obtain ⟨ga, gc, rfl⟩ := own_shape hown4
          have g4 : G w w4 _ _ _ _ _ _ S := ⟨hbw.trans hf4.bel, hown4, hL.done.fr hf4⟩
          have h04 := h0.below g4.bel
          have h14 := h1.below g4.bel
          clear hL hbw hown2 hB2 hown4 hf4 h0 h1
          go_wp2_with (first | (at_make; refine wpList_make_own _ rfl _ _ 22 rfl w4.heap.size 5 i0 (.int .u8 0) 1 Yba.underlying22 hi hz0 hz1 .i64 .i64 _ n rfl rfl rfl ?m1 ?m2 (Nat.le_refl _) ?_) | fail)
          case m1 => rw [hz2]; omega
          case m2 => unfold maxLen; omega
          intro w5 hown5 hgr5
          have hb5 : Below w4.heap.size w4 w5 := (Below.refl _ _).grown hgr5 (Nat.le_refl _) (fun k h => by cases h)
          have h05 := h04.below hb5
          have hws5 := hb5.size
          have hnil := h05.nil
          have HN : Hid _ := h05.news
          rw [← hXP.out] at HN
          have hXl : X.length = n := by rw [hXP.out, List.length_map]; exact h04.1
          have HXl : Hid (X.length = n) := hXl
          have HX1 : Hid (∀ u ∈ X, u.oneCell' = true) := by
            intro u hu
            rw [hXP.out] at hu
            obtain ⟨x, _, rfl⟩ := List.mem_map.1 hu
            rfl
          clear hgr5 h04 h05 hXl
          go_wp2_with (first | (at_builtin; refine wpList_append_src rfl (.tmp 63) (.tmp 64) 22 rfl w4.heap.size 5 i0 (.int .u8 0) 1 Yba.underlying22 hi hz0 hz1 hz2 rfl _ 0 [] rfl hown5 a0 n c0 X rfl HXl.out hnil HN.out HX1.out ?p1 ?p2 hws5 ?_) | fail)
          case p1 => unfold maxLen; omega
          case p2 => omega
          intro v6 w6 hown6 hb6
          have hb46 := hb5.trans hb6
          have hown6 : w6.ownsRow w4.heap.size 5 1 v6 n X := by simpa using hown6
          clear hb5 hb6 HN hnil hown5 hws5
          go_wp2_with fail
          go_loopw [11, 12] (fun v i wr => ∃ k : Nat, k ≤ k2 ∧ i = .int .i64 k ∧ wr.ownsRow w4.heap.size 5 1 v (n + (encF S k).length) (X ++ Lib.byteCells (encF S k)) ∧ Below w4.heap.size w4 wr) (fun _ i _ => k2 - (intOf i).toNat)
          case atStart => exact ⟨0, Nat.zero_le _, rfl, by simpa [encF, Lib.byteCells] using hown6, hb46⟩
          case round =>
            clear hown6 hb46
            obtain ⟨k3, hk3, rfl, hown, hb⟩ := hrel
            have hws := hb.size
            by_cases hlt3 : k3 < k2
            · have hlt3' : (k3 : Int) < (k2 : Int) := by omega
              obtain ⟨b1, o1, rfl, hb1, cs4⟩ := h14.at hlt3
              have cs := (hb.cell (by exact hb1)).trans cs4
              clear cs4
              have hl := encF_length S k2 hS k3 hk3
              have hsz := hS k3 hlt3
              have HE : Hid (encF S (k3 + 1) = encF S k3 ++ (if (S k3).size = 0 then [] else preL ((k3 : Int) + 1) (S k3).size ++ (S k3).data.toList)) := rfl
              have HB : Hid (Below w4.heap.size w4 wr) := hb
              clear hb h14 g4 hS hel
              generalize S k3 = s at cs hsz HE
              by_cases hz : s.size = 0
              · have hne : ((s.size : Int) != 0) = false := by rw [bne_eq_false_iff_eq]; omega
                rw [if_pos hz, List.append_nil] at HE
                clear hz
                go_wp2
                go_roundw
                case rel => exact ⟨k3 + 1, by omega, by go_num, by rw [HE.out]; exact hown, HB.out⟩
                case measure => simp [intOf]; omega
              · have hne : ((s.size : Int) != 0) = true := by rw [bne_iff_ne]; omega
                rw [if_neg hz] at HE
                clear hz
                have hl1 := Lib.uvarint_length64 (key_lt ((k3 : Int) + 1))
                have hl2 := Lib.uvarint_length64 (show s.size < 18446744073709551616 by omega)
                go_wp2_with fail
                rw [key_eq]
                refine (uv7 w4.heap.size _ (keyOf ((k3 : Int) + 1)) (key_lt _) _ _ wr hown hws (by omega)).mono ?_
                rintro e w7 ⟨v7, rfl, hown7, hf7⟩
                have cs7 : w7.cell? ⟨b1, o1 + k3, none⟩ = some (.string s) := (hf7.bel.cell (by exact hb1)).trans cs
                have hws7 := hf7.size
                go_wp2_with fail
                refine (uv7 w4.heap.size _ s.size (by omega) _ _ w7 hown7 (by omega) (by omega)).mono ?_
                rintro e w8 ⟨v8, rfl, hown8, hf8⟩
                have cs8 : w8.cell? ⟨b1, o1 + k3, none⟩ = some (.string s) := (hf8.bel.cell (by exact hb1)).trans cs7
                have hws8 := hf8.size
                clear cs cs7
                go_wp2_with (first | (at_builtin; refine Lib.wpList_append_own_string _ rfl (.tmp 93) (.tmp 97) 22 9 rfl w4.heap.size 5 i0 Yba.underlying22 Yba.underlying9 hi hz0 hz1 hz2 _ _ _ rfl hown8 s rfl ?r1 ?r2 ?r3 ?_) | fail)
                case r1 => unfold maxLen; omega
                case r2 => omega
                case r3 => omega
                intro v9 w9 hown9 hgr9 _
                have hb9 : Below w4.heap.size w4 w9 := ((HB.out.trans hf7.bel).trans hf8.bel).grown hgr9 (by omega) (fun k hk => (own_at hown8 k hk).1)
                clear hgr9 hf7 hf8 hown8 hown7 hown
                go_wp2
                go_roundw
                case rel => exact ⟨k3 + 1, by omega, by go_num, by rw [HE.out]; exact own_next2 (by simpa only [List.append_assoc] using hown9), hb9⟩
                case measure => simp [intOf]; omega
            · obtain rfl : k3 = k2 := by omega
              have gW := g4.below hb
              have h1W := h14.below hb
              have hLb : n + (encF S k3).length ≤ 5000000 := by omega
              rw [hXP.out, all_bytes] at hown gW
              generalize P ++ (encF S k3).map (fun b => (b.toNat : Int)) = T at hown gW
              obtain ⟨wa, wc, rfl⟩ := own_shape hown
              generalize n + (encF S k3).length = L at hown gW hLb g4 ⊢
              clear g4 h14 hb hel
              obtain ⟨wo, rfl⟩ : ∃ wo : World, wo = wr := ⟨_, rfl⟩
              go_wp2_with fail
              go_loopw [13] (fun i wr => ∃ k m : Nat, k ≤ L ∧ i = .int .i64 k ∧ wr = wo.drewN m) (fun i _ => L - (intOf i).toNat)
              case atStart => exact ⟨0, 0, Nat.zero_le _, rfl, rfl⟩
              case round =>
                obtain ⟨k4, m4, hk4, rfl, rfl⟩ := hrel
                by_cases hlt4 : k4 < L
                · have hlt4' : (k4 : Int) < (L : Int) := by omega
                  obtain ⟨g1, rfl, cg⟩ := own_get gW.own hlt4
                  obtain ⟨g2, rfl, cw⟩ := own_get hown hlt4
                  generalize T.getD k4 0 = q at cg cw
                  clear gW hown h1W hS
                  go_wp2_with fail
                  go_quiet (fail)
                  go_wp2
                  go_roundw
                  case rel => exact ⟨k4 + 1, _, by omega, by go_num, rfl⟩
                  case measure => simp [intOf]; omega
                · go_wp2_with fail
                  go_loopw [14] (fun i wr => ∃ k m : Nat, k ≤ k3 ∧ i = .int .i64 k ∧ wr = wo.drewN m) (fun i _ => k3 - (intOf i).toNat)
                  case atStart => exact ⟨0, m4, Nat.zero_le _, rfl, rfl⟩
                  case round =>
                    obtain ⟨k5, m5, hk5, rfl, rfl⟩ := hrel
                    by_cases hlt5 : k5 < k3
                    · have hlt5' : (k5 : Int) < (k3 : Int) := by omega
                      obtain ⟨b1, o1, rfl, hb1, cs⟩ := h1W.at hlt5
                      have cp := gW.fl.ptr k5 hlt5
                      have ct := gW.fl.str k5 hlt5
                      generalize S k5 = s at cs ct
                      clear gW hown h1W hS
                      go_wp2_with fail
                      go_quiet (fail)
                      go_wp2
                      go_roundw
                      case rel => exact ⟨k5 + 1, _, by omega, by go_num, rfl⟩
                      case measure => simp [intOf]; omega
                    · go_wp2
                      go_ret
                      exact ⟨rfl, below_drewN gW.bel _⟩
end Go.Proofs.Ybulkcdfu
