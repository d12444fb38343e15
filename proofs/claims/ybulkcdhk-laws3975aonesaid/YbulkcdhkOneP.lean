import Derived.Test.YbulkcdhkPlain
namespace Go.Proofs.Ybulkcdhk
open Ieee

/-- What the drive comes to where all weights but one are +0 and the cues are finite. -/
def tgt (x y : Nat) : Option Nat := match mulF x y with
  | none => none
  | some r => if r % 9223372036854775808 = 0 then some 0 else some r

/-- All weights +0 but Wk at idx. -/
def oneW (Wk idx : Nat) (i : Nat) : Nat := if i = idx then Wk else 0

def Fin26 (Y : Nat → Nat) : Prop := ∀ k, k < 26 → ∃ s m e, double.read (Y k) = .number s m e

theorem acc_before {Wk idx : Nat} {Y : Nat → Nat} (hf : Fin26 Y) (hi : idx < 26) : ∀ k, k ≤ idx → accF (oneW Wk idx) Y k = some 0 := by
  intro k
  induction k with
  | zero => intro _; rfl
  | succ k ih =>
    intro hk
    obtain ⟨s, m, e, hr⟩ := hf k (by omega)
    obtain ⟨z, hz, hzz⟩ := mul_zero_fin hr
    have hx : oneW Wk idx k = 0 := if_neg (by omega)
    show nextF (accF (oneW Wk idx) Y k) (oneW Wk idx k) (Y k) = some 0
    rw [ih (by omega), hx]
    simp only [nextF, hz]
    exact add_zero_zero hzz

theorem acc_at {Wk idx : Nat} {Y : Nat → Nat} (hf : Fin26 Y) (hi : idx < 26) : accF (oneW Wk idx) Y (idx + 1) = tgt Wk (Y idx) := by
  show nextF (accF (oneW Wk idx) Y idx) (oneW Wk idx idx) (Y idx) = _
  rw [acc_before hf hi idx (Nat.le_refl _), show oneW Wk idx idx = Wk from if_pos rfl]
  unfold tgt
  cases hm : mulF Wk (Y idx) with
  | none => simp only [nextF, hm]
  | some r =>
    obtain ⟨h1, h2⟩ := mul_form hm
    simp only [nextF, hm]
    by_cases h0 : r % 9223372036854775808 = 0
    · rw [if_pos h0]
      exact add_zero_zero (isZ_of h1 h0)
    · rw [if_neg h0]
      exact add_zero_l h1 h2 h0

theorem acc_after {Wk idx : Nat} {Y : Nat → Nat} (hf : Fin26 Y) (hi : idx < 26) : ∀ j, idx + 1 + j ≤ 26 → accF (oneW Wk idx) Y (idx + 1 + j) = tgt Wk (Y idx) := by
  intro j
  induction j with
  | zero => intro _; exact acc_at hf hi
  | succ j ih =>
    intro hj
    obtain ⟨s, m, e, hr⟩ := hf (idx + 1 + j) (by omega)
    obtain ⟨z, hz, hzz⟩ := mul_zero_fin hr
    have hx : oneW Wk idx (idx + 1 + j) = 0 := if_neg (by omega)
    show nextF (accF (oneW Wk idx) Y (idx + 1 + j)) (oneW Wk idx (idx + 1 + j)) (Y (idx + 1 + j)) = _
    rw [ih (by omega), hx]
    unfold tgt
    cases hm : mulF Wk (Y idx) with
    | none => simp only [nextF]
    | some r =>
      obtain ⟨h1, h2⟩ := mul_form hm
      by_cases h0 : r % 9223372036854775808 = 0
      · simp only [if_pos h0, nextF, hz]
        exact add_zero_zero hzz
      · simp only [if_neg h0, nextF, hz]
        exact add_zero_r h1 h2 h0 hzz

/-- THE PLAIN LAW. -/
theorem acc_one {Wk idx : Nat} {Y : Nat → Nat} (hf : Fin26 Y) (hi : idx < 26) : accF (oneW Wk idx) Y 26 = tgt Wk (Y idx) := by
  have h := acc_after (Wk := Wk) hf hi (25 - idx) (by omega)
  rwa [show idx + 1 + (25 - idx) = 26 by omega] at h

/-- The word without its sign, as math.Abs reckons it. -/
def absW (b : Nat) : Nat := (bits .andNot .u64 (b : Int) 9223372036854775808).toNat

/-- What math.IsInf(x, 0) asks. -/
def infB (b : Nat) : Bool := FloatKind.f64.format.order (absW b) 9218868437227405311 == some .gt

theorem fine_fin {b : Nat} (h : b < 18446744073709551616) (h1 : infB b = false) (h2 : (FloatKind.f64.format.order b b != some .eq) = false) : ∃ s m e, double.read b = .number s m e := by
  by_cases hn : b % 9223372036854775808 ≤ 9218868437227405312
  · rcases read_form h hn with ⟨_, hr⟩ | ⟨_, m, k, _, hr, _⟩ | ⟨_, hr, hw⟩
    · exact ⟨_, _, _, hr⟩
    · exact ⟨_, _, _, hr⟩
    · exfalso
      have e : b = 9218868437227405312 ∨ b = 18442240474082181120 := by
        rw [← hw]
        unfold Format.word
        rw [dSign, dInf]
        cases sgn b
        · left; rfl
        · right; rfl
      rcases e with rfl | rfl
      · have : infB 9218868437227405312 = true := by decide
        rw [this] at h1
        cases h1
      · have : infB 18442240474082181120 = true := by decide
        rw [this] at h1
        cases h1
  · have hnan : NaNw b := read_nan (by omega)
    rw [show FloatKind.f64.format.order b b = none from order_nan hnan] at h2
    cases h2
end Go.Proofs.Ybulkcdhk
