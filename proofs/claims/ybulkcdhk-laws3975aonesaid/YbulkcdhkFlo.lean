import Derived.Test.YbulkcdhkRows
import Derived.WalkKit
import Derived.WalkSpells
import Derived.WalkLawsBesides
import Derived.Deep.QuietTactic
import Derived.BigQuiet
import Derived.Laws.Externs
namespace Go.Proofs.Ybulkcdhk
open Go.RowKit

/-- The word is a NaN's. -/
def NaNw (q : Nat) : Prop := ∃ s f, Ieee.double.read q = .nan s f

def mulF (x y : Nat) : Option Nat := Ieee.double.mul x y
def addF (x y : Nat) : Option Nat := Ieee.double.add x y

theorem sum_nan_right (d : Ieee.Datum) (s : Bool) (f : Nat) : d.sum (.nan s f) = none := by cases d <;> rfl
theorem sum_nan_left (d : Ieee.Datum) (s : Bool) (f : Nat) : (Ieee.Datum.nan s f).sum d = none := by cases d <;> rfl

theorem add_nan_right {x y : Nat} (h : NaNw y) : addF x y = none := by
  obtain ⟨s, f, h⟩ := h
  unfold addF Ieee.Format.add
  rw [h, sum_nan_right]
  rfl

theorem add_nan_left {x y : Nat} (h : NaNw x) : addF x y = none := by
  obtain ⟨s, f, h⟩ := h
  unfold addF Ieee.Format.add
  rw [h, sum_nan_left]
  rfl

theorem order_nan {x : Nat} (h : NaNw x) : Ieee.double.order x x = none := by
  obtain ⟨s, f, h⟩ := h
  unfold Ieee.Format.order
  rw [h]
  rfl

/-- The bits of the NaN that the tape gives. -/
def nanAt (w : World) (x y : Nat) : Nat := (Question.nanBits .f64 x y).cut (w.tape w.drawn (.nanBits .f64 x y))

theorem read_nan {q : Nat} (h : 9218868437227405312 < q % 9223372036854775808) : NaNw q := by
  have e1 : Ieee.double.signWeight = 9223372036854775808 := by decide
  have e2 : Ieee.double.binade = 4503599627370496 := by decide
  have e3 : Ieee.double.infRung = 9218868437227405312 := by decide
  unfold NaNw Ieee.Format.read
  simp only [e1, e2, e3]
  rw [if_neg (by omega), if_neg (by omega), if_neg (by omega)]
  exact ⟨_, _, rfl⟩

theorem nanAt_nan (w : World) (x y : Nat) : NaNw (nanAt w x y) := by
  apply read_nan
  unfold nanAt
  generalize w.tape w.drawn (.nanBits .f64 x y) = t
  show 9218868437227405312 < ((t % 2) * 2 ^ 63 + 0x7ff0000000000000 + 1 + (t / 2) % (2 ^ 52 - 1)) % 9223372036854775808
  have hu : (t / 2) % (2 ^ 52 - 1) < 4503599627370495 := Nat.mod_lt _ (by decide)
  generalize (t / 2) % (2 ^ 52 - 1) = u at hu
  rcases (show t % 2 = 0 ∨ t % 2 = 1 by omega) with h | h <;> rw [h] <;> omega

/-- What r stands for: the number word, or some NaN. -/
def Rep (o : Option Nat) (r : Nat) : Prop := match o with
  | some a => r = a
  | none => NaNw r

/-- One step of the sum of products. -/
def nextF (o : Option Nat) (x y : Nat) : Option Nat := match o, mulF x y with
  | some a, some p => addF a p
  | _, _ => none

theorem rep_some {o : Option Nat} {r x y p q : Nat} (h : Rep o r) (hm : mulF x y = some p) (ha : addF r p = some q) : Rep (nextF o x y) q := by
  cases o with
  | none => rw [add_nan_left (show NaNw r from h)] at ha; cases ha
  | some a =>
    obtain rfl : r = a := h
    simp only [nextF, hm, ha, Rep]

theorem rep_none1 {o : Option Nat} {r x y p q : Nat} (h : Rep o r) (hm : mulF x y = some p) (ha : addF r p = none) (hq : NaNw q) : Rep (nextF o x y) q := by
  cases o with
  | none => simpa only [nextF, Rep] using hq
  | some a =>
    obtain rfl : r = a := h
    simpa only [nextF, hm, ha, Rep] using hq

theorem rep_none2 {o : Option Nat} {x y q : Nat} (hm : mulF x y = none) (hq : NaNw q) : Rep (nextF o x y) q := by
  cases o <;> simpa only [nextF, hm, Rep] using hq

/-- The sum of the first k products, from +0 on. -/
def accF (X Y : Nat → Nat) : Nat → Option Nat
  | 0 => some 0
  | k + 1 => nextF (accF X Y k) (X k) (Y k)

section
variable {P : Program} (w : World)
theorem run_mul_some (t : TypeId) {x y r : Nat} (h : mulF x y = some r) : (binOp .mul t (.float .f64 x) (.float .f64 y)).run P w = .ok (.float .f64 r) w :=
  run_float_arith w .mul t .f64 x y r h
theorem run_add_some (t : TypeId) {x y r : Nat} (h : addF x y = some r) : (binOp .add t (.float .f64 x) (.float .f64 y)).run P w = .ok (.float .f64 r) w :=
  run_float_arith w .add t .f64 x y r h
theorem run_mul_none (t : TypeId) {x y : Nat} (h : mulF x y = none) : (binOp .mul t (.float .f64 x) (.float .f64 y)).run P w = .ok (.float .f64 (nanAt w x y)) w.drew := by
  have h' : FloatKind.f64.format.mul x y = none := h
  simp [binOp, Op.floatArith, h', nanAt]
  intro hf
  cases hf
theorem run_add_none (t : TypeId) {x y : Nat} (h : addF x y = none) : (binOp .add t (.float .f64 x) (.float .f64 y)).run P w = .ok (.float .f64 (nanAt w x y)) w.drew := by
  have h' : FloatKind.f64.format.add x y = none := h
  simp [binOp, Op.floatArith, h', nanAt]
  intro hf
  cases hf
end

/-- math.Float64bits: the bits. -/
theorem f64bits (b : Nat) (w : World) : (callFunc 9 #[.float .f64 b]).run Yba.prog w = .ok (.value (.int .u64 b)) w := by
  rw [run_callFunc_extern Yba.func9 (by kernel_rfl) (by kernel_rfl) (by kernel_rfl) (e := Extern.MathFloatBits.float64bits) (by kernel_rfl)]
  rfl
end Go.Proofs.Ybulkcdhk
