import Derived.Test.YbulkcdfuVar
import Derived.OpenShut
namespace Go.Proofs.Ybulkcdfu
open Go.RowKit

/-- The key of the field of number I, wire type 2, as the Go text reckons it. -/
def keyOf (I : Int) : Nat := (bits .or .u64 (I * 8) 2).toNat

theorem key_eq (I : Int) : bits .or .u64 (I * 8) 2 = (keyOf I : Int) := by
  have h := bounds_u64 (wf_bits .or .u64 (I * 8) 2)
  unfold keyOf
  omega

theorem key_lt (I : Int) : keyOf I < 18446744073709551616 := by
  have h := bounds_u64 (wf_bits .or .u64 (I * 8) 2)
  unfold keyOf
  omega

/-- What stands ahead of the bytes of a field of wire type 2. -/
def preL (I : Int) (m : Nat) : List UInt8 := Lib.uvarint (keyOf I) ++ Lib.uvarint m

theorem preL_length (I : Int) (m : Nat) (hm : m ≤ 4096) : (preL I m).length ≤ 20 := by
  unfold preL
  rw [List.length_append]
  have h1 := Lib.uvarint_length64 (key_lt I)
  have h2 := Lib.uvarint_length64 (show m < 18446744073709551616 by omega)
  omega

theorem byteCells_append (a b : List UInt8) : Lib.byteCells (a ++ b) = Lib.byteCells a ++ Lib.byteCells b := by simp [Lib.byteCells]

set_option maxHeartbeats 400000 in
theorem pre_any (B n : Nat) (I : Int) (m : Nat) (h0 : 0 ≤ I) (h1 : I ≤ 1025) (hm : m ≤ 4096) (sv : Value) (xs : List Value) (w : World) (hown : w.ownsRow B 5 1 sv n xs) (hBw : B ≤ w.heap.size) (hlim : n + 20 ≤ 140737488355328) :
    Calls Yba.prog 11 #[sv, .int .i64 I, .int .i64 m] w fun e w' => ∃ v', e = .returned v' ∧ w'.ownsRow B 5 1 v' (n + (preL I m).length) (xs ++ Lib.byteCells (preL I m)) ∧ Fr B w w' := by
  have hl1 := Lib.uvarint_length64 (key_lt I)
  go_enter Yba.func11, Yba.ntmps11
  go_wp2_with fail
  rw [key_eq]
  refine (uv12 B n (keyOf I) (key_lt I) sv xs w hown hBw (by omega)).mono ?_
  rintro e w1 ⟨v1, rfl, hown1, hf1⟩
  go_wp2_with fail
  refine (uv12 B _ m (by omega) v1 _ w1 hown1 (by have := hf1.size; omega) (by omega)).mono ?_
  rintro e w2 ⟨v2, rfl, hown2, hf2⟩
  go_wp2
  go_ret
  refine ⟨v2, rfl, ?_, hf1.trans hf2⟩
  unfold preL
  rw [byteCells_append, List.length_append, ← List.append_assoc, ← Nat.add_assoc]
  exact hown2
end Go.Proofs.Ybulkcdfu
