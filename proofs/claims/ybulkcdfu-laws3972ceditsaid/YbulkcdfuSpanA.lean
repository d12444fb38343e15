import Derived.Test.YbulkcdfuRows
import Derived.WalkKit
import Derived.WalkSpells
import Derived.WalkLawsBesides
import Derived.Deep.QuietTactic
import Derived.BigQuiet
namespace Go.Proofs.Ybulkcdfu
open Go.RowKit

/-- The n pairs of int64 that lie behind an address. -/
def Pairs (w : World) (b off n : Nat) (E O : Nat → Int) : Prop :=
  ∀ i, i < n → w.cell? ⟨b, off + i * 2, none⟩ = some (.int .i64 (E i)) ∧ w.cell? ⟨b, off + i * 2 + 1, none⟩ = some (.int .i64 (O i))

set_option maxHeartbeats 400000 in
theorem csame_yes (b off c b' off' c' n : Nat) (E O : Nat → Int) (w : World) (hn : n ≤ 1025) (h1 : Pairs w b off n E O) (h2 : Pairs w b' off' n E O) :
    Calls Yba.prog 10 #[.slice (some ⟨b, off, none⟩) n c, .slice (some ⟨b', off', none⟩) n c'] w fun e w' => e = .returned (.bool true) ∧ ∃ m, w' = w.drewN m := by
  go_enter Yba.func10, Yba.ntmps10
  go_wp2
  go_loopw [13] (fun i wr => ∃ k m : Nat, k ≤ n ∧ i = .int .i64 k ∧ wr = w.drewN m) (fun i _ => n - (intOf i).toNat)
  case atStart => exact ⟨0, 0, by omega, rfl, rfl⟩
  case round =>
    obtain ⟨k, m, hk, rfl, rfl⟩ := hrel
    by_cases hlt : k < n
    · have hlt' : (k : Int) < (n : Int) := by omega
      obtain ⟨c1, c2⟩ := h1 k hlt
      obtain ⟨c3, c4⟩ := h2 k hlt
      go_wp2
      go_quiet (fail)
      go_wp2
      go_roundw
      case rel => exact ⟨k + 1, _, by omega, by go_num, rfl⟩
      case measure => simp [intOf]; omega
    · go_wp2
      go_ret
      exact ⟨rfl, _, rfl⟩
end Go.Proofs.Ybulkcdfu
