import Derived.Test.Qxb6629102aRows
import Derived.WalkKit
import Derived.WalkSpells
import Derived.WalkLawsBesides
import Derived.Deep.QuietTactic
import Derived.BigQuiet
namespace Go.Proofs.Qxb6629102a
open Go.RowKit

/-- what zzAdd computes -/
def addB (n k : Int) : Int := if n > 1048576 ∨ k > 1048576 then 1048577 else n + k

set_option maxHeartbeats 400000 in
theorem zzAdd_any (n k : Int) (w : World) (hn0 : 0 ≤ n) (hk0 : 0 ≤ k) :
    Calls Try.prog 15 #[.int .i64 n, .int .i64 k] w fun e w' => e = .returned (.int .i64 (addB n k)) ∧ w = w' := by
  unfold addB
  by_cases h1 : (1048576 : Int) < n
  · rw [if_pos (Or.inl h1)]
    go_enter Try.func15, Try.ntmps15
    go_wp2
    go_ret
    exact ⟨rfl, rfl⟩
  · by_cases h2 : (1048576 : Int) < k
    · rw [if_pos (Or.inr h2)]
      go_enter Try.func15, Try.ntmps15
      go_wp2
      go_ret
      exact ⟨rfl, rfl⟩
    · rw [if_neg (by omega)]
      go_enter Try.func15, Try.ntmps15
      go_wp2
      go_ret
      exact ⟨rfl, rfl⟩

end Go.Proofs.Qxb6629102a
