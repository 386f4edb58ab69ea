import Derived.Test.Qxb6600180aWalksA
import Derived.WalkKit
import Derived.WalkSpells
namespace Go.Proofs.Qxb6600180a
open Go.RowKit
set_option linter.unusedVariables false

/-- The six lives. -/
def chainL : Nat → List Int
  | 0 => [1, 3, 4, 5, 6, 0]
  | 1 => [1, 2, 7, 8, 0, 0]
  | 2 => [1, 3, 7, 8, 0, 0]
  | 3 => [1, 3, 4, 7, 8, 0]
  | 4 => [1, 3, 4, 9, 5, 6]
  | 5 => [1, 3, 4, 9, 7, 8]
  | _ => []
def chain (c k : Nat) : Int := (chainL c).getD k 0
def clen : Nat → Nat
  | 0 => 5 | 1 => 4 | 2 => 4 | 3 => 5 | 4 => 6 | 5 => 6 | _ => 0

theorem upto5 (c : Nat) (hc : c ≤ 5) : c = 0 ∨ c = 1 ∨ c = 2 ∨ c = 3 ∨ c = 4 ∨ c = 5 := by omega

set_option maxHeartbeats 1600000 in
theorem chainAt_any (c k : Nat) (w : World) (hc : c ≤ 5) (hk : k ≤ 5) :
    Calls Try.prog 13 #[.int .i64 c, .int .i64 k] w fun e w' => e = .returned (.int .i64 (chain c k)) ∧ Grown w w' := by
  rcases upto5 c hc with rfl | rfl | rfl | rfl | rfl | rfl <;> rcases upto5 k hk with rfl | rfl | rfl | rfl | rfl | rfl
  all_goals
    go_enter Try.func13, Try.ntmps13
    go_wp2
    go_ret
    exact ⟨rfl, by repeat (first | exact Grown.refl _ | apply Grown.drew | apply Grown.alloc)⟩
end Go.Proofs.Qxb6600180a
