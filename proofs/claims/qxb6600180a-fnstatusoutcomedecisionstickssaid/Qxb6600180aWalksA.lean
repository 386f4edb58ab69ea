import Derived.Test.Qxb6600180aRows
import Derived.WalkKit
import Derived.ProofKit
import Derived.OpenShut
import Derived.WalkSpells
namespace Go.Proofs.Qxb6600180a
open Go.RowKit
set_option linter.unusedVariables false

theorem grown_trans {a b c : World} (h1 : Grown a b) (h2 : Grown b c) : Grown a c :=
  ⟨World.keptBut_trans h1.1 h2.1, fun x => (h2.2.1 x).trans (h1.2.1 x), Nat.le_trans h1.2.2 h2.2.2⟩
theorem ret_int {k : IntKind} {a b : Int} (h : a = b) : Ending.returned (.int k a) = .returned (.int k b) := by rw [h]

/-- (Status).Outcome. -/
def outI (s : Int) : Int := if s = 5 ∨ s = 6 then 1 else if s = 2 ∨ s = 7 ∨ s = 8 ∨ s = 10 then 2 else if s = 9 then 3 else 4
theorem out_else (s : Int) (h5 : s ≠ 5) (h6 : s ≠ 6) (h2 : s ≠ 2) (h7 : s ≠ 7) (h8 : s ≠ 8) (h10 : s ≠ 10) (h9 : s ≠ 9) : outI s = 4 := by
  unfold outI
  rw [if_neg (by omega), if_neg (by omega), if_neg (by omega)]

set_option maxHeartbeats 800000 in
theorem outcome_any (s : Int) (w : World) : Calls Try.prog 11 #[.int .i64 s] w fun e w' => e = .returned (.int .i64 (outI s)) ∧ w' = w := by
  by_cases h : s = 5 ∨ s = 6 ∨ s = 2 ∨ s = 7 ∨ s = 8 ∨ s = 10 ∨ s = 9
  · rcases h with rfl | rfl | rfl | rfl | rfl | rfl | rfl
    all_goals
      go_enter Try.func11, Try.ntmps11
      go_wp2
      go_ret
      exact ⟨rfl, rfl⟩
  · have Ho : Hid (outI s = 4) := out_else s (by omega) (by omega) (by omega) (by omega) (by omega) (by omega) (by omega)
    have h5 : (s == 5) = false := by simp; omega
    have h6 : (s == 6) = false := by simp; omega
    have h2 : (s == 2) = false := by simp; omega
    have h7 : (s == 7) = false := by simp; omega
    have h8 : (s == 8) = false := by simp; omega
    have h10 : (s == 10) = false := by simp; omega
    have h9 : (s == 9) = false := by simp; omega
    clear h
    go_enter Try.func11, Try.ntmps11
    go_wp2
    go_ret
    exact ⟨ret_int Ho.out.symm, rfl⟩

set_option maxHeartbeats 800000 in
theorem range_law (s : Int) (w : World) : Calls Try.prog 3 #[.int .i64 s] w fun e w' => e = .returned (.bool true) ∧ Grown w w' := by
  by_cases h1 : s < 1
  · have ho := out_else s (by omega) (by omega) (by omega) (by omega) (by omega) (by omega) (by omega)
    go_enter Try.func3, Try.ntmps3
    go_wp2_with (go_at_call 11; refine (outcome_any _ _).mono ?_; rintro e w' ⟨rfl, rfl⟩)
    go_ret
    exact ⟨rfl, Grown.refl _⟩
  by_cases h2 : 10 < s
  · have ho := out_else s (by omega) (by omega) (by omega) (by omega) (by omega) (by omega) (by omega)
    go_enter Try.func3, Try.ntmps3
    go_wp2_with (go_at_call 11; refine (outcome_any _ _).mono ?_; rintro e w' ⟨rfl, rfl⟩)
    go_ret
    exact ⟨rfl, Grown.refl _⟩
  have h : s = 1 ∨ s = 2 ∨ s = 3 ∨ s = 4 ∨ s = 5 ∨ s = 6 ∨ s = 7 ∨ s = 8 ∨ s = 9 ∨ s = 10 := by omega
  rcases h with rfl | rfl | rfl | rfl | rfl | rfl | rfl | rfl | rfl | rfl
  all_goals
    go_enter Try.func3, Try.ntmps3
    go_wp2
    go_ret
    exact ⟨rfl, Grown.refl _⟩
end Go.Proofs.Qxb6600180a
