import Derived.Test.Qxb6001731aFmtRoll
import Derived.WalkKit
import Derived.WalkSpells
import Derived.Deep.QuietTactic
import Derived.BigQuiet
namespace Go.Proofs.Qxb6001731aFmt
open Go.RowKit Go.Extern.Stop Go.Stop Go.Extern
set_option linter.unusedVariables false

/-! ### THE PLAIN LAW -/
theorem tiles_to (d b : Int) (hb : 1 ≤ b) (h0 : 1000 ≤ d) (h1 : d % 1000 = 0) (hm : d / 1000 % b = 0) : d % b = 0 ∧ 1000 ≤ d / b ∧ d / b % 1000 = 0 := by
  obtain ⟨m, rfl⟩ : ∃ m, d = 1000 * m := ⟨d / 1000, by omega⟩
  have e1 : 1000 * m / 1000 = m := by omega
  rw [e1] at hm
  obtain ⟨k, rfl⟩ : ∃ k, m = b * k := Int.dvd_of_emod_eq_zero hm
  have e2 : 1000 * (b * k) = b * (1000 * k) := by rw [← Int.mul_assoc, ← Int.mul_assoc, Int.mul_comm 1000 b]
  have hk : 1 ≤ k := by
    rcases Int.lt_or_le k 1 with h | h
    · have : b * k ≤ b * 0 := Int.mul_le_mul_of_nonneg_left (by omega) (by omega)
      omega
    · exact h
  rw [e2, Int.mul_emod_right, Int.mul_ediv_cancel_left _ (by omega)]
  omega
theorem tiles_from (d b : Int) (hb : 1 ≤ b) (h0 : d % b = 0) (h1 : d / b % 1000 = 0) : d / 1000 % b = 0 := by
  obtain ⟨q, rfl⟩ : ∃ q, d = b * q := Int.dvd_of_emod_eq_zero h0
  rw [Int.mul_ediv_cancel_left _ (by omega)] at h1
  obtain ⟨k, rfl⟩ : ∃ k, q = 1000 * k := ⟨q / 1000, by omega⟩
  have e2 : b * (1000 * k) = 1000 * (b * k) := by rw [← Int.mul_assoc, ← Int.mul_assoc, Int.mul_comm 1000 b]
  rw [e2, Int.mul_ediv_cancel_left _ (by omega)]
  exact Int.mul_emod_right b k
theorem roll_spec (n d b : Int) (hb : 1 ≤ b) (hm : d % b = 0) : rollOk n d b = (winOk n d && winOk n (d / b)) := by
  rw [Bool.eq_iff_iff]
  simp only [rollOk, Bool.and_eq_true, decide_eq_true_eq, winOk_iff]
  constructor
  · rintro ⟨⟨a1, a2, a3⟩, a4, a5⟩
    have := tiles_to d b hb a2 a3 a5
    exact ⟨⟨a1, a2, a3⟩, a1, this.2.1, this.2.2⟩
  · rintro ⟨⟨a1, a2, a3⟩, a4, a5, a6⟩
    exact ⟨⟨a1, a2, a3⟩, hb, tiles_from d b hb hm a6⟩
theorem roll_spec0 (n d b : Int) (hb : 1 ≤ b) (hm : d % b ≠ 0) : rollOk n d b = false := by
  rw [Bool.eq_false_iff]
  intro h
  simp only [rollOk, Bool.and_eq_true, decide_eq_true_eq, winOk_iff] at h
  obtain ⟨⟨a1, a2, a3⟩, a4, a5⟩ := h
  exact hm (tiles_to d b hb a2 a3 a5).1
theorem roll_low (n d b : Int) (hb : b < 1) : rollOk n d b = false := by
  rw [Bool.eq_false_iff]
  intro h
  simp only [rollOk, Bool.and_eq_true, decide_eq_true_eq, winOk_iff] at h
  omega
theorem win_low (n d : Int) (hb : d < 1000) : winOk n d = false := by
  rw [Bool.eq_false_iff]
  intro h
  rw [winOk_iff] at h
  omega

theorem tdiv_bd (d b : Int) (hd : d < 0) (hb : 1 ≤ b) : d ≤ d.tdiv b ∧ d.tdiv b ≤ 0 := by
  obtain ⟨m, rfl⟩ : ∃ m, d = -m := ⟨-d, by omega⟩
  rw [Int.neg_tdiv, Int.tdiv_eq_ediv_of_nonneg (by omega)]
  have q0 : 0 ≤ m / b := Int.ediv_nonneg (by omega) (by omega)
  have q1 : m / b ≤ m := Int.ediv_le_self b (by omega)
  omega

set_option maxHeartbeats 400000 in
theorem law_low (F : Interp) (n d b : Int) (w : World) (hF : F.answers w.tape) (d0 : -9223372036854775808 ≤ d) (d1 : d ≤ 9223372036854775807) (b1 : b ≤ 9223372036854775807) (hb : b < 1) :
    Calls Tryf.prog 4 #[.int .i64 n, .int .i64 d, .int .i64 b] w fun e w' => e = .returned (.bool true) ∧ Below w.heap.size w w' := by
  have hr := roll_low n d b hb
  go_enter Tryf.func4, Tryf.ntmps4
  go_wp2_with fail
  refine (zzRolling_any n d b _).mono ?_
  rintro e w1 ⟨rfl, hw1⟩
  go_wp2_with fail
  refine (zzRoll_no F n d b _ (by rw [hw1.tape]; exact hF) d0 d1 b1 hr).mono ?_
  rintro e w2 ⟨⟨a, rfl⟩, hw2⟩
  go_wp2
  go_ret
  exact ⟨rfl, below_more hw1 hw2⟩

set_option maxHeartbeats 400000 in
theorem law_pos (F : Interp) (n d b : Int) (w : World) (hF : F.answers w.tape) (d0 : 0 ≤ d) (d1 : d ≤ 9223372036854775807) (b1 : b ≤ 9223372036854775807) (hb : 1 ≤ b) :
    Calls Tryf.prog 4 #[.int .i64 n, .int .i64 d, .int .i64 b] w fun e w' => e = .returned (.bool true) ∧ Below w.heap.size w w' := by
  by_cases hm : d % b = 0
  · have hs := roll_spec n d b hb hm
    have hm' : (d % b == 0) = true := by simp [hm]
    have q0 : 0 ≤ d / b := Int.ediv_nonneg (by omega) (by omega)
    have q1 : d / b ≤ d := Int.ediv_le_self b (by omega)
    clear hm
    cases hw : winOk n d <;> cases hq : winOk n (d / b) <;> (rw [hw, hq] at hs; simp only [Bool.and_true, Bool.and_false] at hs)
    all_goals
      go_enter Tryf.func4, Tryf.ntmps4
      go_wp2_with fail
      refine (zzRolling_any n d b _).mono ?_
      rintro e w1 ⟨rfl, hw1⟩
      go_wp2_with fail
      first | (refine (zzRoll_yes n d b _ d1 b1 hs).mono ?_; rintro e w2 ⟨rfl, hw2⟩) | (refine (zzRoll_no F n d b _ (by rw [hw1.tape]; exact hF) (by omega) d1 b1 hs).mono ?_; rintro e w2 ⟨⟨a, rfl⟩, hw2⟩)
      go_wp2_with fail
      first | (refine (zzCheckWindow_yes _ n d _ hw d1).mono ?_; rintro e w3 ⟨rfl, hw3⟩) | (refine (zzCheckWindow_no F _ n d _ (by rw [hw2.tape, hw1.tape]; exact hF) hw (by omega) d1).mono ?_; rintro e w3 ⟨⟨a3, rfl⟩, hw3⟩)
      go_wp2_with fail
      first | (refine (zzCheckWindow_yes _ n (d / b) _ hq (by omega)).mono ?_; rintro e w4 ⟨rfl, hw4⟩) | (refine (zzCheckWindow_no F _ n (d / b) _ (by rw [hw3.tape, hw2.tape, hw1.tape]; exact hF) hq (by omega) (by omega)).mono ?_; rintro e w4 ⟨⟨a4, rfl⟩, hw4⟩)
      go_wp2
      go_ret
      exact ⟨rfl, below_more (below_more (below_more hw1 hw2) hw3) hw4⟩
  · have hr := roll_spec0 n d b hb hm
    have hm' : (d % b == 0) = false := by simp [hm]
    clear hm
    go_enter Tryf.func4, Tryf.ntmps4
    go_wp2_with fail
    refine (zzRolling_any n d b _).mono ?_
    rintro e w1 ⟨rfl, hw1⟩
    go_wp2_with fail
    refine (zzRoll_no F n d b _ (by rw [hw1.tape]; exact hF) (by omega) d1 b1 hr).mono ?_
    rintro e w2 ⟨⟨a, rfl⟩, hw2⟩
    go_wp2
    go_ret
    exact ⟨rfl, below_more hw1 hw2⟩

set_option maxHeartbeats 400000 in
theorem law_neg (F : Interp) (n d b : Int) (w : World) (hF : F.answers w.tape) (d0 : -9223372036854775808 ≤ d) (d1 : d < 0) (b1 : b ≤ 9223372036854775807) (hb : 1 ≤ b) :
    Calls Tryf.prog 4 #[.int .i64 n, .int .i64 d, .int .i64 b] w fun e w' => e = .returned (.bool true) ∧ Below w.heap.size w w' := by
  have hw := win_low n d (by omega)
  have hr : rollOk n d b = false := by rw [rollOk, hw]; rfl
  obtain ⟨q0, q1⟩ := tdiv_bd d b d1 hb
  have hq := win_low n (d.tdiv b) (by omega)
  cases ht : (d.tmod b == 0)
  · go_enter Tryf.func4, Tryf.ntmps4
    go_wp2_with fail
    refine (zzRolling_any n d b _).mono ?_
    rintro e w1 ⟨rfl, hw1⟩
    go_wp2_with fail
    refine (zzRoll_no F n d b _ (by rw [hw1.tape]; exact hF) (by omega) (by omega) b1 hr).mono ?_
    rintro e w2 ⟨⟨a, rfl⟩, hw2⟩
    go_wp2
    go_ret
    exact ⟨rfl, below_more hw1 hw2⟩
  · go_enter Tryf.func4, Tryf.ntmps4
    go_wp2_with fail
    refine (zzRolling_any n d b _).mono ?_
    rintro e w1 ⟨rfl, hw1⟩
    go_wp2_with fail
    refine (zzRoll_no F n d b _ (by rw [hw1.tape]; exact hF) (by omega) (by omega) b1 hr).mono ?_
    rintro e w2 ⟨⟨a, rfl⟩, hw2⟩
    go_wp2_with fail
    refine (zzCheckWindow_no F _ n d _ (by rw [hw2.tape, hw1.tape]; exact hF) hw (by omega) (by omega)).mono ?_
    rintro e w3 ⟨⟨a3, rfl⟩, hw3⟩
    go_wp2_with fail
    refine (zzCheckWindow_no F _ n (d.tdiv b) _ (by rw [hw3.tape, hw2.tape, hw1.tape]; exact hF) hq (by omega) (by omega)).mono ?_
    rintro e w4 ⟨⟨a4, rfl⟩, hw4⟩
    go_wp2
    go_ret
    exact ⟨rfl, below_more (below_more (below_more hw1 hw2) hw3) hw4⟩

/-- FnRollingCheckTiles returns true, whatever the input. -/
theorem tiles_law (F : Interp) (n d b : Int) (w : World) (hF : F.answers w.tape) (d0 : -9223372036854775808 ≤ d) (d1 : d ≤ 9223372036854775807) (b1 : b ≤ 9223372036854775807) :
    Calls Tryf.prog 4 #[.int .i64 n, .int .i64 d, .int .i64 b] w fun e w' => e = .returned (.bool true) ∧ Below w.heap.size w w' := by
  by_cases hb : b < 1
  · exact law_low F n d b w hF d0 d1 b1 hb
  by_cases hd : d < 0
  · exact law_neg F n d b w hF d0 hd b1 (by omega)
  · exact law_pos F n d b w hF (by omega) d1 b1 (by omega)
end Go.Proofs.Qxb6001731aFmt
