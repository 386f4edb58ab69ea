import Derived.Test.Qxb6600180aWalksB
import Derived.WalkKit
import Derived.WalkSpells
namespace Go.Proofs.Qxb6600180a
open Go.RowKit
set_option linter.unusedVariables false

/-- Does the c-th life commit? -/
def comB (c : Nat) : Bool := decide (c = 0 ∨ c = 4)

set_option maxHeartbeats 800000 in
theorem chainLen_any (c : Nat) (w : World) (hc : c ≤ 5) : Calls Try.prog 12 #[.int .i64 c] w fun e w' => e = .returned (.int .i64 (clen c)) ∧ w' = w := by
  rcases upto5 c hc with rfl | rfl | rfl | rfl | rfl | rfl
  all_goals
    go_enter Try.func12, Try.ntmps12
    go_wp2
    go_ret
    exact ⟨rfl, rfl⟩

set_option maxHeartbeats 800000 in
theorem commits_any (c : Nat) (w : World) (hc : c ≤ 5) : Calls Try.prog 14 #[.int .i64 c] w fun e w' => e = .returned (.bool (comB c)) ∧ w' = w := by
  rcases upto5 c hc with rfl | rfl | rfl | rfl | rfl | rfl
  all_goals
    go_enter Try.func14, Try.ntmps14
    go_wp2
    go_ret
    exact ⟨rfl, rfl⟩

/-! ### THE PLAIN LAWS -/
theorem first_is : ∀ c : Fin 6, outI (chain c.val 0) = 4 := by decide
theorem last_is : ∀ c : Fin 6, outI (chain c.val (clen c.val - 1)) = if comB c.val then 1 else 2 := by decide
theorem sticks_is : ∀ (c i j : Fin 6), i.val ≤ j.val → j.val < clen c.val → (outI (chain c.val i.val) = 1 ∨ outI (chain c.val i.val) = 2) → outI (chain c.val j.val) = outI (chain c.val i.val) := by decide
theorem clen_bd : ∀ c : Fin 6, 1 ≤ clen c.val ∧ clen c.val ≤ 6 := by decide

theorem chainAt_at (c k : Nat) (z : Int) (w : World) (hz : z = k) (hc : c ≤ 5) (hk : k ≤ 5) :
    Calls Try.prog 13 #[.int .i64 c, .int .i64 z] w fun e w' => e = .returned (.int .i64 (chain c k)) ∧ Grown w w' := by
  subst hz
  exact chainAt_any c k w hc hk

set_option maxHeartbeats 1600000 in
/-- Inside the law's own bounds. A, B: the outcomes at the two places; L: the last one. -/
theorem sticks_walk (c i j : Nat) (A B L : Int) (w : World) (hc : c ≤ 5) (hij : i ≤ j) (hj : j < clen c) (l1 : 1 ≤ clen c) (l6 : clen c ≤ 6) (f0 : outI (chain c 0) = 4)
    (hL : outI (chain c (clen c - 1)) = L) (hA : outI (chain c i) = A) (hB : outI (chain c j) = B) (fl : (comB c = true ∧ L = 1) ∨ (comB c = false ∧ L = 2)) (fs : (A == 1) = true ∧ B = A ∨ (A == 1) = false ∧ (A == 2) = true ∧ B = A ∨ (A == 1) = false ∧ (A == 2) = false) :
    Calls Try.prog 4 #[.int .i64 c, .int .i64 i, .int .i64 j] w fun e w' => e = .returned (.bool true) ∧ Grown w w' := by
  have t1 : decide ((c : Int) < 0) = false := by simp
  have t2 : decide (5 < (c : Int)) = false := by simp; omega
  have t3 : decide ((i : Int) < 0) = false := by simp
  have t4 : decide ((j : Int) < (i : Int)) = false := by simp; omega
  have t5 : decide ((clen c : Int) ≤ (j : Int)) = false := by simp; omega
  rcases fl with ⟨hcom, rfl⟩ | ⟨hcom, rfl⟩ <;> rcases fs with ⟨e1, rfl⟩ | ⟨e1, e2, rfl⟩ | ⟨e1, e2⟩
  all_goals
    go_enter Try.func4, Try.ntmps4
    go_wp2_with fail
    refine (chainLen_any c _ hc).mono ?_
    rintro e w1 ⟨rfl, rfl⟩
    go_wp2_with fail
    refine (chainAt_at c 0 _ _ rfl hc (by omega)).mono ?_
    rintro e w2 ⟨rfl, g2⟩
    go_wp2_with fail
    refine (outcome_any _ _).mono ?_
    rintro e w3 ⟨rfl, rfl⟩
    go_wp2_with fail
    refine (chainAt_at c (clen c - 1) _ _ (by omega) hc (by omega)).mono ?_
    rintro e w4 ⟨rfl, g4⟩
    go_wp2_with fail
    refine (outcome_any _ _).mono ?_
    rintro e w5 ⟨rfl, rfl⟩
    go_wp2_with fail
    refine (commits_any c _ hc).mono ?_
    rintro e w6 ⟨rfl, rfl⟩
    go_wp2_with fail
    refine (chainAt_at c i _ _ rfl hc (by omega)).mono ?_
    rintro e w7 ⟨rfl, g7⟩
    go_wp2_with fail
    refine (outcome_any _ _).mono ?_
    rintro e w8 ⟨rfl, rfl⟩
    go_wp2_with fail
    refine (chainAt_at c j _ _ rfl hc (by omega)).mono ?_
    rintro e w9 ⟨rfl, g9⟩
    go_wp2_with fail
    refine (outcome_any _ _).mono ?_
    rintro e w10 ⟨rfl, rfl⟩
    go_wp2
    go_ret
    exact ⟨rfl, grown_trans (grown_trans (grown_trans g2 g4) g7) g9⟩

theorem sticks_in (c i j : Nat) (w : World) (hc : c ≤ 5) (hij : i ≤ j) (hj : j < clen c) :
    Calls Try.prog 4 #[.int .i64 c, .int .i64 i, .int .i64 j] w fun e w' => e = .returned (.bool true) ∧ Grown w w' := by
  have hcl := clen_bd ⟨c, by omega⟩
  have l1 : 1 ≤ clen c := hcl.1
  have l6 : clen c ≤ 6 := hcl.2
  have f0 : outI (chain c 0) = 4 := first_is ⟨c, by omega⟩
  have fl : outI (chain c (clen c - 1)) = if comB c then 1 else 2 := last_is ⟨c, by omega⟩
  have fs := sticks_is ⟨c, by omega⟩ ⟨i, by omega⟩ ⟨j, by omega⟩ hij hj
  simp only at fs
  refine sticks_walk c i j _ _ _ w hc hij hj l1 l6 f0 rfl rfl rfl ?_ ?_
  · rw [fl]
    cases comB c <;> simp
  · by_cases a1 : outI (chain c i) = 1
    · exact Or.inl ⟨by simp [a1], fs (Or.inl a1)⟩
    · by_cases a2 : outI (chain c i) = 2
      · exact Or.inr (Or.inl ⟨by simp [a1], by simp [a2], fs (Or.inr a2)⟩)
      · exact Or.inr (Or.inr ⟨by simp [a1], by simp [a2]⟩)

set_option maxHeartbeats 800000 in
theorem sticks_law (c i j : Int) (w : World) :
    Calls Try.prog 4 #[.int .i64 c, .int .i64 i, .int .i64 j] w fun e w' => e = .returned (.bool true) ∧ Grown w w' := by
  by_cases c0 : c < 0
  · go_enter Try.func4, Try.ntmps4
    go_wp2
    go_ret
    exact ⟨rfl, Grown.refl _⟩
  have c0d : decide (c < 0) = false := by simpa using c0
  by_cases c5 : 5 < c
  · go_enter Try.func4, Try.ntmps4
    go_wp2
    go_ret
    exact ⟨rfl, Grown.refl _⟩
  have c5d : decide (5 < c) = false := by simpa using c5
  obtain ⟨d, rfl⟩ := Int.eq_ofNat_of_zero_le (show 0 ≤ c by omega)
  have hd : d ≤ 5 := by omega
  by_cases i0 : i < 0
  · go_enter Try.func4, Try.ntmps4
    go_wp2_with (go_at_call 12; refine (chainLen_any d _ hd).mono ?_; rintro e w' ⟨rfl, rfl⟩)
    go_ret
    exact ⟨rfl, Grown.refl _⟩
  have i0d : decide (i < 0) = false := by simpa using i0
  by_cases ji : j < i
  · go_enter Try.func4, Try.ntmps4
    go_wp2_with (go_at_call 12; refine (chainLen_any d _ hd).mono ?_; rintro e w' ⟨rfl, rfl⟩)
    go_ret
    exact ⟨rfl, Grown.refl _⟩
  have jid : decide (j < i) = false := by simpa using ji
  by_cases jn : (clen d : Int) ≤ j
  · go_enter Try.func4, Try.ntmps4
    go_wp2_with (go_at_call 12; refine (chainLen_any d _ hd).mono ?_; rintro e w' ⟨rfl, rfl⟩)
    go_ret
    exact ⟨rfl, Grown.refl _⟩
  obtain ⟨x, rfl⟩ := Int.eq_ofNat_of_zero_le (show 0 ≤ i by omega)
  obtain ⟨y, rfl⟩ := Int.eq_ofNat_of_zero_le (show 0 ≤ j by omega)
  exact sticks_in d x y w hd (by omega) (by omega)
end Go.Proofs.Qxb6600180a
