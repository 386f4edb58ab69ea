import Derived.Test.Qxb6001731aRows
import Derived.WalkKit
import Derived.ProofKit
import Derived.OpenShut
import Derived.ShutString
import Derived.WalkSpells
import Derived.Deep.QuietTactic
import Derived.BigQuiet
namespace Go.Proofs.Qxb6001731a
open Go.RowKit
set_option linter.unusedVariables false

theorem grown_trans {a b c : World} (h1 : Grown a b) (h2 : Grown b c) : Grown a c :=
  ⟨World.keptBut_trans h1.1 h2.1, fun x => (h2.2.1 x).trans (h1.2.1 x), Nat.le_trans h1.2.2 h2.2.2⟩

theorem grown_drewN {a b : World} (h : Grown a b) (n : Nat) : Grown a (b.drewN n) := h

set_option maxHeartbeats 400000 in
theorem trunc_any (d : Int) (w : World) (h0 : 0 ≤ d) (h1 : d ≤ 9223372036854775807) :
    Calls Try.prog 10 #[.int .i64 d, .int .i64 1000] w fun e w' => e = .returned (.int .i64 (d - d % 1000)) ∧ w' = w := by
  go_enter Try.func10, Try.ntmps10
  go_wp2
  go_ret
  exact ⟨rfl, rfl⟩

set_option maxHeartbeats 400000 in
theorem new_any (s : ByteArray) (w : World) :
    Calls Try.prog 8 #[.string s] w fun e w' => (∃ a : Addr, e = .returned (.iface 33 (.pointer (some a)))) ∧ Grown w w' := by
  go_enter Try.func8, Try.ntmps8
  go_wp2
  go_ret
  exact ⟨⟨_, rfl⟩, by repeat (first | exact Grown.refl _ | apply Grown.drew | apply Grown.alloc)⟩

set_option maxHeartbeats 400000 in
theorem zzRate_any (n p : Int) (w : World) :
    Calls Try.prog 5 #[.int .i64 n, .int .i64 p] w fun e w' => e = .returned (.agg #[.int .i64 n, .int .i64 p]) ∧ ∃ c1, w' = w.alloc (.cells c1 27) := by
  go_enter Try.func5, Try.ntmps5
  go_wp2
  exact bodyPost_ret (v := .agg #[.int .i64 n, .int .i64 p]) (by simp [results, Try.results5, go_sem]) rfl ⟨rfl, _, rfl⟩

theorem quo_bd (n p : Int) (hn : 1 ≤ n) (h0 : 0 < p) : 0 ≤ p / n ∧ p / n ≤ p :=
  ⟨Int.ediv_nonneg (by omega) (by omega), Int.ediv_le_self n (by omega)⟩

set_option maxHeartbeats 400000 in
theorem interval_any (n p : Int) (w : World) (hn : 1 ≤ n) (h0 : 0 < p) (h1 : p ≤ 9223372036854775807) :
    Calls Try.prog 9 #[.agg #[.int .i64 n, .int .i64 p]] w fun e w' => e = .returned (.int .i64 (p / n - p / n % 1000)) ∧ ∃ c1, w' = w.alloc (.cells c1 27) := by
  obtain ⟨b0, b1⟩ := quo_bd n p hn h0
  go_enter Try.func9, Try.ntmps9
  go_wp2_with (go_at_call 10; refine (trunc_any _ _ (by omega) (by omega)).mono ?_; rintro e w' ⟨rfl, rfl⟩)
  go_ret
  exact ⟨rfl, _, rfl⟩

/-- The law file's own test. -/
def vld (n p : Int) : Bool := decide (1 ≤ n ∧ 0 < p ∧ n ≤ p / 1000)
theorem vld_iff (n p : Int) : vld n p = true ↔ 1 ≤ n ∧ 0 < p ∧ n ≤ p / 1000 := by unfold vld; simp
theorem vld_lt (n p : Int) (hn : 1 ≤ n) (h0 : 0 < p) : (p / n - p / n % 1000 < 1000) ↔ ¬ n ≤ p / 1000 := by
  have hq : p / n - p / n % 1000 < 1000 ↔ p / n < 1000 := by omega
  rw [hq, Int.ediv_lt_iff_lt_mul (by omega)]
  omega

set_option maxHeartbeats 400000 in
/-- (Rate).check: nil just where the rate is valid. -/
theorem check_yes (n p : Int) (w : World) (h1 : p ≤ 9223372036854775807) (hv : vld n p = true) :
    Calls Try.prog 7 #[.agg #[.int .i64 n, .int .i64 p]] w fun e w' => e = .returned .nilIface ∧ Grown w w' := by
  obtain ⟨hn, h0, hq⟩ := (vld_iff n p).1 hv
  have hlt : ¬ p / n - p / n % 1000 < 1000 := by rw [vld_lt n p hn h0]; omega
  clear hv
  go_enter Try.func7, Try.ntmps7
  go_wp2_with (go_at_call 9; refine (interval_any _ _ _ hn h0 h1).mono ?_; rintro e w' ⟨rfl, c1, rfl⟩)
  go_ret
  exact ⟨rfl, by repeat (first | exact Grown.refl _ | apply Grown.drew | apply Grown.alloc)⟩

set_option maxHeartbeats 400000 in
theorem check_no (n p : Int) (w : World) (h1 : p ≤ 9223372036854775807) (hv : vld n p = false) :
    Calls Try.prog 7 #[.agg #[.int .i64 n, .int .i64 p]] w fun e w' => (∃ a : Addr, e = .returned (.iface 33 (.pointer (some a)))) ∧ Grown w w' := by
  have hv' : ¬ (1 ≤ n ∧ 0 < p ∧ n ≤ p / 1000) := by rw [← vld_iff, hv]; simp
  clear hv
  by_cases hn : n < 1
  · clear hv'
    go_enter Try.func7, Try.ntmps7
    go_wp2_with (go_at_call 8; refine (new_any _ _).mono ?_; rintro e w' ⟨⟨a, rfl⟩, hg⟩)
    go_ret
    exact ⟨⟨a, rfl⟩, grown_trans (by repeat (first | exact Grown.refl _ | apply Grown.drew | apply Grown.alloc)) hg⟩
  · by_cases h0 : p ≤ 0
    · clear hv'
      go_enter Try.func7, Try.ntmps7
      go_wp2_with (go_at_call 8; refine (new_any _ _).mono ?_; rintro e w' ⟨⟨a, rfl⟩, hg⟩)
      go_ret
      exact ⟨⟨a, rfl⟩, grown_trans (by repeat (first | exact Grown.refl _ | apply Grown.drew | apply Grown.alloc)) hg⟩
    · have hn' : 1 ≤ n := by omega
      have h0' : 0 < p := by omega
      have hlt : p / n - p / n % 1000 < 1000 := by rw [vld_lt n p hn' h0']; omega
      clear hv'
      go_enter Try.func7, Try.ntmps7
      go_wp2_with (first | (go_at_call 9; refine (interval_any _ _ _ hn' h0' h1).mono ?_; rintro e w' ⟨rfl, c1, rfl⟩) | (go_at_call 8; refine (new_any _ _).mono ?_; rintro e w' ⟨⟨a, rfl⟩, hg⟩))
      go_ret
      exact ⟨⟨a, rfl⟩, grown_trans (by repeat (first | exact Grown.refl _ | apply Grown.drew | apply Grown.alloc)) hg⟩

set_option maxHeartbeats 400000 in
theorem zzCheck_yes (n p : Int) (w : World) (h1 : p ≤ 9223372036854775807) (hv : vld n p = true) :
    Calls Try.prog 4 #[.agg #[.int .i64 n, .int .i64 p]] w fun e w' => e = .returned .nilIface ∧ Grown w w' := by
  go_enter Try.func4, Try.ntmps4
  go_wp2_with (go_at_call 7; refine (check_yes _ _ _ h1 hv).mono ?_; rintro e w' ⟨rfl, hg⟩)
  go_ret
  exact ⟨rfl, grown_trans (by repeat (first | exact Grown.refl _ | apply Grown.drew | apply Grown.alloc)) hg⟩

set_option maxHeartbeats 400000 in
theorem zzCheck_no (n p : Int) (w : World) (h1 : p ≤ 9223372036854775807) (hv : vld n p = false) :
    Calls Try.prog 4 #[.agg #[.int .i64 n, .int .i64 p]] w fun e w' => (∃ a : Addr, e = .returned (.iface 33 (.pointer (some a)))) ∧ Grown w w' := by
  go_enter Try.func4, Try.ntmps4
  go_wp2_with (go_at_call 7; refine (check_no _ _ _ h1 hv).mono ?_; rintro e w' ⟨⟨a, rfl⟩, hg⟩)
  go_ret
  exact ⟨⟨a, rfl⟩, grown_trans (by repeat (first | exact Grown.refl _ | apply Grown.drew | apply Grown.alloc)) hg⟩

theorem ret_bool {a b : Bool} (h : a = b) : Ending.returned (.bool a) = .returned (.bool b) := by rw [h]

set_option maxHeartbeats 400000 in
theorem zzValid_any (n p : Int) (w : World) (h1 : p ≤ 9223372036854775807) :
    Calls Try.prog 6 #[.int .i64 n, .int .i64 p] w fun e w' => e = .returned (.bool (vld n p)) ∧ w' = w := by
  by_cases hn : 1 ≤ n
  · by_cases h0 : 0 < p
    · go_enter Try.func6, Try.ntmps6
      go_wp2
      go_ret
      exact ⟨ret_bool (by unfold vld; simp [hn, h0]), rfl⟩
    · have hd : decide (0 < p) = false := by simpa using h0
      have hf : vld n p = false := by unfold vld; simp [hd]
      have Hf : Hid (vld n p = false) := hf
      clear hf
      go_enter Try.func6, Try.ntmps6
      go_wp2
      go_ret
      exact ⟨ret_bool Hf.out.symm, rfl⟩
  · have hd : decide (1 ≤ n) = false := by simpa using hn
    have hf : vld n p = false := by unfold vld; simp [hd]
    have Hf : Hid (vld n p = false) := hf
    clear hf
    go_enter Try.func6, Try.ntmps6
    go_wp2
    go_ret
    exact ⟨ret_bool Hf.out.symm, rfl⟩

set_option maxHeartbeats 400000 in
theorem law_any (n p : Int) (w : World) (h1 : p ≤ 9223372036854775807) :
    Calls Try.prog 3 #[.int .i64 n, .int .i64 p] w fun e w' => e = .returned (.bool true) ∧ Grown w w' := by
  cases hv : vld n p
  · go_enter Try.func3, Try.ntmps3
    go_wp2_with (first | (go_at_call 5; refine (zzRate_any _ _ _).mono ?_; rintro e w' ⟨rfl, c1, rfl⟩) | (go_at_call 4; refine (zzCheck_no _ _ _ h1 hv).mono ?_; rintro e w' ⟨⟨a, rfl⟩, hg⟩))
    go_quiet ((go_at_call 6; exact Calls.quiet_of_same (zzValid_any _ _ _ h1)))
    go_wp2
    go_ret
    exact ⟨rfl, grown_drewN (grown_trans ((Grown.refl _).alloc _ _) hg) _⟩
  · go_enter Try.func3, Try.ntmps3
    go_wp2_with (first | (go_at_call 5; refine (zzRate_any _ _ _).mono ?_; rintro e w' ⟨rfl, c1, rfl⟩) | (go_at_call 4; refine (zzCheck_yes _ _ _ h1 hv).mono ?_; rintro e w' ⟨rfl, hg⟩))
    go_quiet ((go_at_call 6; exact Calls.quiet_of_same (zzValid_any _ _ _ h1)))
    go_wp2
    go_ret
    exact ⟨rfl, grown_drewN (grown_trans ((Grown.refl _).alloc _ _) hg) _⟩
end Go.Proofs.Qxb6001731a
