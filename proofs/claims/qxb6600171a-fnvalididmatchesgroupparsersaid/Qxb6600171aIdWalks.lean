import Derived.Test.Qxb6600171aRows
import Derived.Test.Qxb6600171aPlain
import Derived.WalkKit
import Derived.ProofKit
import Derived.OpenShut
import Derived.WalkSpells
import Derived.Lib.ConvBytes
namespace Go.Proofs.Qxb6600171a
open Go.RowKit
set_option linter.unusedVariables false

theorem ret_int {k : IntKind} {a b : Int} (h : a = b) : Ending.returned (.int k a) = .returned (.int k b) := by rw [h]
theorem ret_bool {a b : Bool} (h : a = b) : Ending.returned (.bool a) = .returned (.bool b) := by rw [h]
theorem val_int {k : IntKind} {a b : Int} (h : a = b) : Value.int k a = .int k b := by rw [h]

/-- The text's bytes, as numbers. -/
def nums (s : ByteArray) : List Int := s.data.toList.map fun c => (c.toNat : Int)
theorem nums_len (s : ByteArray) : (nums s).length = s.size := by simp [nums]
theorem nums_drop (s : ByteArray) (k : Nat) (h : k < s.size) : (nums s).drop k = (s[k].toNat : Int) :: (nums s).drop (k + 1) := by
  rw [List.drop_eq_getElem_cons (by rw [nums_len]; exact h)]
  simp only [nums, List.getElem_map]
  rfl

/-! ### isDigit, isUpper, isLetter -/
def digB (c : Int) : Bool := decide (48 ≤ c ∧ c ≤ 57)
def uppB (c : Int) : Bool := decide (65 ≤ c ∧ c ≤ 90)
def letB (c : Int) : Bool := decide ((65 ≤ c ∧ c ≤ 90) ∨ (97 ≤ c ∧ c ≤ 122))

set_option maxHeartbeats 400000 in
theorem isDigit_any (c : Int) (w : World) : Calls Try.prog 34 #[.int .u8 c] w fun e w' => e = .returned (.bool (digB c)) ∧ w' = w := by
  by_cases h : 48 ≤ c
  · go_enter Try.func34, Try.ntmps34
    go_wp2
    go_ret
    exact ⟨ret_bool (by simp [digB, h]), rfl⟩
  · have hd : decide (48 ≤ c) = false := by simpa using h
    have hf : Hid (digB c = false) := show digB c = false by simp [digB]; omega
    go_enter Try.func34, Try.ntmps34
    go_wp2
    go_ret
    exact ⟨ret_bool hf.out.symm, rfl⟩

set_option maxHeartbeats 400000 in
theorem isUpper_any (c : Int) (w : World) : Calls Try.prog 36 #[.int .u8 c] w fun e w' => e = .returned (.bool (uppB c)) ∧ w' = w := by
  by_cases h : 65 ≤ c
  · go_enter Try.func36, Try.ntmps36
    go_wp2
    go_ret
    exact ⟨ret_bool (by simp [uppB, h]), rfl⟩
  · have hd : decide (65 ≤ c) = false := by simpa using h
    have hf : Hid (uppB c = false) := show uppB c = false by simp [uppB]; omega
    go_enter Try.func36, Try.ntmps36
    go_wp2
    go_ret
    exact ⟨ret_bool hf.out.symm, rfl⟩

set_option maxHeartbeats 400000 in
theorem isLetter_any (c : Int) (w : World) : Calls Try.prog 35 #[.int .u8 c] w fun e w' => e = .returned (.bool (letB c)) ∧ w' = w := by
  cases hu : uppB c
  · have hu' : ¬ (65 ≤ c ∧ c ≤ 90) := by simpa [uppB] using hu
    by_cases h : 97 ≤ c
    · have hf : Hid (letB c = decide (c ≤ 122)) := show letB c = decide (c ≤ 122) by rw [Bool.eq_iff_iff]; simp [letB]; omega
      clear hu'
      go_enter Try.func35, Try.ntmps35
      go_wp2_with (go_at_call 36; refine (isUpper_any _ _).mono ?_; rintro e w' ⟨rfl, rfl⟩)
      go_ret
      exact ⟨ret_bool hf.out.symm, rfl⟩
    · have hd : decide (97 ≤ c) = false := by simpa using h
      have hf : Hid (letB c = false) := show letB c = false by simp [letB]; omega
      clear hu'
      go_enter Try.func35, Try.ntmps35
      go_wp2_with (go_at_call 36; refine (isUpper_any _ _).mono ?_; rintro e w' ⟨rfl, rfl⟩)
      go_ret
      exact ⟨ret_bool hf.out.symm, rfl⟩
  · have hu' : 65 ≤ c ∧ c ≤ 90 := by simpa [uppB] using hu
    have hf : Hid (letB c = true) := show letB c = true by simp [letB]; omega
    clear hu'
    go_enter Try.func35, Try.ntmps35
    go_wp2_with (go_at_call 36; refine (isUpper_any _ _).mono ?_; rintro e w' ⟨rfl, rfl⟩)
    go_ret
    exact ⟨ret_bool hf.out.symm, rfl⟩

/-! ### zzGroupLen, zzIndex -/
set_option maxHeartbeats 400000 in
theorem groupLen_any (g : Nat) (w : World) (hg : g ≤ 4) : Calls Try.prog 29 #[.int .i64 g] w fun e w' => e = .returned (.int .i64 (glen g)) ∧ w' = w := by
  have : g = 0 ∨ g = 1 ∨ g = 2 ∨ g = 3 ∨ g = 4 := by omega
  rcases this with rfl | rfl | rfl | rfl | rfl
  all_goals
    go_enter Try.func29, Try.ntmps29
    go_wp2
    go_ret
    exact ⟨rfl, rfl⟩

set_option maxHeartbeats 400000 in
theorem index_any (a : ByteArray) (c : Int) (w : World) (ha : a.size ≤ 1000) :
    Calls Try.prog 30 #[.string a, .int .u8 c] w fun e w' => ((∃ j : Nat, e = .returned (.int .i64 j) ∧ ∃ h : j < a.size, (a[j].toNat : Int) = c) ∨ (e = .returned (.int .i64 (-1)) ∧ ∀ i (h : i < a.size), (a[i].toNat : Int) ≠ c)) ∧ w' = w := by
  go_enter Try.func30, Try.ntmps30
  go_wp2
  go_loop [5] (fun t => ∃ k : Nat, t = .int .i64 k ∧ k ≤ a.size ∧ Hid (∀ i (h : i < a.size), i < k → (a[i].toNat : Int) ≠ c)) (fun t => a.size - (intOf t).toNat)
  case atStart => exact ⟨0, rfl, Nat.zero_le _, fun i _ h => absurd h (Nat.not_lt_zero _)⟩
  case round =>
    obtain ⟨k, rfl, hk, hall⟩ := hrel
    by_cases hlt : k < a.size
    · by_cases he : (a[k].toNat : Int) = c
      · have he' : ((a[k].toNat : Int) == c) = true := by simp [he]
        have He : Hid ((a[k].toNat : Int) = c) := he
        clear he
        go_wp2
        go_ret
        exact ⟨Or.inl ⟨k, rfl, hlt, He.out⟩, rfl⟩
      · have he' : ((a[k].toNat : Int) == c) = false := by simp [he]
        have He : Hid (¬ (a[k].toNat : Int) = c) := he
        clear he
        go_wp2
        go_round
        case rel => exact ⟨k + 1, val_int (by omega), by omega, fun i h hi => (Nat.lt_succ_iff_lt_or_eq.1 hi).elim (hall.out i h) (fun e => by subst e; exact He.out)⟩
        case measure => simp [intOf]; omega
    · go_wp2
      go_ret
      exact ⟨Or.inr ⟨rfl, fun i h => hall.out i h (by omega)⟩, rfl⟩
end Go.Proofs.Qxb6600171a
