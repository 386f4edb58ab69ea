import Derived.Test.Qxb6600171aValidID
import Derived.WalkKit
import Derived.WalkSpells
import Derived.Lib.ConvBytes
import Derived.Lib.Strings
namespace Go.Proofs.Qxb6600171a
open Go.RowKit
set_option linter.unusedVariables false

/-- What stands in an id. -/
theorem okAt_name (p : Nat) (c : Int) (h : okAt p c = true) : c = 45 ∨ hexI c = true := by
  unfold okAt at h
  split at h
  · left; simpa using h
  · exact Or.inr h
theorem okFrom_all (l : List Int) : ∀ p, okFrom p l = true → ∀ c ∈ l, c = 45 ∨ hexI c = true := by
  induction l with
  | nil => intro p _ c hc; cases hc
  | cons d l ih =>
    intro p h c hc
    simp only [okFrom, Bool.and_eq_true] at h
    rcases List.mem_cons.1 hc with rfl | hc
    · exact okAt_name p _ h.1
    · exact ih (p + 1) h.2 c hc
theorem vid_parts (s : ByteArray) (h : vid s = true) : s.size = 36 ∧ ∀ k (hk : k < s.size), (s[k].toNat : Int) = 45 ∨ hexI (s[k].toNat : Int) = true := by
  simp only [vid, Bool.and_eq_true, decide_eq_true_eq, nums_len] at h
  refine ⟨h.1, fun k hk => okFrom_all _ 0 h.2 _ ?_⟩
  have := nums_drop s k hk
  have hm : (s[k].toNat : Int) ∈ (nums s).drop k := by rw [this]; exact List.mem_cons_self
  exact List.mem_of_mem_drop hm

theorem not_short (s : ByteArray) (l : List UInt8) (h : l.length ≠ s.size) : (s.toList == l) = false := by
  rw [Lib.toList_data, beq_eq_false_iff_ne]
  intro e
  apply h
  rw [← e]
  simp

set_option maxHeartbeats 800000 in
theorem validName_of (s : ByteArray) (w : World) (hv : vid s = true) :
    Calls Try.prog 32 #[.string s] w fun e w' => e = .returned (.bool true) ∧ Below w.heap.size w w' := by
  obtain ⟨h36, hall⟩ := vid_parts s hv
  have n1 : ¬ (s.size : Int) < 1 := by omega
  have n1d : decide ((s.size : Int) < 1) = false := by simpa using n1
  have n2 : ¬ (200 : Int) < (s.size : Int) := by omega
  have n2d : decide ((200 : Int) < (s.size : Int)) = false := by simpa using n2
  have b1 : s.size ≤ 36 := by omega
  have Hall : Hid (∀ k (hk : k < s.size), (s[k].toNat : Int) = 45 ∨ hexI (s[k].toNat : Int) = true) := hall
  have hcv := Lib.run_convert_string_bytes (P := Try.prog) w 9 27 5 s Try.underlying9 Try.underlying27 Try.underlying5
  have H36 : Hid (s.size = 36) := h36
  have d1 := not_short s [46] (by simp; omega)
  have d2 := not_short s [46, 46] (by simp; omega)
  have d1' : ¬ s.toList = [46] := by simpa using d1
  have d2' : ¬ s.toList = [46, 46] := by simpa using d2
  clear hall hv h36
  go_enter Try.func32, Try.ntmps32
  go_wp2
  go_loop [4, 24] (fun _ t => ∃ k : Nat, t = .int .i64 k ∧ k ≤ s.size) (fun _ t => s.size - (intOf t).toNat)
  case atStart => exact ⟨0, rfl, Nat.zero_le _⟩
  case round =>
    obtain ⟨k, rfl, hk⟩ := hrel
    by_cases hlt : k < s.size
    · obtain ⟨c, hcell, hcc⟩ : ∃ c : Int, (Lib.bytesWorld w 5 s).cell? ⟨w.heap.size, k, none⟩ = some (.int .u8 c) ∧ (c = 45 ∨ hexI c = true) :=
        ⟨_, bytes_cell w s k hlt, Hall.out k hlt⟩
      cases hl : letB c
      · cases hd : digB c
        · have hc45 : c = 45 := by
            rcases hcc with h | h
            · exact h
            · exfalso
              rw [hexI_iff] at h
              simp [letB] at hl
              simp [digB] at hd
              omega
          subst hc45
          clear hcc
          go_wp2_with (first | (go_at_call 35; refine (isLetter_any _ _).mono ?_; rintro e w' ⟨rfl, rfl⟩) | (go_at_call 34; refine (isDigit_any _ _).mono ?_; rintro e w' ⟨rfl, rfl⟩))
          go_round
          case rel => exact ⟨k + 1, val_int (by omega), by omega⟩
          case measure => simp [intOf]; omega
        · clear hcc
          go_wp2_with (first | (go_at_call 35; refine (isLetter_any _ _).mono ?_; rintro e w' ⟨rfl, rfl⟩) | (go_at_call 34; refine (isDigit_any _ _).mono ?_; rintro e w' ⟨rfl, rfl⟩))
          go_round
          case rel => exact ⟨k + 1, val_int (by omega), by omega⟩
          case measure => simp [intOf]; omega
      · clear hcc
        go_wp2_with (first | (go_at_call 35; refine (isLetter_any _ _).mono ?_; rintro e w' ⟨rfl, rfl⟩) | (go_at_call 34; refine (isDigit_any _ _).mono ?_; rintro e w' ⟨rfl, rfl⟩))
        go_round
        case rel => exact ⟨k + 1, val_int (by omega), by omega⟩
        case measure => simp [intOf]; omega
    · go_wp2
      go_ret
      exact ⟨rfl, below_bytes w 5 s⟩

set_option maxHeartbeats 400000 in
theorem zzValidName_of (s : ByteArray) (w : World) (hv : vid s = true) :
    Calls Try.prog 20 #[.string s] w fun e w' => e = .returned (.bool true) ∧ Below w.heap.size w w' := by
  go_enter Try.func20, Try.ntmps20
  go_wp2_with fail
  refine (validName_of s _ hv).mono ?_
  rintro e w1 ⟨rfl, hb⟩
  go_wp2
  go_ret
  exact ⟨rfl, hb⟩

set_option maxHeartbeats 400000 in
theorem zzBytes19_any (s : ByteArray) (w : World) (hs : s.size ≤ maxLen) :
    Calls Try.prog 19 #[.string s] w fun e w' => e = .returned (.bool (decide (s.size ≤ 1048576))) ∧ w' = w := by
  unfold maxLen at hs
  by_cases h : 1048576 < s.size
  · have Hf : Hid (decide (s.size ≤ 1048576) = false) := show decide (s.size ≤ 1048576) = false by simp; omega
    have hi : (1048576 : Int) < (s.size : Int) := by omega
    go_enter Try.func19, Try.ntmps19
    go_wp2
    go_ret
    exact ⟨ret_bool Hf.out.symm, rfl⟩
  · have Hf : Hid (decide (s.size ≤ 1048576) = true) := show decide (s.size ≤ 1048576) = true by simp; omega
    have hi : ¬ (1048576 : Int) < (s.size : Int) := by omega
    go_enter Try.func19, Try.ntmps19
    go_wp2
    go_ret
    exact ⟨ret_bool Hf.out.symm, rfl⟩

theorem below_more {w w1 w2 : World} (h1 : Below w.heap.size w w1) (h2 : Below w1.heap.size w1 w2) : Below w.heap.size w w2 := h1.trans (h2.mono h1.size)

set_option maxHeartbeats 400000 in
theorem name_law (s : ByteArray) (w : World) (hs : s.size ≤ maxLen) :
    Calls Try.prog 6 #[.string s] w fun e w' => e = .returned (.bool true) ∧ Below w.heap.size w w' := by
  have hm := hs
  unfold maxLen at hs
  by_cases h : 1048576 < s.size
  · have hd : decide (s.size ≤ 1048576) = false := by simp; omega
    go_enter Try.func6, Try.ntmps6
    go_wp2_with (go_at_call 19; refine (zzBytes19_any s _ hm).mono ?_; rintro e w' ⟨rfl, rfl⟩)
    go_ret
    exact ⟨rfl, Below.refl _ _⟩
  · have hd : decide (s.size ≤ 1048576) = true := by simp; omega
    have hi : ¬ (1048576 : Int) < (s.size : Int) := by omega
    cases hv : vid s
    · go_enter Try.func6, Try.ntmps6
      go_wp2_with fail
      refine (zzBytes19_any s _ hm).mono ?_
      rintro e w1 ⟨rfl, rfl⟩
      go_wp2_with fail
      refine (zzValidID_any s _ (by omega)).mono ?_
      rintro e w2 ⟨rfl, hb⟩
      go_wp2
      go_ret
      exact ⟨rfl, hb⟩
    · go_enter Try.func6, Try.ntmps6
      go_wp2_with fail
      refine (zzBytes19_any s _ hm).mono ?_
      rintro e w1 ⟨rfl, rfl⟩
      go_wp2_with fail
      refine (zzValidID_any s _ (by omega)).mono ?_
      rintro e w2 ⟨rfl, hb⟩
      go_wp2_with fail
      refine (zzValidName_of s _ hv).mono ?_
      rintro e w3 ⟨rfl, hb3⟩
      go_wp2
      go_ret
      exact ⟨rfl, below_more hb hb3⟩
end Go.Proofs.Qxb6600171a
