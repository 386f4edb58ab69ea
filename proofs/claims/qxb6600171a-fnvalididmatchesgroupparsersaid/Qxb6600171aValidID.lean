import Derived.Test.Qxb6600171aIdWalks
import Derived.WalkKit
import Derived.WalkSpells
import Derived.Lib.ConvBytes
namespace Go.Proofs.Qxb6600171a
open Go.RowKit
set_option linter.unusedVariables false

theorem below_bytes (w : World) (e : TypeId) (s : ByteArray) : Below w.heap.size w (Lib.bytesWorld w e s) :=
  ⟨rfl, rfl, rfl, by rw [Lib.bytesWorld_size]; omega, fun k hk => Lib.bytesWorld_at_old w e s k hk⟩

theorem bytes_cell (w : World) (s : ByteArray) (j : Nat) (hj : j < s.size) : (Lib.bytesWorld w 5 s).cell? ⟨w.heap.size, j, none⟩ = some (.int .u8 (s[j].toNat : Int)) := by
  rw [Lib.bytesWorld_cell w 5 s j hj]
  congr 3
  simp [List.getD, hj]
  rfl

/-- What validID answers. -/
def vid (s : ByteArray) : Bool := decide ((nums s).length = 36) && okFrom 0 (nums s)

set_option maxHeartbeats 800000 in
theorem validID_any (s : ByteArray) (w : World) (hs : s.size ≤ 1048576) :
    Calls Try.prog 28 #[.string s] w fun e w' => e = .returned (.bool (vid s)) ∧ Below w.heap.size w w' := by
  by_cases h36 : s.size = 36
  · have hn : ((s.size : Int) != 36) = false := by simp; omega
    have hcv := Lib.run_convert_string_bytes (P := Try.prog) w 9 27 5 s Try.underlying9 Try.underlying27 Try.underlying5
    have H36 : Hid (s.size = 36) := h36
    have Hv : Hid (vid s = okFrom 0 (nums s)) := show vid s = okFrom 0 (nums s) by simp [vid, nums_len, h36]
    clear h36
    go_enter Try.func28, Try.ntmps28
    go_wp2
    go_loop [3, 4, 5, 12] (fun _ _ _ t => ∃ k : Nat, t = .int .i64 k ∧ k ≤ s.size ∧ Hid (okFrom k ((nums s).drop k) = okFrom 0 (nums s))) (fun _ _ _ t => s.size - (intOf t).toNat)
    case atStart => exact ⟨0, rfl, Nat.zero_le _, by simp [Hid]⟩
    case round =>
      obtain ⟨k, rfl, hk, hinv⟩ := hrel
      by_cases hlt : k < s.size
      · obtain ⟨c, hc0, hc1, hcell, hdrop⟩ : ∃ c : Int, 0 ≤ c ∧ c < 256 ∧ (Lib.bytesWorld w 5 s).cell? ⟨w.heap.size, k, none⟩ = some (.int .u8 c) ∧ (nums s).drop k = c :: (nums s).drop (k + 1) :=
          ⟨_, by omega, by have := s[k].toNat_lt; omega, bytes_cell w s k hlt, nums_drop s k hlt⟩
        have Hdrop : Hid ((nums s).drop k = c :: (nums s).drop (k + 1)) := hdrop
        clear hdrop
        by_cases hsep : k = 8 ∨ k = 13 ∨ k = 18 ∨ k = 23
        · by_cases h45 : c = 45
          · have Hn : Hid (okFrom (k + 1) ((nums s).drop (k + 1)) = okFrom 0 (nums s)) := show okFrom (k + 1) ((nums s).drop (k + 1)) = okFrom 0 (nums s) by
              rw [← hinv.out, Hdrop.out, okFrom, show okAt k c = true by simp [okAt, (sep_iff k).2 hsep, h45]]; simp
            subst h45
            rcases hsep with rfl | rfl | rfl | rfl
            all_goals
              go_wp2
              go_round
              case rel => first | exact ⟨9, rfl, by omega, Hn⟩ | exact ⟨14, rfl, by omega, Hn⟩ | exact ⟨19, rfl, by omega, Hn⟩ | exact ⟨24, rfl, by omega, Hn⟩
              case measure => simp [intOf]; omega
          · have e2 : (c != 45) = true := by simp [h45]
            have Hf : Hid (vid s = false) := show vid s = false by rw [Hv.out, ← hinv.out, Hdrop.out, okFrom, show okAt k c = false by simp [okAt, (sep_iff k).2 hsep, h45]]; rfl
            clear h45
            rcases hsep with rfl | rfl | rfl | rfl
            all_goals
              go_wp2
              go_ret
              exact ⟨ret_bool Hf.out.symm, below_bytes w 5 s⟩
        · have e8 : ((k : Int) == 8) = false := by simp; omega
          have e13 : ((k : Int) == 13) = false := by simp; omega
          have e18 : ((k : Int) == 18) = false := by simp; omega
          have e23 : ((k : Int) == 23) = false := by simp; omega
          have hsp : sep k = false := by rw [Bool.eq_false_iff, ne_eq, sep_iff]; exact hsep
          have Hok : Hid (okAt k c = hexI c) := show okAt k c = hexI c by simp [okAt, hsp]
          clear hsep hsp
          cases hd : digB c
          · have hd' : ¬ (48 ≤ c ∧ c ≤ 57) := by simpa [digB] using hd
            have hlow := low_iff c hc0 hc1
            by_cases hl : bits .or .u8 c 32 < 97
            · have Hf : Hid (vid s = false) := show vid s = false by
                rw [Hv.out, ← hinv.out, Hdrop.out, okFrom, Hok.out, show hexI c = false by rw [Bool.eq_false_iff, ne_eq, hexI_iff]; omega]; rfl
              clear hd' hlow
              go_wp2_with (go_at_call 34; refine (isDigit_any _ _).mono ?_; rintro e w' ⟨rfl, rfl⟩)
              go_ret
              exact ⟨ret_bool Hf.out.symm, below_bytes w 5 s⟩
            · by_cases hu : 102 < bits .or .u8 c 32
              · have Hf : Hid (vid s = false) := show vid s = false by
                  rw [Hv.out, ← hinv.out, Hdrop.out, okFrom, Hok.out, show hexI c = false by rw [Bool.eq_false_iff, ne_eq, hexI_iff]; omega]; rfl
                have hl' : decide (bits .or .u8 c 32 < 97) = false := by simpa using hl
                clear hd' hlow
                go_wp2_with (go_at_call 34; refine (isDigit_any _ _).mono ?_; rintro e w' ⟨rfl, rfl⟩)
                go_ret
                exact ⟨ret_bool Hf.out.symm, below_bytes w 5 s⟩
              · have Hn : Hid (okFrom (k + 1) ((nums s).drop (k + 1)) = okFrom 0 (nums s)) := show okFrom (k + 1) ((nums s).drop (k + 1)) = okFrom 0 (nums s) by
                  rw [← hinv.out, Hdrop.out, okFrom, Hok.out, show hexI c = true by rw [hexI_iff]; omega]; simp
                have hl' : decide (bits .or .u8 c 32 < 97) = false := by simpa using hl
                have hu' : decide (102 < bits .or .u8 c 32) = false := by simpa using hu
                clear hd' hlow
                go_wp2_with (go_at_call 34; refine (isDigit_any _ _).mono ?_; rintro e w' ⟨rfl, rfl⟩)
                go_round
                case rel => exact ⟨k + 1, val_int (by omega), by omega, Hn⟩
                case measure => simp [intOf]; omega
          · have hd' : 48 ≤ c ∧ c ≤ 57 := by simpa [digB] using hd
            have Hn : Hid (okFrom (k + 1) ((nums s).drop (k + 1)) = okFrom 0 (nums s)) := show okFrom (k + 1) ((nums s).drop (k + 1)) = okFrom 0 (nums s) by
              rw [← hinv.out, Hdrop.out, okFrom, Hok.out, show hexI c = true by rw [hexI_iff]; omega]; simp
            clear hd'
            go_wp2_with (go_at_call 34; refine (isDigit_any _ _).mono ?_; rintro e w' ⟨rfl, rfl⟩)
            go_round
            case rel => exact ⟨k + 1, val_int (by omega), by omega, Hn⟩
            case measure => simp [intOf]; omega
      · have Hf : Hid (vid s = true) := show vid s = true by
          rw [Hv.out, ← hinv.out, List.drop_of_length_le (by rw [nums_len]; omega)]; rfl
        go_wp2
        go_ret
        exact ⟨ret_bool Hf.out.symm, below_bytes w 5 s⟩
  · have hn : ((s.size : Int) != 36) = true := by simp; omega
    have Hf : Hid (vid s = false) := show vid s = false by simp [vid, nums_len, h36]
    clear h36
    go_enter Try.func28, Try.ntmps28
    go_wp2
    go_ret
    exact ⟨ret_bool Hf.out.symm, Below.refl _ _⟩

set_option maxHeartbeats 400000 in
theorem zzValidID_any (s : ByteArray) (w : World) (hs : s.size ≤ 1048576) :
    Calls Try.prog 13 #[.string s] w fun e w' => e = .returned (.bool (vid s)) ∧ Below w.heap.size w w' := by
  go_enter Try.func13, Try.ntmps13
  go_wp2_with fail
  refine (validID_any s _ hs).mono ?_
  rintro e w1 ⟨rfl, hb⟩
  go_wp2
  go_ret
  exact ⟨rfl, hb⟩
end Go.Proofs.Qxb6600171a
