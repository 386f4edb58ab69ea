import Derived.Test.Qxb6600171aValidID
import Derived.WalkKit
import Derived.WalkSpells
namespace Go.Proofs.Qxb6600171a
open Go.RowKit
set_option linter.unusedVariables false

/-- zzHexAlphabet. -/
def hexA : ByteArray := ⟨#[48, 49, 50, 51, 52, 53, 54, 55, 56, 57, 97, 98, 99, 100, 101, 102, 65, 66, 67, 68, 69, 70]⟩
theorem hexA_yes : ∀ j : Fin 22, hexI ((hexA.data.toList.getD j.val 0).toNat : Int) = true := by decide +kernel
theorem hexA_at (j : Nat) (h : j < hexA.size) : hexA[j] = hexA.data.toList.getD j 0 := by
  have : hexA.data.toList.getD j 0 = hexA.data[j] := by simp [List.getD, h]
  rw [this]
  rfl
theorem hexA_no (c : Int) (h : ∀ i (h : i < hexA.size), (hexA[i].toNat : Int) ≠ c) : hexI c = false := by
  have hz : hexA.size = 22 := rfl
  have k : ∀ i, i < 22 → ((hexA.data.toList.getD i 0).toNat : Int) ≠ c := fun i hi => by
    have := h i (by rw [hz]; exact hi)
    rw [hexA_at] at this
    exact this
  have e : ∀ n : Nat, n < 256 → (n : Int) = c → hexI (n : Int) = true → False := by
    intro n hn hc hh
    rw [hexI_iff] at hh
    have d0 : (48 : Int) ≠ c := k 0 (by omega)
    have d1 : (49 : Int) ≠ c := k 1 (by omega)
    have d2 : (50 : Int) ≠ c := k 2 (by omega)
    have d3 : (51 : Int) ≠ c := k 3 (by omega)
    have d4 : (52 : Int) ≠ c := k 4 (by omega)
    have d5 : (53 : Int) ≠ c := k 5 (by omega)
    have d6 : (54 : Int) ≠ c := k 6 (by omega)
    have d7 : (55 : Int) ≠ c := k 7 (by omega)
    have d8 : (56 : Int) ≠ c := k 8 (by omega)
    have d9 : (57 : Int) ≠ c := k 9 (by omega)
    have da : (97 : Int) ≠ c := k 10 (by omega)
    have db : (98 : Int) ≠ c := k 11 (by omega)
    have dc : (99 : Int) ≠ c := k 12 (by omega)
    have dd : (100 : Int) ≠ c := k 13 (by omega)
    have de : (101 : Int) ≠ c := k 14 (by omega)
    have df : (102 : Int) ≠ c := k 15 (by omega)
    have dA : (65 : Int) ≠ c := k 16 (by omega)
    have dB : (66 : Int) ≠ c := k 17 (by omega)
    have dC : (67 : Int) ≠ c := k 18 (by omega)
    have dD : (68 : Int) ≠ c := k 19 (by omega)
    have dE : (69 : Int) ≠ c := k 20 (by omega)
    have dF : (70 : Int) ≠ c := k 21 (by omega)
    omega
  rw [Bool.eq_false_iff]
  intro hh
  have hh' := (hexI_iff c).1 hh
  exact e c.toNat (by omega) (by omega) (by rw [show ((c.toNat : Nat) : Int) = c from by omega]; exact hh)

theorem hexIndex_yes (c : Int) (w : World) (h : hexI c = true) :
    Calls Try.prog 30 #[.string ⟨#[48, 49, 50, 51, 52, 53, 54, 55, 56, 57, 97, 98, 99, 100, 101, 102, 65, 66, 67, 68, 69, 70]⟩, .int .u8 c] w fun e w' => (∃ j : Nat, e = .returned (.int .i64 j)) ∧ w' = w := by
  refine (index_any hexA c w (by decide)).mono ?_
  rintro e w' ⟨⟨j, he, _⟩ | ⟨_, hn⟩, hw⟩
  · exact ⟨⟨j, he⟩, hw⟩
  · rw [hexA_no c hn] at h; cases h

theorem hexIndex_no (c : Int) (w : World) (h : hexI c = false) :
    Calls Try.prog 30 #[.string ⟨#[48, 49, 50, 51, 52, 53, 54, 55, 56, 57, 97, 98, 99, 100, 101, 102, 65, 66, 67, 68, 69, 70]⟩, .int .u8 c] w fun e w' => e = .returned (.int .i64 (-1)) ∧ w' = w := by
  refine (index_any hexA c w (by decide)).mono ?_
  rintro e w' ⟨⟨j, _, hj, hc⟩ | ⟨he, _⟩, hw⟩
  · have := hexA_yes ⟨j, hj⟩
    rw [hexA_at] at hc
    rw [hc, h] at this
    cases this
  · exact ⟨he, hw⟩

theorem glen_le (g : Nat) : glen g ≤ 12 := by unfold glen; split <;> (try split) <;> omega

set_option maxHeartbeats 800000 in
theorem model_any (s : ByteArray) (w : World) (hs : s.size ≤ 1048576) :
    Calls Try.prog 14 #[.string s] w fun e w' => e = .returned (.bool (mrun (nums s) 0 0)) ∧ w' = w := by
  go_enter Try.func14, Try.ntmps14
  go_wp2
  go_loop [3, 4, 5, 6] (fun tg tr ti _ => ∃ g r k : Nat, tg = .int .i64 g ∧ tr = .int .i64 r ∧ ti = .int .i64 k ∧ k ≤ s.size ∧ g ≤ 4 ∧ r ≤ 12 ∧ Hid (r ≤ glen g) ∧ Hid (mrun ((nums s).drop k) g r = mrun (nums s) 0 0)) (fun _ _ ti _ => s.size - (intOf ti).toNat)
  case atStart => exact ⟨0, 0, 0, rfl, rfl, rfl, Nat.zero_le _, by omega, by omega, Nat.zero_le _, by simp [Hid]⟩
  case round =>
    obtain ⟨g, r, k, rfl, rfl, rfl, hk, hg, hr, hrg, hinv⟩ := hrel
    by_cases hlt : k < s.size
    · have hdrop := nums_drop s k hlt
      obtain ⟨c, hc⟩ : ∃ c : Int, (s[k].toNat : Int) = c := ⟨_, rfl⟩
      rw [hc] at hdrop
      have Hdrop : Hid ((nums s).drop k = c :: (nums s).drop (k + 1)) := hdrop
      clear hdrop
      have hgl := glen_le g
      by_cases h45 : c = 45
      · have e45 : (c == 45) = true := by simp [h45]
        by_cases hg4 : 4 ≤ g
        · have Hf : Hid (mrun (nums s) 0 0 = false) := show mrun (nums s) 0 0 = false by rw [← hinv.out, Hdrop.out, mrun, if_pos h45, if_pos (Or.inl hg4)]
          clear h45
          have hg4' : (4 : Int) ≤ (g : Int) := by omega
          go_wp2
          go_ret
          exact ⟨ret_bool Hf.out.symm, rfl⟩
        · have hg4' : decide ((4 : Int) ≤ (g : Int)) = false := by simpa using (show ¬ (4 : Int) ≤ (g : Int) by omega)
          by_cases hrl : r = glen g
          · have erl : ((r : Int) != (glen g : Int)) = false := by simp [hrl]
            have Hn : Hid (mrun ((nums s).drop (k + 1)) (g + 1) 0 = mrun (nums s) 0 0) := show mrun ((nums s).drop (k + 1)) (g + 1) 0 = mrun (nums s) 0 0 by rw [← hinv.out, Hdrop.out, mrun, if_pos h45, if_neg (by omega)]
            clear h45 hrl
            go_wp2_with (go_at_call 29; refine (groupLen_any g _ hg).mono ?_; rintro e w' ⟨rfl, rfl⟩)
            go_round
            case rel => exact ⟨g + 1, 0, k + 1, val_int (by omega), rfl, val_int (by omega), by omega, by omega, by omega, Nat.zero_le _, Hn⟩
            case measure => simp [intOf]; omega
          · have erl : ((r : Int) != (glen g : Int)) = true := by simp; omega
            have Hf : Hid (mrun (nums s) 0 0 = false) := show mrun (nums s) 0 0 = false by rw [← hinv.out, Hdrop.out, mrun, if_pos h45, if_pos (Or.inr hrl)]
            clear h45 hrl
            go_wp2_with (go_at_call 29; refine (groupLen_any g _ hg).mono ?_; rintro e w' ⟨rfl, rfl⟩)
            go_ret
            exact ⟨ret_bool Hf.out.symm, rfl⟩
      · have e45 : (c == 45) = false := by simp [h45]
        cases hh : hexI c
        · have Hf : Hid (mrun (nums s) 0 0 = false) := show mrun (nums s) 0 0 = false by rw [← hinv.out, Hdrop.out, mrun, if_neg h45, if_pos hh]
          clear h45
          go_wp2_with (go_at_call 30; refine (hexIndex_no c _ hh).mono ?_; rintro e w' ⟨rfl, rfl⟩)
          go_ret
          exact ⟨ret_bool Hf.out.symm, rfl⟩
        · by_cases hrl : glen g < r + 1
          · have hrl' : (glen g : Int) < (r : Int) + 1 := by omega
            have Hf : Hid (mrun (nums s) 0 0 = false) := show mrun (nums s) 0 0 = false by rw [← hinv.out, Hdrop.out, mrun, if_neg h45, if_neg (by rw [hh]; simp), if_pos hrl]
            clear h45 hrl
            go_wp2_with (first | (go_at_call 30; refine (hexIndex_yes c _ hh).mono ?_; rintro e w' ⟨⟨j, rfl⟩, rfl⟩) | (go_at_call 29; refine (groupLen_any g _ hg).mono ?_; rintro e w' ⟨rfl, rfl⟩))
            go_ret
            exact ⟨ret_bool Hf.out.symm, rfl⟩
          · have hrl' : ¬ (glen g : Int) < (r : Int) + 1 := by omega
            have Hn : Hid (mrun ((nums s).drop (k + 1)) g (r + 1) = mrun (nums s) 0 0) := show mrun ((nums s).drop (k + 1)) g (r + 1) = mrun (nums s) 0 0 by rw [← hinv.out, Hdrop.out, mrun, if_neg h45, if_neg (by rw [hh]; simp), if_neg hrl]
            have Hr : Hid (r + 1 ≤ glen g) := show r + 1 ≤ glen g by omega
            have hr1 : r + 1 ≤ 12 := by omega
            clear h45 hrl
            go_wp2_with (first | (go_at_call 30; refine (hexIndex_yes c _ hh).mono ?_; rintro e w' ⟨⟨j, rfl⟩, rfl⟩) | (go_at_call 29; refine (groupLen_any g _ hg).mono ?_; rintro e w' ⟨rfl, rfl⟩))
            go_round
            case rel => exact ⟨g, r + 1, k + 1, rfl, val_int (by omega), val_int (by omega), by omega, hg, hr1, Hr, Hn⟩
            case measure => simp [intOf]; omega
    · have Hd : Hid ((nums s).drop k = []) := show (nums s).drop k = [] from List.drop_of_length_le (by rw [nums_len]; omega)
      by_cases hg4 : g = 4
      · have eg : ((g : Int) == 4) = true := by simp; omega
        have Hf : Hid (mrun (nums s) 0 0 = ((r : Int) == 12)) := show mrun (nums s) 0 0 = ((r : Int) == 12) by
          rw [← hinv.out, Hd.out, mrun, Bool.eq_iff_iff]; simp [hg4]; omega
        clear hg4
        go_wp2
        go_ret
        exact ⟨ret_bool Hf.out.symm, rfl⟩
      · have eg : ((g : Int) == 4) = false := by simp; omega
        have Hf : Hid (mrun (nums s) 0 0 = false) := show mrun (nums s) 0 0 = false by
          rw [← hinv.out, Hd.out, mrun]; simp [hg4]
        clear hg4
        go_wp2
        go_ret
        exact ⟨ret_bool Hf.out.symm, rfl⟩

theorem vid_model (s : ByteArray) : mrun (nums s) 0 0 = vid s := model_is (nums s)

set_option maxHeartbeats 400000 in
theorem zzBytes_any (s : ByteArray) (w : World) (hs : s.size ≤ maxLen) :
    Calls Try.prog 12 #[.string s] w fun e w' => e = .returned (.bool (decide (s.size ≤ 1048576))) ∧ w' = w := by
  unfold maxLen at hs
  by_cases h : 1048576 < s.size
  · have Hf : Hid (decide (s.size ≤ 1048576) = false) := show decide (s.size ≤ 1048576) = false by simp; omega
    have hi : (1048576 : Int) < (s.size : Int) := by omega
    go_enter Try.func12, Try.ntmps12
    go_wp2
    go_ret
    exact ⟨ret_bool Hf.out.symm, rfl⟩
  · have Hf : Hid (decide (s.size ≤ 1048576) = true) := show decide (s.size ≤ 1048576) = true by simp; omega
    have hi : ¬ (1048576 : Int) < (s.size : Int) := by omega
    go_enter Try.func12, Try.ntmps12
    go_wp2
    go_ret
    exact ⟨ret_bool Hf.out.symm, rfl⟩

set_option maxHeartbeats 400000 in
theorem parser_law (s : ByteArray) (w : World) (hs : s.size ≤ maxLen) :
    Calls Try.prog 3 #[.string s] w fun e w' => e = .returned (.bool true) ∧ Below w.heap.size w w' := by
  have hm := hs
  unfold maxLen at hs
  by_cases h : 1048576 < s.size
  · have hd : decide (s.size ≤ 1048576) = false := by simp; omega
    go_enter Try.func3, Try.ntmps3
    go_wp2_with (go_at_call 12; refine (zzBytes_any s _ hm).mono ?_; rintro e w' ⟨rfl, rfl⟩)
    go_ret
    exact ⟨rfl, Below.refl _ _⟩
  · have hd : decide (s.size ≤ 1048576) = true := by simp; omega
    have hi : ¬ (1048576 : Int) < (s.size : Int) := by omega
    have hv := vid_model s
    have Hv : Hid (mrun (nums s) 0 0 = vid s) := hv
    clear hv
    go_enter Try.func3, Try.ntmps3
    go_wp2_with fail
    refine (zzBytes_any s _ hm).mono ?_
    rintro e w1 ⟨rfl, rfl⟩
    go_wp2_with fail
    refine (zzValidID_any s _ (by omega)).mono ?_
    rintro e w2 ⟨rfl, hb⟩
    go_wp2_with fail
    refine (model_any s _ (by omega)).mono ?_
    rintro e w3 ⟨rfl, rfl⟩
    rw [Hv.out]
    go_wp2
    go_ret
    exact ⟨ret_bool (by simp), hb⟩
end Go.Proofs.Qxb6600171a
