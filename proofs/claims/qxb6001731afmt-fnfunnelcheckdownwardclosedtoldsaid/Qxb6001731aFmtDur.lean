import Derived.Test.Qxb6001731aFmtRows
import Derived.WalkKit
import Derived.ProofKit
import Derived.OpenShut
import Derived.WalkSpells
namespace Go.Proofs.Qxb6001731aFmt
open Go.RowKit
set_option linter.unusedVariables false

/-- The call's own array of 32 bytes lies in block b; below b all is as it was in w0. -/
structure Arr (b : Nat) (w0 w : World) : Prop where
  below : Below b w0 w
  size : b < w.heap.size
  cell : ∀ j, j < 32 → ∃ x : Int, w.cell? ⟨b, j, none⟩ = some (.int .u8 x) ∧ 0 ≤ x ∧ x ≤ 255
  frozen : ∀ j, j < 32 → w.frozen? ⟨b, j, none⟩ = false

theorem Arr.set {b : Nat} {w0 w : World} (h : Arr b w0 w) (j : Nat) (x : Int) (hj : j < 32) (h0 : 0 ≤ x) (h1 : x ≤ 255) : Arr b w0 (w.setCell ⟨b, j, none⟩ (.int .u8 x)) := by
  obtain ⟨y, hy, _, _⟩ := h.cell j hj
  refine ⟨h.below.setCell (Nat.le_refl _) _, ?_, ?_, ?_⟩
  · simpa using h.size
  · intro k hk
    obtain ⟨z, hz, z0, z1⟩ := h.cell k hk
    by_cases e : k = j
    · subst e
      exact ⟨x, by simp [go_sem, hy], h0, h1⟩
    · exact ⟨z, by simp [go_sem, hz], z0, z1⟩
  · intro k hk
    have := h.frozen k hk
    simpa [go_sem] using this

theorem ret_int {k : IntKind} {a b : Int} (h : a = b) : Ending.returned (.int k a) = .returned (.int k b) := by rw [h]

theorem val_int {k : IntKind} {a b : Int} (h : a = b) : Value.int k a = .int k b := by rw [h]

theorem ret_two {k l : IntKind} {a b c : Int} (h : a = b) : Ending.returned (.tuple #[.int k a, .int l c]) = .returned (.tuple #[.int k b, .int l c]) := by rw [h]

def p10 : Nat → Int
  | 0 => 1
  | n + 1 => 10 * p10 n
theorem p10_succ (n : Nat) : p10 (n + 1) = 10 * p10 n := rfl
theorem p10_pos (n : Nat) : 1 ≤ p10 n := by
  induction n with
  | zero => decide
  | succ n ih => rw [p10_succ]; omega

set_option maxHeartbeats 400000 in
theorem fmtInt_any (b L cap k : Nat) (v : Int) (w0 w : World) (hA : Arr b w0 w) (hL : L ≤ 32) (hk1 : 1 ≤ k) (hkL : k ≤ L) (hv : 0 ≤ v) (hvm : v ≤ 18446744073709551615) (hvk : v < p10 k) :
    Calls Tryf.prog 37 #[.slice (some ⟨b, 0, none⟩) L cap, .int .u64 v] w fun e w' => (∃ L' : Nat, e = .returned (.int .i64 L') ∧ L ≤ L' + k ∧ L' ≤ L) ∧ Arr b w0 w' := by
  by_cases hz : v = 0
  · subst hz
    obtain ⟨x, hx, _, _⟩ := hA.cell (L - 1) (by omega)
    have hf := hA.frozen (L - 1) (by omega)
    go_enter Tryf.func37, Tryf.ntmps37
    go_wp2
    go_ret
    exact ⟨⟨L - 1, ret_int (by omega), by omega, by omega⟩, hA.set _ _ (by omega) (by omega) (by omega)⟩
  · have hz' : (v == 0) = false := by simpa using hz
    go_enter Tryf.func37, Tryf.ntmps37
    go_wp2
    go_loopw [1, 5] (fun tv tw wr => ∃ (u : Int) (M j : Nat), tv = .int .u64 u ∧ tw = .int .i64 M ∧ 0 ≤ u ∧ u ≤ 18446744073709551615 ∧ u < p10 j ∧ j ≤ M ∧ M ≤ L ∧ L + j ≤ M + k ∧ Arr b w0 wr) (fun tv _ _ => (intOf tv).toNat)
    case atStart => exact ⟨v, L, k, rfl, rfl, hv, hvm, hvk, hkL, Nat.le_refl _, Nat.le_refl _, hA⟩
    case round =>
      obtain ⟨u, M, j, rfl, rfl, hu0, hu1, huj, hjM, hML, hLj, hAr⟩ := hrel
      by_cases hpos : 0 < u
      · have hj1 : 1 ≤ j := by
          rcases Nat.eq_zero_or_pos j with h | h
          · subst h; have : p10 0 = 1 := rfl; omega
          · exact h
        have hd : u / 10 < p10 (j - 1) := by
          have := p10_succ (j - 1)
          rw [show j - 1 + 1 = j from by omega] at this
          omega
        obtain ⟨x, hx, _, _⟩ := hAr.cell (M - 1) (by omega)
        have hf := hAr.frozen (M - 1) (by omega)
        go_wp2
        go_roundw
        case rel => exact ⟨u / 10, M - 1, j - 1, rfl, val_int (by omega), by omega, by omega, hd, by omega, by omega, by omega, hAr.set _ _ (by omega) (by omega) (by omega)⟩
        case measure => simp [intOf]; omega
      · go_wp2
        go_ret
        exact ⟨⟨M, rfl, by omega, by omega⟩, hAr⟩

set_option maxHeartbeats 400000 in
theorem fmtFrac_any (b L cap p : Nat) (v : Int) (w0 w : World) (hA : Arr b w0 w) (hL : L ≤ 32) (hp : p ≤ 9) (hpL : p + 1 ≤ L) (hv : 0 ≤ v) (hvm : v ≤ 18446744073709551615) :
    Calls Tryf.prog 36 #[.slice (some ⟨b, 0, none⟩) L cap, .int .u64 v, .int .i64 p] w fun e w' => (∃ (L' : Nat) (u : Int), e = .returned (.tuple #[.int .i64 L', .int .u64 u]) ∧ L ≤ L' + (p + 1) ∧ L' ≤ L ∧ 0 ≤ u ∧ u * p10 p ≤ v) ∧ Arr b w0 w' := by
  go_enter Tryf.func36, Tryf.ntmps36
  go_wp2
  go_loopw [1, 8, 9, 10, 11] (fun tv tw tb ti _ wr => ∃ (u : Int) (M i : Nat) (q : Bool), tv = .int .u64 u ∧ tw = .int .i64 M ∧ tb = .bool q ∧ ti = .int .i64 i ∧ 0 ≤ u ∧ u ≤ 18446744073709551615 ∧ u * p10 i ≤ v ∧ i ≤ p ∧ M ≤ L ∧ L ≤ M + i ∧ Arr b w0 wr) (fun _ _ _ ti _ _ => p - (intOf ti).toNat)
  case atStart => exact ⟨v, L, 0, false, rfl, rfl, rfl, rfl, hv, hvm, by simp [p10], by omega, by omega, by omega, hA⟩
  case round =>
    obtain ⟨u, M, i, q, rfl, rfl, rfl, rfl, hu0, hu1, hui, hip, hML, hLM, hAr⟩ := hrel
    obtain ⟨x, hx, _, _⟩ := hAr.cell (M - 1) (by omega)
    have hf := hAr.frozen (M - 1) (by omega)
    by_cases hlt : i < p
    · have hd : u / 10 * p10 (i + 1) ≤ v := by
        have h1 := p10_pos i
        have h2 : u / 10 * 10 ≤ u := by omega
        have h3 : u / 10 * 10 * p10 i ≤ u * p10 i := Int.mul_le_mul_of_nonneg_right h2 (by omega)
        rw [p10_succ, ← Int.mul_assoc]
        omega
      have Hd : Hid (u / 10 * p10 (i + 1) ≤ v) := hd
      clear hd
      cases q
      · by_cases hz : u % 10 = 0
        · have hz' : (u % 10 != 0) = false := by simp [hz]
          clear hz
          go_wp2
          go_roundw
          case rel => exact ⟨u / 10, M, i + 1, false, rfl, rfl, rfl, val_int (by omega), by omega, by omega, Hd.out, by omega, by omega, by omega, hAr⟩
          case measure => simp [intOf]; omega
        · have hz' : (u % 10 != 0) = true := by simp [hz]
          clear hz
          go_wp2
          go_roundw
          case rel => exact ⟨u / 10, M - 1, i + 1, true, rfl, val_int (by omega), rfl, val_int (by omega), by omega, by omega, Hd.out, by omega, by omega, by omega, hAr.set _ _ (by omega) (by omega) (by omega)⟩
          case measure => simp [intOf]; omega
      · go_wp2
        go_roundw
        case rel => exact ⟨u / 10, M - 1, i + 1, true, rfl, val_int (by omega), rfl, val_int (by omega), by omega, by omega, Hd.out, by omega, by omega, by omega, hAr.set _ _ (by omega) (by omega) (by omega)⟩
        case measure => simp [intOf]; omega
    · obtain rfl : i = p := by omega
      cases q
      · go_wp2
        go_ret2
        exact ⟨⟨M, u, rfl, by omega, by omega, hu0, hui⟩, hAr⟩
      · go_wp2
        go_ret2
        exact ⟨⟨M - 1, u, ret_two (by omega), by omega, by omega, hu0, hui⟩, hAr.set _ _ (by omega) (by omega) (by omega)⟩

end Go.Proofs.Qxb6001731aFmt
