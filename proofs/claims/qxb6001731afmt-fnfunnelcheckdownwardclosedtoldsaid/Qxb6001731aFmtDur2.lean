import Derived.Test.Qxb6001731aFmtDur
import Derived.WalkKit
import Derived.ProofKit
import Derived.OpenShut
import Derived.WalkSpells
namespace Go.Proofs.Qxb6001731aFmt
open Go.RowKit
set_option linter.unusedVariables false

/-- How the walk writes the magnitude u of a Duration d. -/
def Mag (d u : Int) : Prop := (d < 0 ∧ IntKind.u64.wrap (-IntKind.u64.wrap d) = u) ∨ (¬ d < 0 ∧ IntKind.u64.wrap d = u)
theorem mag_of (d : Int) (h0 : -9223372036854775808 ≤ d) (h1 : d ≤ 9223372036854775807) : ∃ u, Mag d u ∧ 0 ≤ u ∧ u ≤ 9223372036854775808 ∧ (u = 0 → d = 0) := by
  by_cases h : d < 0
  · refine ⟨-d, Or.inl ⟨h, ?_⟩, by omega, by omega, by omega⟩
    simp [IntKind.wrap, IntKind.bits, IntKind.signed]
    omega
  · refine ⟨d, Or.inr ⟨h, ?_⟩, by omega, by omega, by omega⟩
    simp [IntKind.wrap, IntKind.bits, IntKind.signed]
    omega

theorem frac_at (b L cap p : Nat) (z v : Int) (w0 w : World) (hz : z = p) (hA : Arr b w0 w) (hL : L ≤ 32) (hp : p ≤ 9) (hpL : p + 1 ≤ L) (hv : 0 ≤ v) (hvm : v ≤ 18446744073709551615) :
    Calls Tryf.prog 36 #[.slice (some ⟨b, 0, none⟩) L cap, .int .u64 v, .int .i64 z] w fun e w' => (∃ (L' : Nat) (u : Int), e = .returned (.tuple #[.int .i64 L', .int .u64 u]) ∧ L ≤ L' + (p + 1) ∧ L' ≤ L ∧ 0 ≤ u ∧ u * p10 p ≤ v) ∧ Arr b w0 w' := by
  subst hz
  exact fmtFrac_any b L cap p v w0 w hA hL hp hpL hv hvm

theorem cut_hi (b L : Nat) (h : L ≤ 32) : ∀ w : World, (Instr.sliceAt 67 (.pointer (some ⟨b, 0, none⟩)) none (some (.int .i64 (L : Int))) none).run Tryf.prog w = .ok (.slice (some ⟨b, 0, none⟩) L 32) w := by
  intro w
  have ha : Tryf.prog.arrayLen 67 = 32 := by kernel_rfl
  have hz : (sizeOf (Tryf.prog.elem 67)).run Tryf.prog w = .ok 1 w := by kernel_rfl
  rw [run_sliceAt_array_h w 67 ⟨b, 0, none⟩ (by kernel_rfl) .i64 (L : Int) (by omega) (by rw [ha]; omega), ha, hz]
  simp [slicedAt, Addr.add]

theorem cut_hi1 (b L : Nat) (h1 : 1 ≤ L) (h : L ≤ 32) : ∀ w : World, (Instr.sliceAt 67 (.pointer (some ⟨b, 0, none⟩)) none (some (.int .i64 ((L : Int) - 1))) none).run Tryf.prog w = .ok (.slice (some ⟨b, 0, none⟩) (L - 1) 32) w := by
  intro w
  rw [show (L : Int) - 1 = ((L - 1 : Nat) : Int) from by omega]
  exact cut_hi b (L - 1) (by omega) w

theorem copy_mu (b : Nat) (w : World) (x y : Value) (c29 : w.cell? ⟨b, 29, none⟩ = some x) (c30 : w.cell? ⟨b, 30, none⟩ = some y) (f29 : w.frozen? ⟨b, 29, none⟩ = false) (f30 : w.frozen? ⟨b, 30, none⟩ = false) :
    (Builtin.copy_ #[22, 9] 3 #[.slice (some ⟨b, 29, none⟩) 3 3, .string ⟨#[194, 181]⟩]).run Tryf.prog w = .ok (.int .i64 2) ((w.setCell ⟨b, 29, none⟩ (.int .u8 194)).setCell ⟨b, 30, none⟩ (.int .u8 181)) := by
  have h1 : (Go.underlying 22).run Tryf.prog w = .ok (.slice 5) w := by kernel_rfl
  have h2 : (sizeOf 5).run Tryf.prog w = .ok 1 w := by kernel_rfl
  simp [Builtin.copy_, h1, h2, go_sem, c29, c30, f29, f30]

theorem low_of (u v : Int) (p : Nat) (h : 0 ≤ u) (hm : u * p10 p ≤ v) : u ≤ v := by
  have h1 := p10_pos p
  have h2 : u * 1 ≤ u * p10 p := Int.mul_le_mul_of_nonneg_left h1 h
  omega

set_option maxHeartbeats 400000 in
theorem format_ns (b : Nat) (d u : Int) (w0 w : World) (hA : Arr b w0 w) (hm : Mag d u) (hu0 : 1 ≤ u) (hu1 : u < 1000) :
    Calls Tryf.prog 34 #[.int .i64 d, .pointer (some ⟨b, 0, none⟩)] w fun e w' => (∃ L' : Nat, e = .returned (.int .i64 L') ∧ L' ≤ 32) ∧ Arr b w0 w' := by
  obtain ⟨x31, c31, _, _⟩ := hA.cell 31 (by omega)
  obtain ⟨x30, c30, _, _⟩ := hA.cell 30 (by omega)
  have f31 := hA.frozen 31 (by omega)
  have f30 := hA.frozen 30 (by omega)
  have hz : (u == 0) = false := by simp; omega
  have hA2 : Arr b w0 ((w.setCell ⟨b, 31, none⟩ (.int .u8 115)).setCell ⟨b, 30, none⟩ (.int .u8 110)) := (hA.set 31 115 (by omega) (by omega) (by omega)).set 30 110 (by omega) (by omega) (by omega)
  rcases hm with ⟨hn, he⟩ | ⟨hn, he⟩
  all_goals
    go_enter Tryf.func34, Tryf.ntmps34
    go_wp2_with fail
    refine (frac_at b 30 32 0 _ u w0 _ rfl hA2 (by omega) (by omega) (by omega) (by omega) (by omega)).mono ?_
    rintro e w1 ⟨⟨L1, u1, rfl, l1, l2, v0, v1⟩, hA1⟩
    have hv := low_of _ _ _ v0 v1
    clear v1
    have hs := cut_hi b L1 (by omega)
    go_wp2_with fail
    refine (fmtInt_any b L1 32 9 u1 w0 _ hA1 (by omega) (by omega) (by omega) v0 (by omega) (by show _ < (1000000000 : Int); omega)).mono ?_
    rintro e w2 ⟨⟨L2, rfl, l3, l4⟩, hA3⟩
    obtain ⟨x, c, _, _⟩ := hA3.cell (L2 - 1) (by omega)
    have f := hA3.frozen (L2 - 1) (by omega)
    go_wp2
    go_ret
    first | exact ⟨⟨L2, rfl, by omega⟩, hA3⟩ | exact ⟨⟨L2 - 1, ret_int (by omega), by omega⟩, hA3.set _ _ (by omega) (by omega) (by omega)⟩

set_option maxHeartbeats 400000 in
theorem format_ms (b : Nat) (d u : Int) (w0 w : World) (hA : Arr b w0 w) (hm : Mag d u) (hu0 : 1000000 ≤ u) (hu1 : u < 1000000000) :
    Calls Tryf.prog 34 #[.int .i64 d, .pointer (some ⟨b, 0, none⟩)] w fun e w' => (∃ L' : Nat, e = .returned (.int .i64 L') ∧ L' ≤ 32) ∧ Arr b w0 w' := by
  obtain ⟨x31, c31, _, _⟩ := hA.cell 31 (by omega)
  obtain ⟨x30, c30, _, _⟩ := hA.cell 30 (by omega)
  have f31 := hA.frozen 31 (by omega)
  have f30 := hA.frozen 30 (by omega)
  have hz : (u == 0) = false := by simp; omega
  have hA2 : Arr b w0 ((w.setCell ⟨b, 31, none⟩ (.int .u8 115)).setCell ⟨b, 30, none⟩ (.int .u8 109)) := (hA.set 31 115 (by omega) (by omega) (by omega)).set 30 109 (by omega) (by omega) (by omega)
  rcases hm with ⟨hn, he⟩ | ⟨hn, he⟩
  all_goals
    go_enter Tryf.func34, Tryf.ntmps34
    go_wp2_with fail
    refine (frac_at b 30 32 6 _ u w0 _ rfl hA2 (by omega) (by omega) (by omega) (by omega) (by omega)).mono ?_
    rintro e w1 ⟨⟨L1, u1, rfl, l1, l2, v0, v1⟩, hA1⟩
    have hv := low_of _ _ _ v0 v1
    clear v1
    have hs := cut_hi b L1 (by omega)
    go_wp2_with fail
    refine (fmtInt_any b L1 32 9 u1 w0 _ hA1 (by omega) (by omega) (by omega) v0 (by omega) (by show _ < (1000000000 : Int); omega)).mono ?_
    rintro e w2 ⟨⟨L2, rfl, l3, l4⟩, hA3⟩
    obtain ⟨x, c, _, _⟩ := hA3.cell (L2 - 1) (by omega)
    have f := hA3.frozen (L2 - 1) (by omega)
    go_wp2
    go_ret
    first | exact ⟨⟨L2, rfl, by omega⟩, hA3⟩ | exact ⟨⟨L2 - 1, ret_int (by omega), by omega⟩, hA3.set _ _ (by omega) (by omega) (by omega)⟩

set_option maxHeartbeats 400000 in
theorem format_zero (b : Nat) (w0 w : World) (hA : Arr b w0 w) :
    Calls Tryf.prog 34 #[.int .i64 0, .pointer (some ⟨b, 0, none⟩)] w fun e w' => (∃ L' : Nat, e = .returned (.int .i64 L') ∧ L' ≤ 32) ∧ Arr b w0 w' := by
  obtain ⟨x31, c31, _, _⟩ := hA.cell 31 (by omega)
  obtain ⟨x30, c30, _, _⟩ := hA.cell 30 (by omega)
  have f31 := hA.frozen 31 (by omega)
  have f30 := hA.frozen 30 (by omega)
  go_enter Tryf.func34, Tryf.ntmps34
  go_wp2
  go_ret
  exact ⟨⟨30, rfl, by omega⟩, (hA.set 31 115 (by omega) (by omega) (by omega)).set 30 48 (by omega) (by omega) (by omega)⟩

set_option maxHeartbeats 400000 in
theorem format_us (b : Nat) (d u : Int) (w0 w : World) (hA : Arr b w0 w) (hm : Mag d u) (hu0 : 1000 ≤ u) (hu1 : u < 1000000) :
    Calls Tryf.prog 34 #[.int .i64 d, .pointer (some ⟨b, 0, none⟩)] w fun e w' => (∃ L' : Nat, e = .returned (.int .i64 L') ∧ L' ≤ 32) ∧ Arr b w0 w' := by
  obtain ⟨x31, c31, _, _⟩ := hA.cell 31 (by omega)
  obtain ⟨x30, c30, _, _⟩ := hA.cell 30 (by omega)
  obtain ⟨x29, c29, _, _⟩ := hA.cell 29 (by omega)
  have f31 := hA.frozen 31 (by omega)
  have f30 := hA.frozen 30 (by omega)
  have f29 := hA.frozen 29 (by omega)
  have hz : (u == 0) = false := by simp; omega
  have hA2 : Arr b w0 (((w.setCell ⟨b, 31, none⟩ (.int .u8 115)).setCell ⟨b, 29, none⟩ (.int .u8 194)).setCell ⟨b, 30, none⟩ (.int .u8 181)) := ((hA.set 31 115 (by omega) (by omega) (by omega)).set 29 194 (by omega) (by omega) (by omega)).set 30 181 (by omega) (by omega) (by omega)
  have hcp := copy_mu b (w.setCell ⟨b, 31, none⟩ (.int .u8 115)) (.int .u8 x29) (.int .u8 x30) (by simp [go_sem, c29]) (by simp [go_sem, c30]) (by simp [go_sem, f29]) (by simp [go_sem, f30])
  rcases hm with ⟨hn, he⟩ | ⟨hn, he⟩
  all_goals
    go_enter Tryf.func34, Tryf.ntmps34
    go_wp2_with fail
    refine (frac_at b 29 32 3 _ u w0 _ rfl hA2 (by omega) (by omega) (by omega) (by omega) (by omega)).mono ?_
    rintro e w1 ⟨⟨L1, u1, rfl, l1, l2, v0, v1⟩, hA1⟩
    have hv := low_of _ _ _ v0 v1
    clear v1
    have hs := cut_hi b L1 (by omega)
    go_wp2_with fail
    refine (fmtInt_any b L1 32 9 u1 w0 _ hA1 (by omega) (by omega) (by omega) v0 (by omega) (by show _ < (1000000000 : Int); omega)).mono ?_
    rintro e w2 ⟨⟨L2, rfl, l3, l4⟩, hA3⟩
    obtain ⟨x, c, _, _⟩ := hA3.cell (L2 - 1) (by omega)
    have f := hA3.frozen (L2 - 1) (by omega)
    go_wp2
    go_ret
    first | exact ⟨⟨L2, rfl, by omega⟩, hA3⟩ | exact ⟨⟨L2 - 1, ret_int (by omega), by omega⟩, hA3.set _ _ (by omega) (by omega) (by omega)⟩

/-- From a second on: how many whole seconds there are. -/
theorem sec_bd (u u1 : Int) (h0 : 0 ≤ u1) (h : u1 * p10 9 ≤ u) (hu : u ≤ 9223372036854775808) : u1 ≤ 9223372036 := by
  have : p10 9 = 1000000000 := by decide
  rw [this] at h
  omega

set_option maxHeartbeats 800000 in
theorem format_s (b : Nat) (d u : Int) (w0 w : World) (hA : Arr b w0 w) (hm : Mag d u) (hu0 : 1000000000 ≤ u) (hu1 : u ≤ 9223372036854775808) :
    Calls Tryf.prog 34 #[.int .i64 d, .pointer (some ⟨b, 0, none⟩)] w fun e w' => (∃ L' : Nat, e = .returned (.int .i64 L') ∧ L' ≤ 32) ∧ Arr b w0 w' := by
  obtain ⟨x31, c31, _, _⟩ := hA.cell 31 (by omega)
  have f31 := hA.frozen 31 (by omega)
  have hA2 : Arr b w0 (w.setCell ⟨b, 31, none⟩ (.int .u8 115)) := hA.set 31 115 (by omega) (by omega) (by omega)
  rcases hm with ⟨hn, he⟩ | ⟨hn, he⟩
  all_goals
    go_enter Tryf.func34, Tryf.ntmps34
    go_wp2_with fail
    refine (frac_at b 31 32 9 _ u w0 _ rfl hA2 (by omega) (by omega) (by omega) (by omega) (by omega)).mono ?_
    rintro e w1 ⟨⟨L1, u1, rfl, l1, l2, v0, v1⟩, hA1⟩
    have hv := sec_bd _ _ v0 v1 hu1
    clear v1
    have hs := cut_hi b L1 (by omega)
    go_wp2_with fail
    refine (fmtInt_any b L1 32 2 (u1 % 60) w0 _ hA1 (by omega) (by omega) (by omega) (by omega) (by omega) (by show _ < (100 : Int); omega)).mono ?_
    rintro e w2 ⟨⟨L2, rfl, l3, l4⟩, hA3⟩
    obtain ⟨x, c, _, _⟩ := hA3.cell (L2 - 1) (by omega)
    have f := hA3.frozen (L2 - 1) (by omega)
    by_cases hmn : 0 < u1 / 60
    · have hs2 := cut_hi1 b L2 (by omega) (by omega)
      go_wp2_with fail
      refine (fmtInt_any b (L2 - 1) 32 2 (u1 / 60 % 60) w0 _ (hA3.set (L2 - 1) 109 (by omega) (by omega) (by omega)) (by omega) (by omega) (by omega) (by omega) (by omega) (by show _ < (100 : Int); omega)).mono ?_
      rintro e w4 ⟨⟨L4, rfl, l5, l6⟩, hA5⟩
      obtain ⟨x4, c4, _, _⟩ := hA5.cell (L4 - 1) (by omega)
      have f4 := hA5.frozen (L4 - 1) (by omega)
      by_cases hh : 0 < u1 / 60 / 60
      · have hs4 := cut_hi1 b L4 (by omega) (by omega)
        go_wp2_with fail
        refine (fmtInt_any b (L4 - 1) 32 7 (u1 / 60 / 60) w0 _ (hA5.set (L4 - 1) 104 (by omega) (by omega) (by omega)) (by omega) (by omega) (by omega) (by omega) (by omega) (by show _ < (10000000 : Int); omega)).mono ?_
        rintro e w6 ⟨⟨L6, rfl, l7, l8⟩, hA7⟩
        obtain ⟨x6, c6, _, _⟩ := hA7.cell (L6 - 1) (by omega)
        have f6 := hA7.frozen (L6 - 1) (by omega)
        go_wp2
        go_ret
        first | exact ⟨⟨L6, rfl, by omega⟩, hA7⟩ | exact ⟨⟨L6 - 1, ret_int (by omega), by omega⟩, hA7.set _ _ (by omega) (by omega) (by omega)⟩
      · go_wp2
        go_ret
        first | exact ⟨⟨L4, rfl, by omega⟩, hA5⟩ | exact ⟨⟨L4 - 1, ret_int (by omega), by omega⟩, hA5.set _ _ (by omega) (by omega) (by omega)⟩
    · go_wp2
      go_ret
      first | exact ⟨⟨L2, rfl, by omega⟩, hA3⟩ | exact ⟨⟨L2 - 1, ret_int (by omega), by omega⟩, hA3.set _ _ (by omega) (by omega) (by omega)⟩

theorem format_any (b : Nat) (d : Int) (w0 w : World) (hA : Arr b w0 w) (h0 : -9223372036854775808 ≤ d) (h1 : d ≤ 9223372036854775807) :
    Calls Tryf.prog 34 #[.int .i64 d, .pointer (some ⟨b, 0, none⟩)] w fun e w' => (∃ L' : Nat, e = .returned (.int .i64 L') ∧ L' ≤ 32) ∧ Arr b w0 w' := by
  obtain ⟨u, hm, u0, u1, hz⟩ := mag_of d h0 h1
  by_cases k0 : u = 0
  · rw [hz k0]; exact format_zero b w0 w hA
  by_cases k1 : u < 1000
  · exact format_ns b d u w0 w hA hm (by omega) k1
  by_cases k2 : u < 1000000
  · exact format_us b d u w0 w hA hm (by omega) k2
  by_cases k3 : u < 1000000000
  · exact format_ms b d u w0 w hA hm (by omega) k3
  exact format_s b d u w0 w hA hm (by omega) u1

theorem Arr.nums {b : Nat} {w0 w : World} (h : Arr b w0 w) (L : Nat) : ∀ n, L + n ≤ 32 → ∃ xs : List Int, xs.length = n ∧ ∀ i, i < n → w.cell? ⟨b, L + i, none⟩ = some (.int .u8 (xs.getD i 0)) := by
  intro n
  induction n with
  | zero => intro _; exact ⟨[], rfl, fun i hi => absurd hi (Nat.not_lt_zero _)⟩
  | succ n ih =>
    intro hn
    obtain ⟨xs, hl, hc⟩ := ih (by omega)
    obtain ⟨x, hx, _, _⟩ := h.cell (L + n) (by omega)
    refine ⟨xs ++ [x], by simp [hl], fun i hi => ?_⟩
    by_cases e : i = n
    · subst e
      rw [hx]
      simp [List.getD, ← hl]
    · rw [hc i (by omega)]
      simp [List.getD, List.getElem?_append, hl, show i < n from by omega]

/-- 'string(arr[n:])'. -/
theorem Arr.text {b : Nat} {w0 w : World} (h : Arr b w0 w) (L : Nat) (hL : L ≤ 32) : ∃ s : ByteArray, s.size ≤ 32 ∧ ∃ v : Value, (Instr.sliceAt 67 (.pointer (some ⟨b, 0, none⟩)) (some (.int .i64 (L : Int))) none none).run Tryf.prog w = .ok v w ∧ (convert 22 9 v).run Tryf.prog w = .ok (.string s) w := by
  have ha : Tryf.prog.arrayLen 67 = 32 := by kernel_rfl
  have hz : (sizeOf (Tryf.prog.elem 67)).run Tryf.prog w = .ok 1 w := by kernel_rfl
  have hr := run_sliceAt_array_l w 67 ⟨b, 0, none⟩ (P := Tryf.prog) (by kernel_rfl) .i64 (L : Int) (by omega) (by rw [ha]; omega)
  rw [ha, hz] at hr
  by_cases e : 32 = L
  · obtain ⟨xs, hl, hc⟩ := h.nums 0 0 (by omega)
    refine ⟨strOfNums xs, by rw [strOfNums_size]; omega, .slice (some ⟨b, 0, none⟩) 0 0, ?_, ?_⟩
    · rw [hr]; simp [slicedAt, ← e]
    · exact run_convert_bytes_arg w 22 5 (by kernel_rfl) (by kernel_rfl) b 0 0 0 xs hl hc 9 (by kernel_rfl)
  · obtain ⟨xs, hl, hc⟩ := h.nums L (32 - L) (by omega)
    refine ⟨strOfNums xs, by rw [strOfNums_size]; omega, .slice (some ⟨b, L, none⟩) (32 - L) (32 - L), ?_, ?_⟩
    · rw [hr]; simp [slicedAt, e, Addr.add]; exact Eq.symm
    · exact run_convert_bytes_arg w 22 5 (by kernel_rfl) (by kernel_rfl) b L (32 - L) (32 - L) xs hl hc 9 (by kernel_rfl)

theorem arr_new (w : World) : Arr w.heap.size w (w.alloc (Obj.cells #[.int .u8 0, .int .u8 0, .int .u8 0, .int .u8 0, .int .u8 0, .int .u8 0, .int .u8 0, .int .u8 0, .int .u8 0, .int .u8 0, .int .u8 0, .int .u8 0, .int .u8 0, .int .u8 0, .int .u8 0, .int .u8 0, .int .u8 0, .int .u8 0, .int .u8 0, .int .u8 0, .int .u8 0, .int .u8 0, .int .u8 0, .int .u8 0, .int .u8 0, .int .u8 0, .int .u8 0, .int .u8 0, .int .u8 0, .int .u8 0, .int .u8 0, .int .u8 0] 67)) := by
  refine ⟨(Below.refl _ _).alloc (Nat.le_refl _) _, by simp, ?_, ?_⟩
  · intro j hj
    refine ⟨0, ?_, by omega, by omega⟩
    rw [World.cell?_alloc_new]
    have : j = 0 ∨ j = 1 ∨ j = 2 ∨ j = 3 ∨ j = 4 ∨ j = 5 ∨ j = 6 ∨ j = 7 ∨ j = 8 ∨ j = 9 ∨ j = 10 ∨ j = 11 ∨ j = 12 ∨ j = 13 ∨ j = 14 ∨ j = 15 ∨ j = 16 ∨ j = 17 ∨ j = 18 ∨ j = 19 ∨ j = 20 ∨ j = 21 ∨ j = 22 ∨ j = 23 ∨ j = 24 ∨ j = 25 ∨ j = 26 ∨ j = 27 ∨ j = 28 ∨ j = 29 ∨ j = 30 ∨ j = 31 := by omega
    rcases this with rfl | rfl | rfl | rfl | rfl | rfl | rfl | rfl | rfl | rfl | rfl | rfl | rfl | rfl | rfl | rfl | rfl | rfl | rfl | rfl | rfl | rfl | rfl | rfl | rfl | rfl | rfl | rfl | rfl | rfl | rfl | rfl <;> rfl
  · intro j hj
    simp [go_sem]

set_option maxHeartbeats 400000 in
theorem dur_any (d : Int) (w : World) (h0 : -9223372036854775808 ≤ d) (h1 : d ≤ 9223372036854775807) :
    Calls Tryf.prog 28 #[.int .i64 d] w fun e w' => (∃ s : ByteArray, e = .returned (.string s) ∧ s.size ≤ 32) ∧ Below w.heap.size w w' := by
  go_enter Tryf.func28, Tryf.ntmps28
  go_wp2_with fail
  refine (format_any w.heap.size d w _ (arr_new w) h0 h1).mono ?_
  rintro e w1 ⟨⟨L, rfl, hL⟩, hA⟩
  obtain ⟨s, hs, v, hr1, hr2⟩ := hA.text L hL
  go_wp2
  go_ret
  exact ⟨⟨s, rfl, hs⟩, hA.below⟩
end Go.Proofs.Qxb6001731aFmt
