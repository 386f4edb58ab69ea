import Derived.Test.Qxb6001731aFmtRateStr
import Derived.WalkKit
import Derived.WalkSpells
import Derived.Deep.QuietTactic
import Derived.BigQuiet
import Derived.Deep.RegionHeld3
namespace Go.Proofs.Qxb6001731aFmt
open Go.RowKit Go.Extern.Stop Go.Stop Go.Extern
set_option linter.unusedVariables false

set_option maxHeartbeats 400000 in
theorem trunc_any (d : Int) (w : World) (h0 : 0 ≤ d) (h1 : d ≤ 9223372036854775807) :
    Calls Tryf.prog 30 #[.int .i64 d, .int .i64 1000] w fun e w' => e = .returned (.int .i64 (d - d % 1000)) ∧ w' = w := by
  go_enter Tryf.func30, Tryf.ntmps30
  go_wp2
  go_ret
  exact ⟨rfl, rfl⟩

set_option maxHeartbeats 400000 in
theorem new_any (s : ByteArray) (w : World) :
    Calls Tryf.prog 24 #[.string s] w fun e w' => (∃ a : Addr, e = .returned (.iface 61 (.pointer (some a))) ∧ w'.cell? a = some (.string s)) ∧ Below w.heap.size w w' := by
  go_enter Tryf.func24, Tryf.ntmps24
  go_wp2
  go_ret
  exact ⟨⟨_, rfl, by go_simp⟩, (Below.refl _ _).alloc (Nat.le_refl _) _⟩

set_option maxHeartbeats 400000 in
theorem zzRate_any (n p : Int) (w : World) :
    Calls Tryf.prog 7 #[.int .i64 n, .int .i64 p] w fun e w' => e = .returned (.agg #[.int .i64 n, .int .i64 p]) ∧ Below w.heap.size w w' := by
  go_enter Tryf.func7, Tryf.ntmps7
  go_wp2
  exact bodyPost_ret (v := .agg #[.int .i64 n, .int .i64 p]) (by simp [results, Tryf.results7, go_sem]) rfl ⟨rfl, (Below.refl _ _).alloc (Nat.le_refl _) _⟩

set_option maxHeartbeats 400000 in
theorem zzFunnel_any (c n p : Int) (w : World) :
    Calls Tryf.prog 16 #[.int .i64 c, .int .i64 n, .int .i64 p] w fun e w' => e = .returned (.agg #[.int .i64 c, .int .i64 n, .int .i64 p]) ∧ Below w.heap.size w w' := by
  go_enter Tryf.func16, Tryf.ntmps16
  go_wp2
  exact bodyPost_ret (v := .agg #[.int .i64 c, .int .i64 n, .int .i64 p]) (by simp [results, Tryf.results16, go_sem]) rfl ⟨rfl, (Below.refl _ _).alloc (Nat.le_refl _) _⟩

theorem quo_bd (n p : Int) (hn : 1 ≤ n) (h0 : 0 < p) : 0 ≤ p / n ∧ p / n ≤ p :=
  ⟨Int.ediv_nonneg (by omega) (by omega), Int.ediv_le_self n (by omega)⟩

/-- The interval of a rate: the period by n, cut to whole microseconds. -/
def ivl (n p : Int) : Int := p / n - p / n % 1000

set_option maxHeartbeats 400000 in
theorem interval_any (n p : Int) (w : World) (hn : 1 ≤ n) (h0 : 0 < p) (h1 : p ≤ 9223372036854775807) :
    Calls Tryf.prog 25 #[.agg #[.int .i64 n, .int .i64 p]] w fun e w' => e = .returned (.int .i64 (ivl n p)) ∧ Below w.heap.size w w' := by
  obtain ⟨b0, b1⟩ := quo_bd n p hn h0
  go_enter Tryf.func25, Tryf.ntmps25
  go_wp2_with (go_at_call 30; refine (trunc_any _ _ (by omega) (by omega)).mono ?_; rintro e w' ⟨rfl, rfl⟩)
  go_ret
  exact ⟨rfl, (Below.refl _ _).alloc (Nat.le_refl _) _⟩

/-- The law file's own test of a rate. -/
def vld (n p : Int) : Bool := decide (1 ≤ n ∧ 0 < p ∧ n ≤ p / 1000)
theorem vld_iff (n p : Int) : vld n p = true ↔ 1 ≤ n ∧ 0 < p ∧ n ≤ p / 1000 := by unfold vld; simp
theorem vld_lt (n p : Int) (hn : 1 ≤ n) (h0 : 0 < p) : (ivl n p < 1000) ↔ ¬ n ≤ p / 1000 := by
  have hq : p / n - p / n % 1000 < 1000 ↔ p / n < 1000 := by omega
  rw [ivl, hq, Int.ediv_lt_iff_lt_mul (by omega)]
  omega

set_option maxHeartbeats 400000 in
theorem check_yes (n p : Int) (w : World) (h1 : p ≤ 9223372036854775807) (hv : vld n p = true) :
    Calls Tryf.prog 18 #[.agg #[.int .i64 n, .int .i64 p]] w fun e w' => e = .returned .nilIface ∧ Below w.heap.size w w' := by
  obtain ⟨hn, h0, hq⟩ := (vld_iff n p).1 hv
  have hlt : ¬ ivl n p < 1000 := by rw [vld_lt n p hn h0]; omega
  clear hv
  go_enter Tryf.func18, Tryf.ntmps18
  go_wp2_with fail
  refine (interval_any _ _ _ hn h0 h1).mono ?_
  rintro e w1 ⟨rfl, hb⟩
  go_wp2
  go_ret
  exact ⟨rfl, below_alloc hb⟩

set_option maxHeartbeats 400000 in
theorem check_no (n p : Int) (w : World) (h1 : p ≤ 9223372036854775807) (hv : vld n p = false) :
    Calls Tryf.prog 18 #[.agg #[.int .i64 n, .int .i64 p]] w fun e w' => (∃ (a : Addr) (t : ByteArray), e = .returned (.iface 61 (.pointer (some a))) ∧ w'.cell? a = some (.string t)) ∧ Below w.heap.size w w' := by
  have hv' : ¬ (1 ≤ n ∧ 0 < p ∧ n ≤ p / 1000) := by rw [← vld_iff, hv]; simp
  clear hv
  by_cases hn : n < 1
  · clear hv'
    go_enter Tryf.func18, Tryf.ntmps18
    go_wp2_with fail
    refine (new_any _ _).mono ?_
    rintro e w1 ⟨⟨a, rfl, ha⟩, hb⟩
    go_wp2
    go_ret
    exact ⟨⟨a, _, rfl, ha⟩, below_alloc hb⟩
  · by_cases h0 : p ≤ 0
    · clear hv'
      go_enter Tryf.func18, Tryf.ntmps18
      go_wp2_with fail
      refine (new_any _ _).mono ?_
      rintro e w1 ⟨⟨a, rfl, ha⟩, hb⟩
      go_wp2
      go_ret
      exact ⟨⟨a, _, rfl, ha⟩, below_alloc hb⟩
    · have hn' : 1 ≤ n := by omega
      have h0' : 0 < p := by omega
      have hlt : ivl n p < 1000 := by rw [vld_lt n p hn' h0']; omega
      clear hv'
      go_enter Tryf.func18, Tryf.ntmps18
      go_wp2_with fail
      refine (interval_any _ _ _ hn' h0' h1).mono ?_
      rintro e w1 ⟨rfl, hb⟩
      go_wp2_with fail
      refine (new_any _ _).mono ?_
      rintro e w2 ⟨⟨a, rfl, ha⟩, hb2⟩
      go_wp2
      go_ret
      exact ⟨⟨a, _, rfl, ha⟩, below_more (below_alloc hb) hb2⟩

set_option maxHeartbeats 400000 in
theorem rateError_any (F : Interp) (s t : ByteArray) (a : Addr) (w : World) (hF : F.answers w.tape) (ha : w.cell? a = some (.string t)) :
    Calls Tryf.prog 19 #[.string s, .iface 61 (.pointer (some a))] w fun e w' => (∃ (a' : Addr) (t' : ByteArray), e = .returned (.iface 66 (.pointer (some a'))) ∧ w'.cell? a' = some (.string t')) ∧ Below w.heap.size w w' := by
  have hlt : a.block < w.heap.size := World.block_lt_of_cell? _ _ ha
  go_enter Tryf.func19, Tryf.ntmps19
  go_wp2_with fail
  refine (errorf_rate F s t a w.heap.size _ (by exact hF) (by go_simp) (by go_simp) (cell_later ((Below.refl _ w).alloc (Nat.le_refl _) _) ha)).mono ?_
  rintro e w1 ⟨⟨a', t', rfl, ha'⟩, hb⟩
  go_wp2
  go_ret
  exact ⟨⟨a', t', rfl, ha'⟩, below_alloc hb⟩

set_option maxHeartbeats 800000 in
theorem errorf_burst (F : Interp) (c n p d : Int) (blk : Nat) (w : World) (hF : F.answers w.tape) (hT : Tab w) (n0 : -9223372036854775808 ≤ n) (n1 : n ≤ 9223372036854775807) (p0 : -9223372036854775808 ≤ p) (p1 : p ≤ 9223372036854775807) (d0 : -9223372036854775808 ≤ d) (d1 : d ≤ 9223372036854775807)
    (hc0 : w.cell? ⟨blk, 0, none⟩ = some (.iface 3 (.int .i64 c))) (hc1 : w.cell? ⟨blk, 1, none⟩ = some (.iface 28 (.agg #[.int .i64 n, .int .i64 p]))) (hc2 : w.cell? ⟨blk, 2, none⟩ = some (.iface 26 (.int .i64 d))) :
    Calls Tryf.prog 26 #[.string ⟨#[102, 117, 110, 110, 101, 108, 58, 32, 99, 97, 112, 97, 99, 105, 116, 121, 32, 37, 100, 32, 97, 116, 32, 37, 118, 32, 105, 115, 32, 97, 32, 98, 117, 114, 115, 116, 32, 108, 111, 110, 103, 101, 114, 32, 116, 104, 97, 110, 32, 37, 118]⟩, .slice (some ⟨blk, 0, none⟩) 3 3] w fun e w' => (∃ a : Addr, e = .returned (.iface 61 (.pointer (some a)))) ∧ Below w.heap.size w w' := by
  have hF' := answers_open hF
  have hb : blk < w.heap.size := World.block_lt_of_cell? _ _ hc0
  go_enter Tryf.func26, Tryf.ntmps26
  go_wp2
  apply rows_call nextTurns
  case hr =>
    go_simp
    exact ⟨⟨rfl, rfl, rfl⟩, rfl⟩
  case hi => exact invoke28 _ _
  case hc =>
    refine (rateStr_any n p _ n0 n1 p0 p1 hT).mono fun e w₃ ⟨⟨t, he, ht⟩, hx⟩ => ?_
    subst he
    have hF3 := answers_open (show F.answers w₃.tape by rw [hx.tape]; exact hF)
    have hc03 : w₃.cell? ⟨blk, 0, none⟩ = some (.iface 3 (.int .i64 c)) := by rw [hx.cell hb]; exact hc0
    have hc13 : w₃.cell? ⟨blk, 1, none⟩ = some (.iface 28 (.agg #[.int .i64 n, .int .i64 p])) := by rw [hx.cell hb]; exact hc1
    have hc23 : w₃.cell? ⟨blk, 2, none⟩ = some (.iface 26 (.int .i64 d)) := by rw [hx.cell hb]; exact hc2
    have hb3 : blk < w₃.heap.size := World.block_lt_of_cell? _ _ hc03
    apply rows_call nextReturned
    case hr =>
      go_simp
      exact ⟨⟨rfl, rfl, rfl⟩, rfl⟩
    case hi => exact invoke26 _ _
    case hc =>
      refine (dur_any d _ d0 d1).mono fun e w₄ ⟨⟨t', he, ht'⟩, hy⟩ => ?_
      subst he
      have hF4 := answers_open (show F.answers w₄.tape by rw [hy.tape, hx.tape]; exact hF)
      have hc04 : w₄.cell? ⟨blk, 0, none⟩ = some (.iface 3 (.int .i64 c)) := by rw [hy.cell hb3]; exact hc03
      have hc14 : w₄.cell? ⟨blk, 1, none⟩ = some (.iface 28 (.agg #[.int .i64 n, .int .i64 p])) := by rw [hy.cell hb3]; exact hc13
      have hc24 : w₄.cell? ⟨blk, 2, none⟩ = some (.iface 26 (.int .i64 d)) := by rw [hy.cell hb3]; exact hc23
      apply rows_value nextReturned
      case hr =>
        go_simp
        exact ⟨rfl, rfl⟩
      case h =>
        go_wp2
        go_ret
        exact ⟨⟨_, rfl⟩, ((below_more hx hy).alloc (below_more hx hy).size _).drew⟩
end Go.Proofs.Qxb6001731aFmt
