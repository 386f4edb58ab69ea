import Derived.Test.Qxb6001731aFmtErrorf
import Derived.WalkKit
import Derived.WalkSpells
import Derived.Deep.QuietTactic
import Derived.BigQuiet
namespace Go.Proofs.Qxb6001731aFmt
open Go.RowKit Go.Extern.Stop Go.Stop Go.Extern
set_option linter.unusedVariables false

theorem below_alloc {w w' : World} {o : Obj} (hb : Below (w.alloc o).heap.size (w.alloc o) w') : Below w.heap.size w w' :=
  ((Below.refl _ w).alloc (Nat.le_refl _) o).trans (hb.mono (by simp))

theorem below_more {w w1 w2 : World} (h1 : Below w.heap.size w w1) (h2 : Below w1.heap.size w1 w2) : Below w.heap.size w w2 := h1.trans (h2.mono h1.size)
theorem below_drewN {b : Nat} {w w1 : World} (h1 : Below b w w1) (n : Nat) : Below b w (w1.drewN n) := ⟨h1.os, h1.tape, h1.output, h1.size, h1.block⟩

theorem cell_new {W : World} {n i : Nat} {c : Array Value} {t : TypeId} {v : Value} (hn : n = W.heap.size) (h : c[i]? = some v) : (W.alloc (.cells c t)).cell? ⟨n, i, none⟩ = some v := by
  subst hn
  rw [World.cell?_alloc_new, h]

theorem bcell {W w1 : World} (hb : Below W.heap.size W w1) : (∀ b o, b < W.heap.size → w1.cell? ⟨b, o, none⟩ = W.cell? ⟨b, o, none⟩) ∧ (∀ b o, b < W.heap.size → w1.frozen? ⟨b, o, none⟩ = W.frozen? ⟨b, o, none⟩) :=
  ⟨fun b o h => hb.cell (p := ⟨b, o, none⟩) h, fun b o h => hb.frozen (p := ⟨b, o, none⟩) h⟩

/-- A window that checkWindow takes. -/
def winOk (n d : Int) : Bool := decide (1 ≤ n ∧ 1000 ≤ d ∧ d % 1000 = 0)
theorem winOk_iff (n d : Int) : winOk n d = true ↔ 1 ≤ n ∧ 1000 ≤ d ∧ d % 1000 = 0 := by unfold winOk; simp

set_option maxHeartbeats 400000 in
theorem checkWindow_yes (s : ByteArray) (n d : Int) (w : World) (hv : winOk n d = true) (d1 : d ≤ 9223372036854775807) :
    Calls Tryf.prog 22 #[.string s, .int .i64 n, .int .i64 d] w fun e w' => e = .returned .nilIface ∧ Below w.heap.size w w' := by
  obtain ⟨hn, h0, h1⟩ := (winOk_iff n d).1 hv
  have hb : (d % 1000 != 0) = false := by simp [h1]
  clear hv h1
  go_enter Tryf.func22, Tryf.ntmps22
  go_wp2
  go_ret
  exact ⟨rfl, Below.refl _ _⟩

set_option maxHeartbeats 400000 in
theorem checkWindow_no (F : Interp) (s : ByteArray) (n d : Int) (w : World) (hF : F.answers w.tape) (hv : winOk n d = false) (d0 : -9223372036854775808 ≤ d) (d1 : d ≤ 9223372036854775807) :
    Calls Tryf.prog 22 #[.string s, .int .i64 n, .int .i64 d] w fun e w' => (∃ a : Addr, e = .returned (.iface 61 (.pointer (some a)))) ∧ Below w.heap.size w w' := by
  have hv' : ¬ (1 ≤ n ∧ 1000 ≤ d ∧ d % 1000 = 0) := by rw [← winOk_iff, hv]; simp
  clear hv
  by_cases hn : n < 1
  · clear hv'
    go_enter Tryf.func22, Tryf.ntmps22
    go_wp2_with fail
    refine (errorf_limit F s n w.heap.size _ (by exact hF) (by go_simp) (by go_simp)).mono ?_
    rintro e w1 ⟨⟨a, rfl⟩, hb⟩
    go_wp2
    go_ret
    exact ⟨⟨a, rfl⟩, below_alloc hb⟩
  · by_cases h0 : d < 1000
    · clear hv'
      go_enter Tryf.func22, Tryf.ntmps22
      go_wp2_with fail
      refine (errorf_window F s d w.heap.size _ (by exact hF) d0 d1 (by go_simp) (by go_simp)).mono ?_
      rintro e w1 ⟨⟨a, rfl⟩, hb⟩
      go_wp2
      go_ret
      exact ⟨⟨a, rfl⟩, below_alloc hb⟩
    · have h1 : (d % 1000 != 0) = true := by simp; omega
      clear hv'
      go_enter Tryf.func22, Tryf.ntmps22
      go_wp2_with fail
      refine (errorf_window F s d w.heap.size _ (by exact hF) d0 d1 (by go_simp) (by go_simp)).mono ?_
      rintro e w1 ⟨⟨a, rfl⟩, hb⟩
      go_wp2
      go_ret
      exact ⟨⟨a, rfl⟩, below_alloc hb⟩

set_option maxHeartbeats 400000 in
theorem zzCheckWindow_yes (s : ByteArray) (n d : Int) (w : World) (hv : winOk n d = true) (d1 : d ≤ 9223372036854775807) :
    Calls Tryf.prog 14 #[.string s, .int .i64 n, .int .i64 d] w fun e w' => e = .returned .nilIface ∧ Below w.heap.size w w' := by
  go_enter Tryf.func14, Tryf.ntmps14
  go_wp2_with fail
  refine (checkWindow_yes s n d _ hv d1).mono ?_
  rintro e w1 ⟨rfl, hb⟩
  go_wp2
  go_ret
  exact ⟨rfl, hb⟩

set_option maxHeartbeats 400000 in
theorem zzCheckWindow_no (F : Interp) (s : ByteArray) (n d : Int) (w : World) (hF : F.answers w.tape) (hv : winOk n d = false) (d0 : -9223372036854775808 ≤ d) (d1 : d ≤ 9223372036854775807) :
    Calls Tryf.prog 14 #[.string s, .int .i64 n, .int .i64 d] w fun e w' => (∃ a : Addr, e = .returned (.iface 61 (.pointer (some a)))) ∧ Below w.heap.size w w' := by
  go_enter Tryf.func14, Tryf.ntmps14
  go_wp2_with fail
  refine (checkWindow_no F s n d _ hF hv d0 d1).mono ?_
  rintro e w1 ⟨⟨a, rfl⟩, hb⟩
  go_wp2
  go_ret
  exact ⟨⟨a, rfl⟩, hb⟩

set_option maxHeartbeats 400000 in
theorem micros_any (d : Int) (w : World) (d0 : 0 ≤ d) (d1 : d ≤ 9223372036854775807) :
    Calls Tryf.prog 29 #[.int .i64 d] w fun e w' => e = .returned (.int .i64 (d / 1000)) ∧ w' = w := by
  go_enter Tryf.func29, Tryf.ntmps29
  go_wp2
  go_ret
  exact ⟨rfl, rfl⟩

set_option maxHeartbeats 400000 in
theorem zzRolling_any (n d b : Int) (w : World) :
    Calls Tryf.prog 13 #[.int .i64 n, .int .i64 d, .int .i64 b] w fun e w' => e = .returned (.agg #[.int .i64 n, .int .i64 d, .int .i64 b]) ∧ Below w.heap.size w w' := by
  go_enter Tryf.func13, Tryf.ntmps13
  go_wp2
  exact bodyPost_ret (v := .agg #[.int .i64 n, .int .i64 d, .int .i64 b]) (by simp [results, Tryf.results13, go_sem]) rfl ⟨rfl, (Below.refl _ _).alloc (Nat.le_refl _) _⟩

/-- (Rolling).check takes it. -/
def rollOk (n d b : Int) : Bool := winOk n d && decide (1 ≤ b ∧ d / 1000 % b = 0)

set_option maxHeartbeats 400000 in
theorem roll_yes (n d b : Int) (w : World) (d1 : d ≤ 9223372036854775807) (b1 : b ≤ 9223372036854775807) (hv : rollOk n d b = true) :
    Calls Tryf.prog 21 #[.agg #[.int .i64 n, .int .i64 d, .int .i64 b]] w fun e w' => e = .returned .nilIface ∧ Below w.heap.size w w' := by
  obtain ⟨hw, hb1, hbm⟩ : winOk n d = true ∧ 1 ≤ b ∧ d / 1000 % b = 0 := by simpa [rollOk] using hv
  obtain ⟨hn, h0, h1⟩ := (winOk_iff n d).1 hw
  have hm0 : 0 ≤ d / 1000 := by omega
  have hm : (d / 1000 % b != 0) = false := by simp [hbm]
  clear hv hbm h1
  go_enter Tryf.func21, Tryf.ntmps21
  go_wp2_with fail
  refine (checkWindow_yes _ n d _ hw d1).mono ?_
  rintro e w1 ⟨rfl, hb⟩
  obtain ⟨hc, hf⟩ := bcell hb
  clear hw
  go_wp2_with fail
  go_quiet ((go_at_call 29; exact Calls.quiet_of_same (micros_any _ _ (by omega) d1)))
  go_wp2
  go_ret
  exact ⟨rfl, below_drewN (below_alloc hb) _⟩

set_option maxHeartbeats 400000 in
theorem roll_no (F : Interp) (n d b : Int) (w : World) (hF : F.answers w.tape) (d0 : -9223372036854775808 ≤ d) (d1 : d ≤ 9223372036854775807) (b1 : b ≤ 9223372036854775807) (hv : rollOk n d b = false) :
    Calls Tryf.prog 21 #[.agg #[.int .i64 n, .int .i64 d, .int .i64 b]] w fun e w' => (∃ a : Addr, e = .returned (.iface 61 (.pointer (some a)))) ∧ Below w.heap.size w w' := by
  cases hw : winOk n d
  · go_enter Tryf.func21, Tryf.ntmps21
    go_wp2_with fail
    refine (checkWindow_no F _ n d _ (by exact hF) hw d0 d1).mono ?_
    rintro e w1 ⟨⟨a, rfl⟩, hb⟩
    go_wp2
    go_ret
    exact ⟨⟨a, rfl⟩, below_alloc hb⟩
  · obtain ⟨hn, h0, h1⟩ := (winOk_iff n d).1 hw
    have hbm : ¬ (1 ≤ b ∧ d / 1000 % b = 0) := by
      intro h
      rw [rollOk, hw] at hv
      simp [h] at hv
    have hm0 : 0 ≤ d / 1000 := by omega
    clear hv h1
    by_cases hb1 : b < 1
    · clear hbm
      go_enter Tryf.func21, Tryf.ntmps21
      go_wp2_with fail
      refine (checkWindow_yes _ n d _ hw d1).mono ?_
      rintro e w1 ⟨rfl, hb⟩
      obtain ⟨hc, hf⟩ := bcell hb
      clear hw
      go_wp2_with fail
      refine (errorf_bucket F b w1.heap.size _ (by show F.answers w1.tape; rw [hb.tape]; exact hF) (by go_simp)).mono ?_
      rintro e w2 ⟨⟨a, rfl⟩, hb2⟩
      go_wp2
      go_ret
      exact ⟨⟨a, rfl⟩, below_more (below_alloc hb) (below_alloc hb2)⟩
    · have hm : (d / 1000 % b != 0) = true := by simp; omega
      clear hbm
      go_enter Tryf.func21, Tryf.ntmps21
      go_wp2_with fail
      refine (checkWindow_yes _ n d _ hw d1).mono ?_
      rintro e w1 ⟨rfl, hb⟩
      obtain ⟨hc, hf⟩ := bcell hb
      clear hw
      go_wp2_with fail
      go_quiet ((go_at_call 29; exact Calls.quiet_of_same (micros_any _ _ (by omega) d1)))
      go_wp2_with fail
      refine (errorf_cut F d b w1.heap.size _ (by show F.answers w1.tape; rw [hb.tape]; exact hF) d0 d1 (by exact cell_new rfl rfl) (by exact cell_new rfl rfl)).mono ?_
      rintro e w2 ⟨⟨a, rfl⟩, hb2⟩
      go_wp2
      go_ret
      exact ⟨⟨a, rfl⟩, below_more (below_drewN (below_alloc hb) nq) (below_alloc hb2)⟩

set_option maxHeartbeats 400000 in
theorem zzRoll_yes (n d b : Int) (w : World) (d1 : d ≤ 9223372036854775807) (b1 : b ≤ 9223372036854775807) (hv : rollOk n d b = true) :
    Calls Tryf.prog 12 #[.agg #[.int .i64 n, .int .i64 d, .int .i64 b]] w fun e w' => e = .returned .nilIface ∧ Below w.heap.size w w' := by
  go_enter Tryf.func12, Tryf.ntmps12
  go_wp2_with fail
  refine (roll_yes n d b _ d1 b1 hv).mono ?_
  rintro e w1 ⟨rfl, hb⟩
  go_wp2
  go_ret
  exact ⟨rfl, below_alloc hb⟩

set_option maxHeartbeats 400000 in
theorem zzRoll_no (F : Interp) (n d b : Int) (w : World) (hF : F.answers w.tape) (d0 : -9223372036854775808 ≤ d) (d1 : d ≤ 9223372036854775807) (b1 : b ≤ 9223372036854775807) (hv : rollOk n d b = false) :
    Calls Tryf.prog 12 #[.agg #[.int .i64 n, .int .i64 d, .int .i64 b]] w fun e w' => (∃ a : Addr, e = .returned (.iface 61 (.pointer (some a)))) ∧ Below w.heap.size w w' := by
  go_enter Tryf.func12, Tryf.ntmps12
  go_wp2_with fail
  refine (roll_no F n d b _ (by exact hF) d0 d1 b1 hv).mono ?_
  rintro e w1 ⟨⟨a, rfl⟩, hb⟩
  go_wp2
  go_ret
  exact ⟨⟨a, rfl⟩, below_alloc hb⟩
end Go.Proofs.Qxb6001731aFmt
