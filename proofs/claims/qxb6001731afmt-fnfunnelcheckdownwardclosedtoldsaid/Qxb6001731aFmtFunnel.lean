import Derived.Test.Qxb6001731aFmtRate
import Derived.WalkKit
import Derived.WalkSpells
import Derived.Deep.QuietTactic
import Derived.BigQuiet
import Derived.Deep.RegionHeld3
namespace Go.Proofs.Qxb6001731aFmt
open Go.RowKit Go.Extern.Stop Go.Stop Go.Extern
set_option linter.unusedVariables false

/-- (Funnel).check takes it. -/
def funOk (c n p : Int) : Bool := vld n p && decide (1 ≤ c ∧ ivl n p ≤ 9223372036854775807 / c)

theorem interval_held (c n p : Int) (w W : World) (hn : 1 ≤ n) (h0 : 0 < p) (h1 : p ≤ 9223372036854775807)
    (hS : W.cell? ⟨w.heap.size, 0, none⟩ = some (.int .i64 c) ∧ W.cell? ⟨w.heap.size, 1, none⟩ = some (.int .i64 n) ∧ W.cell? ⟨w.heap.size, 2, none⟩ = some (.int .i64 p) ∧ Below w.heap.size w W) :
    Calls Tryf.prog 25 #[.agg #[.int .i64 n, .int .i64 p]] W fun e w' => e = .returned (.int .i64 (ivl n p)) ∧ w'.cell? ⟨w.heap.size, 0, none⟩ = some (.int .i64 c) ∧ w'.cell? ⟨w.heap.size, 1, none⟩ = some (.int .i64 n) ∧ w'.cell? ⟨w.heap.size, 2, none⟩ = some (.int .i64 p) ∧ Below w.heap.size w w' := by
  obtain ⟨c0, c1, c2, hb⟩ := hS
  have hlt : w.heap.size < W.heap.size := World.block_lt_of_cell? _ _ c0
  refine (interval_any n p W hn h0 h1).mono ?_
  rintro e w' ⟨he, hb'⟩
  exact ⟨he, by rw [hb'.cell (p := ⟨w.heap.size, 0, none⟩) hlt]; exact c0, by rw [hb'.cell (p := ⟨w.heap.size, 1, none⟩) hlt]; exact c1, by rw [hb'.cell (p := ⟨w.heap.size, 2, none⟩) hlt]; exact c2, below_more hb hb'⟩

theorem wrapq (c : Int) (hc : 1 ≤ c) : IntKind.i64.wrap (Int.tdiv 9223372036854775807 c) = 9223372036854775807 / c := by
  have q0 : 0 ≤ 9223372036854775807 / c := Int.ediv_nonneg (by omega) (by omega)
  have q1 : 9223372036854775807 / c ≤ 9223372036854775807 := Int.ediv_le_self c (by omega)
  rw [Int.tdiv_eq_ediv_of_nonneg (by omega)]
  generalize 9223372036854775807 / c = q at *
  simp [IntKind.wrap, IntKind.bits, IntKind.signed]
  omega

set_option maxHeartbeats 800000 in
theorem funnel_yes (c n p : Int) (w : World) (c1 : c ≤ 9223372036854775807) (p1 : p ≤ 9223372036854775807) (hv : funOk c n p = true) :
    Calls Tryf.prog 23 #[.agg #[.int .i64 c, .int .i64 n, .int .i64 p]] w fun e w' => e = .returned .nilIface ∧ Below w.heap.size w w' := by
  obtain ⟨hw, hc1, hq⟩ : vld n p = true ∧ 1 ≤ c ∧ ivl n p ≤ 9223372036854775807 / c := by simpa [funOk] using hv
  obtain ⟨hn, h0, _⟩ := (vld_iff n p).1 hw
  have hqx : ¬ IntKind.i64.wrap (Int.tdiv 9223372036854775807 c) < ivl n p := by rw [wrapq c hc1]; omega
  have hc0 : ¬ c = 0 := by omega
  clear hv hq
  go_enter Tryf.func23, Tryf.ntmps23
  go_wp2_with fail
  refine (check_yes n p _ p1 hw).mono ?_
  rintro e w1 ⟨rfl, hb⟩
  obtain ⟨hc, hf⟩ := bcell hb
  clear hw
  have hS1 : w1.cell? ⟨w.heap.size, 0, none⟩ = some (.int .i64 c) ∧ w1.cell? ⟨w.heap.size, 1, none⟩ = some (.int .i64 n) ∧ w1.cell? ⟨w.heap.size, 2, none⟩ = some (.int .i64 p) ∧ Below w.heap.size w w1 := by
    refine ⟨?_, ?_, ?_, below_alloc hb⟩ <;> (rw [hc _ _ (by simp)]; exact cell_new rfl rfl)
  go_wp2_with fail
  go_region_held3 (fun w' => w'.cell? ⟨w.heap.size, 0, none⟩ = some (.int .i64 c) ∧ w'.cell? ⟨w.heap.size, 1, none⟩ = some (.int .i64 n) ∧ w'.cell? ⟨w.heap.size, 2, none⟩ = some (.int .i64 p) ∧ Below w.heap.size w w') (first | assumption | exact ⟨hS1.1, hS1.2.1, hS1.2.2.1, hS1.2.2.2.drew⟩)
    (first | (go_at_call 25; refine (interval_held c n p w _ hn h0 p1 (by assumption)).mono ?_; rintro e w2 ⟨rfl, hS2⟩))
  go_wp2
  go_ret
  exact ⟨rfl, hS2.2.2.2⟩

set_option maxHeartbeats 800000 in
theorem funnel_no (F : Interp) (c n p : Int) (w : World) (hF : F.answers w.tape) (hT : Tab w) (c0 : -9223372036854775808 ≤ c) (c1 : c ≤ 9223372036854775807) (n0 : -9223372036854775808 ≤ n) (n1 : n ≤ 9223372036854775807) (p0 : -9223372036854775808 ≤ p) (p1 : p ≤ 9223372036854775807) (hv : funOk c n p = false) :
    Calls Tryf.prog 23 #[.agg #[.int .i64 c, .int .i64 n, .int .i64 p]] w fun e w' => (∃ (t : TypeId) (a : Addr), e = .returned (.iface t (.pointer (some a)))) ∧ Below w.heap.size w w' := by
  cases hw : vld n p
  · go_enter Tryf.func23, Tryf.ntmps23
    go_wp2_with fail
    refine (check_no n p _ p1 hw).mono ?_
    rintro e w1 ⟨⟨a, t, rfl, ha⟩, hb⟩
    obtain ⟨hc, hf⟩ := bcell hb
    have hb1 := below_alloc hb
    go_wp2_with fail
    refine (rateStr_any n p _ n0 n1 p0 p1 (tab_below hT hb1)).mono ?_
    rintro e w2 ⟨⟨s, rfl, hs⟩, hb2⟩
    have ha2 : w2.cell? a = some (.string t) := cell_later hb2 ha
    clear hc hf
    go_wp2_with fail
    refine (rateError_any F s t a _ (by rw [hb2.tape, hb1.tape]; exact hF) ha2).mono ?_
    rintro e w3 ⟨⟨a3, t3, rfl, ha3⟩, hb3⟩
    go_wp2_with fail
    refine (errorf_funnel F t3 a3 w3.heap.size _ (by show F.answers w3.tape; rw [hb3.tape, hb2.tape, hb1.tape]; exact hF) (by go_simp) (cell_later ((Below.refl _ w3).alloc (Nat.le_refl _) _) ha3)).mono ?_
    rintro e w4 ⟨⟨a4, rfl⟩, hb4⟩
    go_wp2
    go_ret
    exact ⟨⟨_, a4, rfl⟩, below_more (below_more (below_more hb1 hb2) hb3) (below_alloc hb4)⟩
  · obtain ⟨hn, h0, _⟩ := (vld_iff n p).1 hw
    have hcq : ¬ (1 ≤ c ∧ ivl n p ≤ 9223372036854775807 / c) := by
      intro h
      rw [funOk, hw] at hv
      simp [h] at hv
    clear hv
    by_cases hc1 : c < 1
    · clear hcq
      go_enter Tryf.func23, Tryf.ntmps23
      go_wp2_with fail
      refine (check_yes n p _ p1 hw).mono ?_
      rintro e w1 ⟨rfl, hb⟩
      obtain ⟨hc, hf⟩ := bcell hb
      have hb1 := below_alloc hb
      clear hw
      go_wp2_with fail
      refine (errorf_cap F c w1.heap.size _ (by show F.answers w1.tape; rw [hb1.tape]; exact hF) (by exact cell_new rfl rfl)).mono ?_
      rintro e w2 ⟨⟨a, rfl⟩, hb2⟩
      go_wp2
      go_ret
      exact ⟨⟨_, a, rfl⟩, below_more hb1 (below_alloc hb2)⟩
    · have hqx : IntKind.i64.wrap (Int.tdiv 9223372036854775807 c) < ivl n p := by rw [wrapq c (by omega)]; omega
      have hc0 : ¬ c = 0 := by omega
      clear hcq
      go_enter Tryf.func23, Tryf.ntmps23
      go_wp2_with fail
      refine (check_yes n p _ p1 hw).mono ?_
      rintro e w1 ⟨rfl, hb⟩
      obtain ⟨hc, hf⟩ := bcell hb
      have hb1 := below_alloc hb
      clear hw
      have hS1 : w1.cell? ⟨w.heap.size, 0, none⟩ = some (.int .i64 c) ∧ w1.cell? ⟨w.heap.size, 1, none⟩ = some (.int .i64 n) ∧ w1.cell? ⟨w.heap.size, 2, none⟩ = some (.int .i64 p) ∧ Below w.heap.size w w1 := by
        refine ⟨?_, ?_, ?_, hb1⟩ <;> (rw [hc _ _ (by simp)]; exact cell_new rfl rfl)
      go_wp2_with fail
      go_region_held3 (fun w' => w'.cell? ⟨w.heap.size, 0, none⟩ = some (.int .i64 c) ∧ w'.cell? ⟨w.heap.size, 1, none⟩ = some (.int .i64 n) ∧ w'.cell? ⟨w.heap.size, 2, none⟩ = some (.int .i64 p) ∧ Below w.heap.size w w') (first | assumption | exact ⟨hS1.1, hS1.2.1, hS1.2.2.1, hS1.2.2.2.drew⟩)
        (first | (go_at_call 25; refine (interval_held c n p w _ hn h0 p1 (by assumption)).mono ?_; rintro e w2 ⟨rfl, hS2⟩))
      obtain ⟨k0, k1, k2, hb2⟩ := hS2
      go_wp2_with fail
      refine (errorf_burst F c n p 9223372036854775807 w2.heap.size _ (by show F.answers w2.tape; rw [hb2.tape]; exact hF) (tab_below hT (hb2.alloc hb2.size _)) n0 n1 p0 p1 (by omega) (by omega) (by exact cell_new rfl rfl) (by exact cell_new rfl rfl) (by exact cell_new rfl rfl)).mono ?_
      rintro e w3 ⟨⟨a, rfl⟩, hb3⟩
      go_wp2
      go_ret
      exact ⟨⟨_, a, rfl⟩, below_more hb2 (below_alloc hb3)⟩

set_option maxHeartbeats 400000 in
theorem zzFun_yes (c n p : Int) (w : World) (c1 : c ≤ 9223372036854775807) (p1 : p ≤ 9223372036854775807) (hv : funOk c n p = true) :
    Calls Tryf.prog 15 #[.agg #[.int .i64 c, .int .i64 n, .int .i64 p]] w fun e w' => e = .returned .nilIface ∧ Below w.heap.size w w' := by
  go_enter Tryf.func15, Tryf.ntmps15
  go_wp2_with fail
  refine (funnel_yes c n p _ c1 p1 hv).mono ?_
  rintro e w1 ⟨rfl, hb⟩
  go_wp2
  go_ret
  exact ⟨rfl, below_alloc hb⟩

set_option maxHeartbeats 400000 in
theorem zzFun_no (F : Interp) (c n p : Int) (w : World) (hF : F.answers w.tape) (hT : Tab w) (c0 : -9223372036854775808 ≤ c) (c1 : c ≤ 9223372036854775807) (n0 : -9223372036854775808 ≤ n) (n1 : n ≤ 9223372036854775807) (p0 : -9223372036854775808 ≤ p) (p1 : p ≤ 9223372036854775807) (hv : funOk c n p = false) :
    Calls Tryf.prog 15 #[.agg #[.int .i64 c, .int .i64 n, .int .i64 p]] w fun e w' => (∃ (t : TypeId) (a : Addr), e = .returned (.iface t (.pointer (some a)))) ∧ Below w.heap.size w w' := by
  go_enter Tryf.func15, Tryf.ntmps15
  go_wp2_with fail
  refine (funnel_no F c n p _ (by exact hF) (tab_below hT ((Below.refl _ w).alloc (Nat.le_refl _) _)) c0 c1 n0 n1 p0 p1 hv).mono ?_
  rintro e w1 ⟨⟨t, a, rfl⟩, hb⟩
  go_wp2
  go_ret
  exact ⟨⟨t, a, rfl⟩, below_alloc hb⟩

theorem ret_bool {a b : Bool} (h : a = b) : Ending.returned (.bool a) = .returned (.bool b) := by rw [h]

set_option maxHeartbeats 400000 in
theorem zzValid_any (n p : Int) (w : World) (h1 : p ≤ 9223372036854775807) :
    Calls Tryf.prog 9 #[.int .i64 n, .int .i64 p] w fun e w' => e = .returned (.bool (vld n p)) ∧ w' = w := by
  by_cases hn : 1 ≤ n
  · by_cases h0 : 0 < p
    · go_enter Tryf.func9, Tryf.ntmps9
      go_wp2
      go_ret
      exact ⟨ret_bool (by unfold vld; simp [hn, h0]), rfl⟩
    · have hd : decide (0 < p) = false := by simpa using h0
      have hf : vld n p = false := by unfold vld; simp [hd]
      have Hf : Hid (vld n p = false) := hf
      clear hf
      go_enter Tryf.func9, Tryf.ntmps9
      go_wp2
      go_ret
      exact ⟨ret_bool Hf.out.symm, rfl⟩
  · have hd : decide (1 ≤ n) = false := by simpa using hn
    have hf : vld n p = false := by unfold vld; simp [hd]
    have Hf : Hid (vld n p = false) := hf
    clear hf
    go_enter Tryf.func9, Tryf.ntmps9
    go_wp2
    go_ret
    exact ⟨ret_bool Hf.out.symm, rfl⟩
end Go.Proofs.Qxb6001731aFmt
