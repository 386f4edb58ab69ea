import Derived.Test.Qxb6001731aFmtFunnel
import Derived.WalkKit
import Derived.WalkSpells
import Derived.Lib.ConvBytes
namespace Go.Proofs.Qxb6001731aFmt
open Go.RowKit Go.Extern.Stop Go.Stop Go.Extern
set_option linter.unusedVariables false

theorem below_bytes (w : World) (e : TypeId) (s : ByteArray) : Below w.heap.size w (Lib.bytesWorld w e s) :=
  ⟨rfl, rfl, rfl, by rw [Lib.bytesWorld_size]; omega, fun k hk => Lib.bytesWorld_at_old w e s k hk⟩

set_option maxHeartbeats 400000 in
theorem marshal_yes (n p : Int) (w : World) (hT : Tab w) (n0 : -9223372036854775808 ≤ n) (n1 : n ≤ 9223372036854775807) (p0 : -9223372036854775808 ≤ p) (p1 : p ≤ 9223372036854775807) (hv : vld n p = true) :
    Calls Tryf.prog 8 #[.agg #[.int .i64 n, .int .i64 p]] w fun e w' => (∃ v : Value, e = .returned (.tuple #[v, .nilIface])) ∧ Below w.heap.size w w' := by
  have hcv := fun (w : World) (s : ByteArray) => Lib.run_convert_string_bytes (P := Tryf.prog) w 9 22 5 s Tryf.underlying9 Tryf.underlying22 Tryf.underlying5
  go_enter Tryf.func8, Tryf.ntmps8
  go_wp2_with fail
  refine (check_yes n p _ p1 hv).mono ?_
  rintro e w1 ⟨rfl, hb⟩
  obtain ⟨hc, hf⟩ := bcell hb
  have hb1 := below_alloc hb
  go_wp2_with fail
  refine (rateStr_any n p _ n0 n1 p0 p1 (tab_below hT hb1)).mono ?_
  rintro e w2 ⟨⟨s, rfl, hs⟩, hb2⟩
  clear hc hf
  go_wp2
  go_ret2
  exact ⟨⟨_, rfl⟩, below_more (below_more hb1 hb2) (below_bytes _ _ _)⟩

theorem fun_down (c s n p : Int) (hs : 1 ≤ s) (hsc : s ≤ c) (hf : funOk c n p = true) : funOk s n p = true ∧ vld n p = true := by
  simp only [funOk, Bool.and_eq_true, decide_eq_true_eq] at hf ⊢
  obtain ⟨hv, hc, hq⟩ := hf
  obtain ⟨hn, h0, hp⟩ := (vld_iff n p).1 hv
  refine ⟨⟨hv, hs, ?_⟩, hv⟩
  rw [Int.le_ediv_iff_mul_le (by omega)] at hq ⊢
  have i0 : 0 ≤ ivl n p := by
    obtain ⟨b0, b1⟩ := quo_bd n p hn h0
    unfold ivl
    omega
  have := Int.mul_le_mul_of_nonneg_left hsc i0
  omega

set_option maxHeartbeats 800000 in
theorem down_law (F : Interp) (c s n p : Int) (w : World) (hF : F.answers w.tape) (hT : Tab w) (c0 : -9223372036854775808 ≤ c) (c1 : c ≤ 9223372036854775807) (n0 : -9223372036854775808 ≤ n) (n1 : n ≤ 9223372036854775807) (p0 : -9223372036854775808 ≤ p) (p1 : p ≤ 9223372036854775807) :
    Calls Tryf.prog 6 #[.int .i64 c, .int .i64 s, .int .i64 n, .int .i64 p] w fun e w' => e = .returned (.bool true) ∧ Below w.heap.size w w' := by
  by_cases h1 : s < 1
  · go_enter Tryf.func6, Tryf.ntmps6
    go_wp2
    go_ret
    exact ⟨rfl, Below.refl _ _⟩
  by_cases h2 : c < s
  · go_enter Tryf.func6, Tryf.ntmps6
    go_wp2
    go_ret
    exact ⟨rfl, Below.refl _ _⟩
  have h1d : decide (s < 1) = false := by simpa using h1
  have h2d : decide (c < s) = false := by simpa using h2
  cases hr : funOk c n p
  · go_enter Tryf.func6, Tryf.ntmps6
    go_wp2_with fail
    refine (zzFunnel_any c n p _).mono ?_
    rintro e w1 ⟨rfl, hb1⟩
    go_wp2_with fail
    refine (zzFun_no F c n p _ (by rw [hb1.tape]; exact hF) (tab_below hT hb1) c0 c1 n0 n1 p0 p1 hr).mono ?_
    rintro e w2 ⟨⟨t, a, rfl⟩, hb2⟩
    go_wp2
    go_ret
    exact ⟨rfl, below_more hb1 hb2⟩
  · obtain ⟨hs, hv⟩ := fun_down c s n p (by omega) (by omega) hr
    go_enter Tryf.func6, Tryf.ntmps6
    go_wp2_with fail
    refine (zzFunnel_any c n p _).mono ?_
    rintro e w1 ⟨rfl, hb1⟩
    go_wp2_with fail
    refine (zzFun_yes c n p _ c1 p1 hr).mono ?_
    rintro e w2 ⟨rfl, hb2⟩
    go_wp2_with fail
    refine (zzFunnel_any s n p _).mono ?_
    rintro e w3 ⟨rfl, hb3⟩
    go_wp2_with fail
    refine (zzFun_yes s n p _ (by omega) p1 hs).mono ?_
    rintro e w4 ⟨rfl, hb4⟩
    go_wp2_with fail
    refine (zzRate_any n p _).mono ?_
    rintro e w5 ⟨rfl, hb5⟩
    have hb := below_more (below_more (below_more (below_more hb1 hb2) hb3) hb4) hb5
    go_wp2_with fail
    refine (marshal_yes n p _ (tab_below hT hb) n0 n1 p0 p1 hv).mono ?_
    rintro e w6 ⟨⟨v, rfl⟩, hb6⟩
    go_wp2
    go_ret
    exact ⟨rfl, below_more hb hb6⟩
end Go.Proofs.Qxb6001731aFmt
