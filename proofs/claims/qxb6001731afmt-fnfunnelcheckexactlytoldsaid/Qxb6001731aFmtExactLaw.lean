import Derived.Test.Qxb6001731aFmtFunnel
import Derived.Test.Qxb6001731aFmtMul
import Derived.WalkKit
import Derived.WalkSpells
namespace Go.Proofs.Qxb6001731aFmt
open Go.RowKit Go.Extern.Stop Go.Stop Go.Extern
set_option linter.unusedVariables false

theorem fun_vld (c n p : Int) (h : vld n p = false) : funOk c n p = false := by rw [funOk, h]; rfl
theorem fun_low (c n p : Int) (h : c < 1) : funOk c n p = false := by
  rw [Bool.eq_false_iff]
  intro hf
  simp only [funOk, Bool.and_eq_true, decide_eq_true_eq] at hf
  omega
theorem fun_iff (c n p : Int) (hv : vld n p = true) (hc : 1 ≤ c) : funOk c n p = true ↔ ivl n p * c ≤ 9223372036854775807 := by
  simp only [funOk, hv, Bool.true_and, decide_eq_true_eq]
  rw [Int.le_ediv_iff_mul_le (by omega)]
  exact ⟨fun h => h.2, fun h => ⟨hc, h⟩⟩

set_option maxHeartbeats 800000 in
theorem exact_law (F : Interp) (c n p : Int) (w : World) (hF : F.answers w.tape) (hT : Tab w) (c0 : -9223372036854775808 ≤ c) (c1 : c ≤ 9223372036854775807) (n0 : -9223372036854775808 ≤ n) (n1 : n ≤ 9223372036854775807) (p0 : -9223372036854775808 ≤ p) (p1 : p ≤ 9223372036854775807) :
    Calls Tryf.prog 5 #[.int .i64 c, .int .i64 n, .int .i64 p] w fun e w' => e = .returned (.bool true) ∧ Below w.heap.size w w' := by
  cases hv : vld n p
  · have hr := fun_vld c n p hv
    go_enter Tryf.func5, Tryf.ntmps5
    go_wp2_with fail
    refine (zzFunnel_any c n p _).mono ?_
    rintro e w1 ⟨rfl, hb1⟩
    go_wp2_with fail
    refine (zzFun_no F c n p _ (by rw [hb1.tape]; exact hF) (tab_below hT hb1) c0 c1 n0 n1 p0 p1 hr).mono ?_
    rintro e w2 ⟨⟨t, a, rfl⟩, hb2⟩
    go_wp2_with fail
    refine (zzValid_any n p _ p1).mono ?_
    rintro e w3 ⟨rfl, rfl⟩
    go_wp2
    go_ret
    exact ⟨rfl, below_more hb1 hb2⟩
  · obtain ⟨hn, h0, hq⟩ := (vld_iff n p).1 hv
    by_cases hc : 1 ≤ c
    · obtain ⟨b0, b1⟩ := quo_bd n p hn h0
      have i0 : 0 ≤ p / n - p / n % 1000 := by omega
      have hfit := words_fit (p / n - p / n % 1000) c i0 (by omega)
      have hfi := fun_iff c n p hv hc
      rw [ivl, ← hfit] at hfi
      have Hfi : Hid (funOk c n p = true ↔ hiI (p / n - p / n % 1000) c = 0 ∧ loI (p / n - p / n % 1000) c ≤ 9223372036854775807) := hfi
      clear hfit hfi hq
      by_cases hz : hiI (p / n - p / n % 1000) c = 0
      · have hz' : (hiI (p / n - p / n % 1000) c == 0) = true := by simp [hz]
        by_cases hl : loI (p / n - p / n % 1000) c ≤ 9223372036854775807
        · have hr : funOk c n p = true := Hfi.out.2 ⟨hz, hl⟩
          clear hz Hfi
          go_enter Tryf.func5, Tryf.ntmps5
          go_wp2_with fail
          refine (zzFunnel_any c n p _).mono ?_
          rintro e w1 ⟨rfl, hb1⟩
          go_wp2_with fail
          refine (zzFun_yes c n p _ c1 p1 hr).mono ?_
          rintro e w2 ⟨rfl, hb2⟩
          go_wp2_with fail
          refine (zzValid_any n p _ p1).mono ?_
          rintro e w3 ⟨rfl, rfl⟩
          go_wp2_with fail
          refine (mul_int (p / n - p / n % 1000) c i0 (by omega) (by omega) (by omega) _).mono ?_
          rintro e w4 ⟨rfl, rfl⟩
          go_wp2
          go_ret
          exact ⟨rfl, below_more hb1 hb2⟩
        · have hr : funOk c n p = false := by
            rw [Bool.eq_false_iff]
            intro h
            exact hl (Hfi.out.1 h).2
          have hld : decide (loI (p / n - p / n % 1000) c ≤ 9223372036854775807) = false := by simpa using hl
          clear hz Hfi
          go_enter Tryf.func5, Tryf.ntmps5
          go_wp2_with fail
          refine (zzFunnel_any c n p _).mono ?_
          rintro e w1 ⟨rfl, hb1⟩
          go_wp2_with fail
          refine (zzFun_no F c n p _ (by rw [hb1.tape]; exact hF) (tab_below hT hb1) c0 c1 n0 n1 p0 p1 hr).mono ?_
          rintro e w2 ⟨⟨t, a, rfl⟩, hb2⟩
          go_wp2_with fail
          refine (zzValid_any n p _ p1).mono ?_
          rintro e w3 ⟨rfl, rfl⟩
          go_wp2_with fail
          refine (mul_int (p / n - p / n % 1000) c i0 (by omega) (by omega) (by omega) _).mono ?_
          rintro e w4 ⟨rfl, rfl⟩
          go_wp2
          go_ret
          exact ⟨rfl, below_more hb1 hb2⟩
      · have hr : funOk c n p = false := by
          rw [Bool.eq_false_iff]
          intro h
          exact hz (Hfi.out.1 h).1
        have hz' : (hiI (p / n - p / n % 1000) c == 0) = false := by simp [hz]
        clear hz Hfi
        go_enter Tryf.func5, Tryf.ntmps5
        go_wp2_with fail
        refine (zzFunnel_any c n p _).mono ?_
        rintro e w1 ⟨rfl, hb1⟩
        go_wp2_with fail
        refine (zzFun_no F c n p _ (by rw [hb1.tape]; exact hF) (tab_below hT hb1) c0 c1 n0 n1 p0 p1 hr).mono ?_
        rintro e w2 ⟨⟨t, a, rfl⟩, hb2⟩
        go_wp2_with fail
        refine (zzValid_any n p _ p1).mono ?_
        rintro e w3 ⟨rfl, rfl⟩
        go_wp2_with fail
        refine (mul_int (p / n - p / n % 1000) c i0 (by omega) (by omega) (by omega) _).mono ?_
        rintro e w4 ⟨rfl, rfl⟩
        go_wp2
        go_ret
        exact ⟨rfl, below_more hb1 hb2⟩
    · have hr := fun_low c n p (by omega)
      have hcd : decide (1 ≤ c) = false := by simpa using hc
      clear hq
      go_enter Tryf.func5, Tryf.ntmps5
      go_wp2_with fail
      refine (zzFunnel_any c n p _).mono ?_
      rintro e w1 ⟨rfl, hb1⟩
      go_wp2_with fail
      refine (zzFun_no F c n p _ (by rw [hb1.tape]; exact hF) (tab_below hT hb1) c0 c1 n0 n1 p0 p1 hr).mono ?_
      rintro e w2 ⟨⟨t, a, rfl⟩, hb2⟩
      go_wp2_with fail
      refine (zzValid_any n p _ p1).mono ?_
      rintro e w3 ⟨rfl, rfl⟩
      go_wp2
      go_ret
      exact ⟨rfl, below_more hb1 hb2⟩
end Go.Proofs.Qxb6001731aFmt
