/-
  fmt.Errorf BY ITS CONTRACTS, one a format of this program's road: for every F. The text is not told: a law over 'err == nil' does not ask for it.
-/
import Derived.Test.Qxb6001731aFmtFacts
import Derived.Test.Qxb6001731aFmtDur2
import Derived.WalkKit
import Derived.WalkSpells
namespace Go.Proofs.Qxb6001731aFmt
open Go.RowKit Go.Extern.Stop Go.Stop Go.Extern
set_option linter.unusedVariables false

set_option maxHeartbeats 800000 in
theorem errorf_limit (F : Interp) (s : ByteArray) (n : Int) (blk : Nat) (w : World) (hF : F.answers w.tape)
    (hc0 : w.cell? ⟨blk, 0, none⟩ = some (.iface 9 (.string s))) (hc1 : w.cell? ⟨blk, 1, none⟩ = some (.iface 3 (.int .i64 n))) :
    Calls Tryf.prog 26 #[.string ⟨#[37, 115, 58, 32, 116, 104, 101, 32, 108, 105, 109, 105, 116, 32, 109, 117, 115, 116, 32, 98, 101, 32, 97, 116, 32, 108, 101, 97, 115, 116, 32, 49, 44, 32, 110, 111, 116, 32, 37, 100]⟩, .slice (some ⟨blk, 0, none⟩) 2 2] w fun e w' => (∃ a : Addr, e = .returned (.iface 61 (.pointer (some a)))) ∧ Below w.heap.size w w' := by
  have hF' := answers_open hF
  go_enter Tryf.func26, Tryf.ntmps26
  go_wp2
  apply rows_value nextTurns
  case hr =>
    go_simp
    exact ⟨rfl, rfl⟩
  case h =>
    go_wp2
    go_ret
    exact ⟨⟨_, rfl⟩, ((Below.refl _ _).alloc (Nat.le_refl _) _).drew⟩

set_option maxHeartbeats 800000 in
theorem errorf_bucket (F : Interp) (n : Int) (blk : Nat) (w : World) (hF : F.answers w.tape)
    (hc0 : w.cell? ⟨blk, 0, none⟩ = some (.iface 3 (.int .i64 n))) :
    Calls Tryf.prog 26 #[.string ⟨#[114, 111, 108, 108, 105, 110, 103, 58, 32, 116, 104, 101, 32, 119, 105, 110, 100, 111, 119, 32, 109, 117, 115, 116, 32, 98, 101, 32, 99, 117, 116, 32, 105, 110, 116, 111, 32, 97, 116, 32, 108, 101, 97, 115, 116, 32, 49, 32, 98, 117, 99, 107, 101, 116, 44, 32, 110, 111, 116, 32, 37, 100]⟩, .slice (some ⟨blk, 0, none⟩) 1 1] w fun e w' => (∃ a : Addr, e = .returned (.iface 61 (.pointer (some a)))) ∧ Below w.heap.size w w' := by
  have hF' := answers_open hF
  go_enter Tryf.func26, Tryf.ntmps26
  go_wp2
  apply rows_value nextTurns
  case hr =>
    go_simp
    exact ⟨rfl, rfl⟩
  case h =>
    go_wp2
    go_ret
    exact ⟨⟨_, rfl⟩, ((Below.refl _ _).alloc (Nat.le_refl _) _).drew⟩

set_option maxHeartbeats 800000 in
theorem errorf_cap (F : Interp) (n : Int) (blk : Nat) (w : World) (hF : F.answers w.tape)
    (hc0 : w.cell? ⟨blk, 0, none⟩ = some (.iface 3 (.int .i64 n))) :
    Calls Tryf.prog 26 #[.string ⟨#[102, 117, 110, 110, 101, 108, 58, 32, 116, 104, 101, 32, 99, 97, 112, 97, 99, 105, 116, 121, 32, 109, 117, 115, 116, 32, 98, 101, 32, 97, 116, 32, 108, 101, 97, 115, 116, 32, 49, 44, 32, 110, 111, 116, 32, 37, 100]⟩, .slice (some ⟨blk, 0, none⟩) 1 1] w fun e w' => (∃ a : Addr, e = .returned (.iface 61 (.pointer (some a)))) ∧ Below w.heap.size w w' := by
  have hF' := answers_open hF
  go_enter Tryf.func26, Tryf.ntmps26
  go_wp2
  apply rows_value nextTurns
  case hr =>
    go_simp
    exact ⟨rfl, rfl⟩
  case h =>
    go_wp2
    go_ret
    exact ⟨⟨_, rfl⟩, ((Below.refl _ _).alloc (Nat.le_refl _) _).drew⟩

set_option maxHeartbeats 800000 in
theorem errorf_window (F : Interp) (s : ByteArray) (d : Int) (blk : Nat) (w : World) (hF : F.answers w.tape) (d0 : -9223372036854775808 ≤ d) (d1 : d ≤ 9223372036854775807)
    (hc0 : w.cell? ⟨blk, 0, none⟩ = some (.iface 9 (.string s))) (hc1 : w.cell? ⟨blk, 1, none⟩ = some (.iface 26 (.int .i64 d))) :
    Calls Tryf.prog 26 #[.string ⟨#[37, 115, 58, 32, 116, 104, 101, 32, 119, 105, 110, 100, 111, 119, 32, 109, 117, 115, 116, 32, 98, 101, 32, 97, 32, 119, 104, 111, 108, 101, 32, 110, 117, 109, 98, 101, 114, 32, 111, 102, 32, 109, 105, 99, 114, 111, 115, 101, 99, 111, 110, 100, 115, 44, 32, 97, 116, 32, 108, 101, 97, 115, 116, 32, 49, 194, 181, 115, 44, 32, 110, 111, 116, 32, 37, 118]⟩, .slice (some ⟨blk, 0, none⟩) 2 2] w fun e w' => (∃ a : Addr, e = .returned (.iface 61 (.pointer (some a)))) ∧ Below w.heap.size w w' := by
  have hF' := answers_open hF
  have hb : blk < w.heap.size := World.block_lt_of_cell? _ _ hc0
  go_enter Tryf.func26, Tryf.ntmps26
  go_wp2
  apply rows_call nextTurns
  case hr =>
    go_simp
    exact ⟨⟨rfl, rfl, rfl⟩, rfl⟩
  case hi => exact invoke26 _ _
  case hc =>
    refine (dur_any d _ d0 d1).mono fun e w₃ ⟨⟨t, he, ht⟩, hx⟩ => ?_
    subst he
    have hF3 := answers_open (show F.answers w₃.tape by rw [hx.tape]; exact hF)
    have hc03 : w₃.cell? ⟨blk, 0, none⟩ = some (.iface 9 (.string s)) := by rw [hx.cell hb]; exact hc0
    have hc13 : w₃.cell? ⟨blk, 1, none⟩ = some (.iface 26 (.int .i64 d)) := by rw [hx.cell hb]; exact hc1
    apply rows_value nextReturned
    case hr =>
      go_simp
      exact ⟨rfl, rfl⟩
    case h =>
      go_wp2
      go_ret
      exact ⟨⟨_, rfl⟩, (hx.alloc hx.size _).drew⟩

set_option maxHeartbeats 800000 in
theorem errorf_cut (F : Interp) (d n : Int) (blk : Nat) (w : World) (hF : F.answers w.tape) (d0 : -9223372036854775808 ≤ d) (d1 : d ≤ 9223372036854775807)
    (hc0 : w.cell? ⟨blk, 0, none⟩ = some (.iface 26 (.int .i64 d))) (hc1 : w.cell? ⟨blk, 1, none⟩ = some (.iface 3 (.int .i64 n))) :
    Calls Tryf.prog 26 #[.string ⟨#[114, 111, 108, 108, 105, 110, 103, 58, 32, 97, 32, 119, 105, 110, 100, 111, 119, 32, 111, 102, 32, 37, 118, 32, 100, 111, 101, 115, 32, 110, 111, 116, 32, 99, 117, 116, 32, 105, 110, 116, 111, 32, 37, 100, 32, 98, 117, 99, 107, 101, 116, 115, 32, 111, 102, 32, 119, 104, 111, 108, 101, 32, 109, 105, 99, 114, 111, 115, 101, 99, 111, 110, 100, 115]⟩, .slice (some ⟨blk, 0, none⟩) 2 2] w fun e w' => (∃ a : Addr, e = .returned (.iface 61 (.pointer (some a)))) ∧ Below w.heap.size w w' := by
  have hF' := answers_open hF
  have hb : blk < w.heap.size := World.block_lt_of_cell? _ _ hc0
  go_enter Tryf.func26, Tryf.ntmps26
  go_wp2
  apply rows_call nextTurns
  case hr =>
    go_simp
    exact ⟨⟨rfl, rfl, rfl⟩, rfl⟩
  case hi => exact invoke26 _ _
  case hc =>
    refine (dur_any d _ d0 d1).mono fun e w₃ ⟨⟨t, he, ht⟩, hx⟩ => ?_
    subst he
    have hF3 := answers_open (show F.answers w₃.tape by rw [hx.tape]; exact hF)
    have hc03 : w₃.cell? ⟨blk, 0, none⟩ = some (.iface 26 (.int .i64 d)) := by rw [hx.cell hb]; exact hc0
    have hc13 : w₃.cell? ⟨blk, 1, none⟩ = some (.iface 3 (.int .i64 n)) := by rw [hx.cell hb]; exact hc1
    apply rows_value nextReturned
    case hr =>
      go_simp
      exact ⟨rfl, rfl⟩
    case h =>
      go_wp2
      go_ret
      exact ⟨⟨_, rfl⟩, (hx.alloc hx.size _).drew⟩

set_option maxHeartbeats 800000 in
theorem errorf_rate (F : Interp) (s t : ByteArray) (a : Addr) (blk : Nat) (w : World) (hF : F.answers w.tape)
    (hc0 : w.cell? ⟨blk, 0, none⟩ = some (.iface 9 (.string s))) (hc1 : w.cell? ⟨blk, 1, none⟩ = some (.iface 61 (.pointer (some a)))) (ha : w.cell? a = some (.string t)) :
    Calls Tryf.prog 26 #[.string ⟨#[114, 97, 116, 101, 32, 37, 113, 58, 32, 37, 119]⟩, .slice (some ⟨blk, 0, none⟩) 2 2] w fun e w' => (∃ (a' : Addr) (t' : ByteArray), e = .returned (.iface 66 (.pointer (some a'))) ∧ w'.cell? a' = some (.string t')) ∧ Below w.heap.size w w' := by
  have hF' := answers_open hF
  have hop := op61_119 "fmt.errorf" a t w ha
  go_enter Tryf.func26, Tryf.ntmps26
  go_wp2
  apply rows_value nextTurns
  case hr =>
    go_simp
    exact ⟨rfl, rfl⟩
  case h =>
    go_wp2
    go_ret
    exact ⟨⟨_, _, rfl, by go_simp; rfl⟩, ((Below.refl _ _).alloc (Nat.le_refl _) _).drew⟩

set_option maxHeartbeats 800000 in
theorem errorf_funnel (F : Interp) (t : ByteArray) (a : Addr) (blk : Nat) (w : World) (hF : F.answers w.tape)
    (hc0 : w.cell? ⟨blk, 0, none⟩ = some (.iface 66 (.pointer (some a)))) (ha : w.cell? a = some (.string t)) :
    Calls Tryf.prog 26 #[.string ⟨#[102, 117, 110, 110, 101, 108, 58, 32, 37, 119]⟩, .slice (some ⟨blk, 0, none⟩) 1 1] w fun e w' => (∃ (a' : Addr), e = .returned (.iface 66 (.pointer (some a')))) ∧ Below w.heap.size w w' := by
  have hF' := answers_open hF
  have hop := op66_119 "fmt.errorf" a t w ha
  go_enter Tryf.func26, Tryf.ntmps26
  go_wp2
  apply rows_value nextTurns
  case hr =>
    go_simp
    exact ⟨rfl, rfl⟩
  case h =>
    go_wp2
    go_ret
    exact ⟨⟨_, rfl⟩, ((Below.refl _ _).alloc (Nat.le_refl _) _).drew⟩
end Go.Proofs.Qxb6001731aFmt
