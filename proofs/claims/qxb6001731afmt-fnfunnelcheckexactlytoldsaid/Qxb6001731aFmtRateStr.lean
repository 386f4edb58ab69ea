import Derived.Test.Qxb6001731aFmtRoll
import Derived.Test.Qxb6001731aFmtShelf
import Derived.WalkKit
import Derived.WalkSpells
import Derived.Lib.SmallJoins
import Derived.Deep.RegionHeld3
import Derived.Stop.FmtTextKit
namespace Go.Proofs.Qxb6001731aFmt
open Go.RowKit Go.Extern.Stop Go.Stop Go.Extern
set_option linter.unusedVariables false

/-- The library's table of powers of ten lies as its initialiser lays it. -/
def Tab (w : World) : Prop := Lib.TabIs Tryf.prog w "internal/strconv.uint64pow10" .u64 Lib.pow10Tab
theorem tab_below {w w' : World} (h : Tab w) (hb : Below w.heap.size w w') : Tab w' :=
  Joins.tab_stays (g := 0) (by kernel_rfl) h hb (Nat.le_refl _)

theorem below_grow (w : World) (k : Nat) (os : Array Obj) : Below w.heap.size w (Sort.grow (w.drewN k) os) := by
  refine ⟨rfl, rfl, rfl, by simp [Sort.grow, World.drewN], fun j hj => ?_⟩
  simp [Sort.grow, World.drewN, Array.getElem?_append, hj]

theorem itoa_len (n : Int) (h0 : -9223372036854775808 ≤ n) (h1 : n ≤ 9223372036854775807) : (⟨(Lib.itoa n).toArray⟩ : ByteArray).size ≤ 21 := by
  have hw : (Lit.int .i64 n).wf = true := by simp [Lit.wf, IntKind.min, IntKind.max, IntKind.signed, IntKind.bits]; omega
  have := FmtText.itoa_length_le hw
  simpa [ByteArray.size] using this

theorem itoa_any (n : Int) (w : World) (h0 : -9223372036854775808 ≤ n) (h1 : n ≤ 9223372036854775807) (hT : Tab w) :
    Calls Tryf.prog 27 #[.int .i64 n] w fun e w' => (∃ s : ByteArray, e = .returned (.string s) ∧ s.size ≤ 21) ∧ Below w.heap.size w w' := by
  refine (Tryf.strconv_Itoa n h0 h1 w hT).mono ?_
  rintro e w' ⟨rfl, k, os, rfl⟩
  exact ⟨⟨_, rfl, itoa_len n h0 h1⟩, below_grow w k os⟩

/-- What the region of (Rate).String asks of a world: the boxed receiver lies in block b; below b all is as it was in w. -/
theorem itoa_held (n p : Int) (w W : World) (h0 : -9223372036854775808 ≤ n) (h1 : n ≤ 9223372036854775807) (hT : Tab w)
    (hS : W.cell? ⟨w.heap.size, 0, none⟩ = some (.int .i64 n) ∧ W.cell? ⟨w.heap.size, 1, none⟩ = some (.int .i64 p) ∧ Below w.heap.size w W) :
    Calls Tryf.prog 27 #[.int .i64 n] W fun e w' => (∃ s : ByteArray, e = .returned (.string s) ∧ s.size ≤ 21) ∧ w'.cell? ⟨w.heap.size, 0, none⟩ = some (.int .i64 n) ∧ w'.cell? ⟨w.heap.size, 1, none⟩ = some (.int .i64 p) ∧ Below w.heap.size w w' := by
  obtain ⟨c0, c1, hb⟩ := hS
  have hlt : w.heap.size < W.heap.size := World.block_lt_of_cell? _ _ c0
  refine (itoa_any n W h0 h1 (tab_below hT hb)).mono ?_
  rintro e w' ⟨he, hb'⟩
  exact ⟨he, by rw [hb'.cell (p := ⟨w.heap.size, 0, none⟩) hlt]; exact c0, by rw [hb'.cell (p := ⟨w.heap.size, 1, none⟩) hlt]; exact c1, below_more hb hb'⟩

theorem dur_held (n p : Int) (w W : World) (h0 : -9223372036854775808 ≤ p) (h1 : p ≤ 9223372036854775807)
    (hS : W.cell? ⟨w.heap.size, 0, none⟩ = some (.int .i64 n) ∧ W.cell? ⟨w.heap.size, 1, none⟩ = some (.int .i64 p) ∧ Below w.heap.size w W) :
    Calls Tryf.prog 28 #[.int .i64 p] W fun e w' => (∃ s : ByteArray, e = .returned (.string s) ∧ s.size ≤ 32) ∧ w'.cell? ⟨w.heap.size, 0, none⟩ = some (.int .i64 n) ∧ w'.cell? ⟨w.heap.size, 1, none⟩ = some (.int .i64 p) ∧ Below w.heap.size w w' := by
  obtain ⟨c0, c1, hb⟩ := hS
  have hlt : w.heap.size < W.heap.size := World.block_lt_of_cell? _ _ c0
  refine (dur_any p W h0 h1).mono ?_
  rintro e w' ⟨he, hb'⟩
  exact ⟨he, by rw [hb'.cell (p := ⟨w.heap.size, 0, none⟩) hlt]; exact c0, by rw [hb'.cell (p := ⟨w.heap.size, 1, none⟩) hlt]; exact c1, below_more hb hb'⟩

set_option maxHeartbeats 800000 in
theorem rateStr_any (n p : Int) (w : World) (n0 : -9223372036854775808 ≤ n) (n1 : n ≤ 9223372036854775807) (p0 : -9223372036854775808 ≤ p) (p1 : p ≤ 9223372036854775807) (hT : Tab w) :
    Calls Tryf.prog 20 #[.agg #[.int .i64 n, .int .i64 p]] w fun e w' => (∃ s : ByteArray, e = .returned (.string s) ∧ s.size ≤ 60) ∧ Below w.heap.size w w' := by
  go_enter Tryf.func20, Tryf.ntmps20
  go_wp2
  go_region_held3 (fun w' => w'.cell? ⟨w.heap.size, 0, none⟩ = some (.int .i64 n) ∧ w'.cell? ⟨w.heap.size, 1, none⟩ = some (.int .i64 p) ∧ Below w.heap.size w w') (first | assumption | exact ⟨by go_simp, by go_simp, ((Below.refl _ _).alloc (Nat.le_refl _) _).drew⟩)
    (first
      | (go_at_call 27; refine (itoa_held n p w _ n0 n1 hT (by assumption)).mono ?_; rintro e w' ⟨⟨s, rfl, hs⟩, hS⟩; have hq : ¬ 9223372036854775807 < s.size + 1 := by omega)
      | (go_at_call 28; refine (dur_held n p w _ p0 p1 (by assumption)).mono ?_; rintro e w' ⟨⟨t, rfl, ht⟩, hS⟩; have hq2 : ¬ 9223372036854775807 < s.size + 1 + t.size := by omega))
  go_wp2
  go_ret
  exact ⟨⟨_, rfl, by simp only [ByteArray.size_append]; have : (⟨#[47]⟩ : ByteArray).size = 1 := rfl; omega⟩, hS.2.2⟩
end Go.Proofs.Qxb6001731aFmt
