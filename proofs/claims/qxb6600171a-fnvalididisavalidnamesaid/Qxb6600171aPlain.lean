/-
  THE PLAIN LAWS: no Go in sight: a UUID's text as the group parser reads it, and as validID reads it, place by place.
-/
import Derived.Laws.Bits64b
namespace Go.Proofs.Qxb6600171a

/-- A hexadecimal digit, in either case. -/
def hexI (c : Int) : Bool := decide ((48 ≤ c ∧ c ≤ 57) ∨ (97 ≤ c ∧ c ≤ 102) ∨ (65 ≤ c ∧ c ≤ 70))
theorem hexI_iff (c : Int) : hexI c = true ↔ (48 ≤ c ∧ c ≤ 57) ∨ (97 ≤ c ∧ c ≤ 102) ∨ (65 ≤ c ∧ c ≤ 70) := by unfold hexI; simp

/-- The places of the hyphens. -/
def sep (p : Nat) : Bool := decide (p = 8 ∨ p = 13 ∨ p = 18 ∨ p = 23)
theorem sep_iff (p : Nat) : sep p = true ↔ p = 8 ∨ p = 13 ∨ p = 18 ∨ p = 23 := by unfold sep; simp

/-- What may stand at place p. -/
def okAt (p : Nat) (c : Int) : Bool := if sep p then decide (c = 45) else hexI c

/-- From place p on. -/
def okFrom : Nat → List Int → Bool
  | _, [] => true
  | p, c :: cs => okAt p c && okFrom (p + 1) cs

/-- The g-th group's length; the place at which it begins. -/
def glen (g : Nat) : Nat := if g = 0 then 8 else if g = 4 then 12 else 4
def gat (g : Nat) : Nat := if g = 0 then 0 else if g = 1 then 9 else if g = 2 then 14 else if g = 3 then 19 else 24

/-- The group parser. -/
def mrun : List Int → Nat → Nat → Bool
  | [], g, r => decide (g = 4 ∧ r = 12)
  | c :: cs, g, r =>
    if c = 45 then (if 4 ≤ g ∨ r ≠ glen g then false else mrun cs (g + 1) 0)
    else if hexI c = false then false
    else if glen g < r + 1 then false
    else mrun cs g (r + 1)

theorem hex45 : hexI 45 = false := by decide

theorem mrun_eq (l : List Int) : ∀ (g r : Nat), g ≤ 4 → r ≤ glen g → mrun l g r = (decide (gat g + r + l.length = 36) && okFrom (gat g + r) l) := by
  induction l with
  | nil =>
    intro g r hg hr
    simp only [mrun, okFrom, Bool.and_true, List.length_nil]
    rw [Bool.eq_iff_iff]
    simp only [decide_eq_true_eq]
    have : g = 0 ∨ g = 1 ∨ g = 2 ∨ g = 3 ∨ g = 4 := by omega
    rcases this with rfl | rfl | rfl | rfl | rfl <;> simp [glen, gat] at hr ⊢ <;> omega
  | cons c cs ih =>
    intro g r hg hr
    have hg5 : g = 0 ∨ g = 1 ∨ g = 2 ∨ g = 3 ∨ g = 4 := by omega
    simp only [mrun, okFrom, List.length_cons]
    by_cases hc : c = 45
    · subst hc
      rw [if_pos rfl]
      by_cases hr2 : 4 ≤ g ∨ r ≠ glen g
      · rw [if_pos hr2]
        symm
        rw [Bool.and_eq_false_iff]
        by_cases hl : gat g + r + (cs.length + 1) = 36
        · right
          have hs : sep (gat g + r) = false := by
            rw [Bool.eq_false_iff, ne_eq, sep_iff]
            rcases hg5 with rfl | rfl | rfl | rfl | rfl <;> simp [glen, gat] at hr hr2 hl ⊢ <;> omega
          simp [okAt, hs, hex45]
        · left; simpa using hl
      · rw [if_neg hr2]
        have hg3 : g ≤ 3 := by omega
        have hrg : r = glen g := by omega
        have hs : sep (gat g + r) = true := by
          rw [sep_iff, hrg]
          rcases hg5 with rfl | rfl | rfl | rfl | rfl <;> simp [glen, gat]
          omega
        have hn : gat (g + 1) = gat g + r + 1 := by
          rw [hrg]
          rcases hg5 with rfl | rfl | rfl | rfl | rfl <;> simp [glen, gat]
          omega
        rw [ih (g + 1) 0 (by omega) (Nat.zero_le _), hn]
        simp only [okAt, hs, if_true, decide_true, Bool.true_and, Nat.add_zero]
        rw [show gat g + r + 1 + cs.length = gat g + r + (cs.length + 1) from by omega]
    · rw [if_neg hc]
      by_cases hh : hexI c = false
      · rw [if_pos hh]
        symm
        rw [Bool.and_eq_false_iff]
        right
        simp [okAt, hc, hh]
      · rw [if_neg hh]
        by_cases hr2 : glen g < r + 1
        · rw [if_pos hr2]
          symm
          rw [Bool.and_eq_false_iff]
          have hrg : r = glen g := by omega
          by_cases hg4 : g = 4
          · left
            subst hg4
            rw [hrg]
            simp [glen, gat]
          · right
            have hs : sep (gat g + r) = true := by
              rw [sep_iff, hrg]
              rcases hg5 with rfl | rfl | rfl | rfl | rfl <;> simp [glen, gat]
              exact hg4 rfl
            simp [okAt, hs, hc]
        · rw [if_neg hr2, ih g (r + 1) hg (by omega)]
          have hs : sep (gat g + r) = false := by
            rw [Bool.eq_false_iff, ne_eq, sep_iff]
            rcases hg5 with rfl | rfl | rfl | rfl | rfl <;> simp [glen, gat] at hr hr2 ⊢ <;> omega
          have hh' : hexI c = true := by simpa using hh
          simp only [okAt, hs, hh']
          rw [show gat g + (r + 1) + cs.length = gat g + r + (cs.length + 1) from by omega, show gat g + (r + 1) = gat g + r + 1 from by omega]
          simp

/-- The two readings are one. -/
theorem model_is (l : List Int) : mrun l 0 0 = (decide (l.length = 36) && okFrom 0 l) := by
  have := mrun_eq l 0 0 (by omega) (Nat.zero_le _)
  simpa [gat] using this

/-- 'c | 0x20' lies between 'a' and 'f' just where c is one of those letters, in either case. -/
theorem low_fin : ∀ c : Fin 256, (decide (97 ≤ bits .or .u8 ((c.val : Nat) : Int) 32) && decide (bits .or .u8 ((c.val : Nat) : Int) 32 ≤ 102)) = decide ((97 ≤ c.val ∧ c.val ≤ 102) ∨ (65 ≤ c.val ∧ c.val ≤ 70)) := by decide +kernel
theorem low_iff (c : Int) (h0 : 0 ≤ c) (h1 : c < 256) : (97 ≤ bits .or .u8 c 32 ∧ bits .or .u8 c 32 ≤ 102) ↔ ((97 ≤ c ∧ c ≤ 102) ∨ (65 ≤ c ∧ c ≤ 70)) := by
  obtain ⟨n, rfl⟩ := Int.eq_ofNat_of_zero_le h0
  have := low_fin ⟨n, by omega⟩
  simp only at this
  rw [Bool.eq_iff_iff] at this
  simp only [Bool.and_eq_true, decide_eq_true_eq] at this
  rw [this]
  omega
end Go.Proofs.Qxb6600171a
