/-
  THE HEAD OF THIS DUMP (eight roots: a text of 730 signs), READ ONCE BY ITS FIRST THREE WORDS: 'harness', a sum, 'cut'. WHY: the closed facts 'mayEnter', 'liftsFinal' and 'make' of a row read that text through String.toList: by the kernel's bare evaluation each of the three goes past the memory lid (10,240 MB); with the head as a list of signs, and what follows the third word left unread, each takes a second.
-/
import Derived.Test.Qxb6600180aRows
import Derived.JoinedOf
import Derived.KernelRfl
namespace Go.Proofs.Qxb6600180a
open Go

def headCodes : List Nat := [104, 97, 114, 110, 101, 115, 115]
def sumCodes : List Nat := [98, 99, 50, 99, 50, 51, 49, 57, 49, 52, 99, 54, 55, 51, 100, 52, 55, 97, 57, 54, 53, 99, 52, 55, 51, 101, 53, 100, 100, 56, 101, 50, 56, 52, 53, 52, 48, 48, 57, 99, 97, 101, 49, 99, 98, 56, 98, 51, 101, 102, 57, 97, 97, 101, 99, 97, 100, 48, 50, 49, 99, 50, 56, 53]
def cutCodes : List Nat := [99, 117, 116]
def restCodes : List Nat := [97, 116, 32, 101, 120, 97, 109, 112, 108, 101, 46, 99, 111, 109, 47, 99, 111, 110, 99, 111, 114, 100, 97, 116, 47, 99, 111, 110, 99, 111, 114, 100, 97, 116, 47, 122, 122, 108, 97, 119, 115, 95, 112, 107, 103, 95, 116, 114, 97, 110, 115, 97, 99, 116, 105, 111, 110, 95, 98, 49, 46, 70, 110, 83, 116, 97, 116, 117, 115, 79, 117, 116, 99, 111, 109, 101, 82, 97, 110, 103, 101, 32, 101, 120, 97, 109, 112, 108, 101, 46, 99, 111, 109, 47, 99, 111, 110, 99, 111, 114, 100, 97, 116, 47, 99, 111, 110, 99, 111, 114, 100, 97, 116, 47, 122, 122, 108, 97, 119, 115, 95, 112, 107, 103, 95, 116, 114, 97, 110, 115, 97, 99, 116, 105, 111, 110, 95, 98, 49, 46, 70, 110, 83, 116, 97, 116, 117, 115, 79, 117, 116, 99, 111, 109, 101, 68, 101, 99, 105, 115, 105, 111, 110, 83, 116, 105, 99, 107, 115, 32, 101, 120, 97, 109, 112, 108, 101, 46, 99, 111, 109, 47, 99, 111, 110, 99, 111, 114, 100, 97, 116, 47, 99, 111, 110, 99, 111, 114, 100, 97, 116, 47, 122, 122, 108, 97, 119, 115, 95, 112, 107, 103, 95, 116, 114, 97, 110, 115, 97, 99, 116, 105, 111, 110, 95, 98, 49, 46, 70, 110, 87, 105, 116, 104, 72, 101, 117, 114, 105, 115, 116, 105, 99, 115, 67, 111, 117, 110, 116, 77, 111, 100, 101, 108, 32, 101, 120, 97, 109, 112, 108, 101, 46, 99, 111, 109, 47, 99, 111, 110, 99, 111, 114, 100, 97, 116, 47, 99, 111, 110, 99, 111, 114, 100, 97, 116, 47, 122, 122, 108, 97, 119, 115, 95, 112, 107, 103, 95, 116, 114, 97, 110, 115, 97, 99, 116, 105, 111, 110, 95, 98, 49, 46, 70, 110, 87, 105, 116, 104, 72, 101, 117, 114, 105, 115, 116, 105, 99, 115, 83, 112, 108, 105, 116, 32, 101, 120, 97, 109, 112, 108, 101, 46, 99, 111, 109, 47, 99, 111, 110, 99, 111, 114, 100, 97, 116, 47, 99, 111, 110, 99, 111, 114, 100, 97, 116, 47, 122, 122, 108, 97, 119, 115, 95, 112, 107, 103, 95, 116, 114, 97, 110, 115, 97, 99, 116, 105, 111, 110, 95, 98, 49, 46, 70, 110, 87, 105, 116, 104, 72, 101, 117, 114, 105, 115, 116, 105, 99, 115, 79, 114, 100, 101, 114, 70, 114, 101, 101, 32, 101, 120, 97, 109, 112, 108, 101, 46, 99, 111, 109, 47, 99, 111, 110, 99, 111, 114, 100, 97, 116, 47, 99, 111, 110, 99, 111, 114, 100, 97, 116, 47, 122, 122, 108, 97, 119, 115, 95, 112, 107, 103, 95, 116, 114, 97, 110, 115, 97, 99, 116, 105, 111, 110, 95, 98, 49, 46, 70, 110, 83, 97, 103, 97, 83, 116, 97, 116, 117, 115, 75, 105, 110, 100, 83, 101, 116, 32, 101, 120, 97, 109, 112, 108, 101, 46, 99, 111, 109, 47, 99, 111, 110, 99, 111, 114, 100, 97, 116, 47, 99, 111, 110, 99, 111, 114, 100, 97, 116, 47, 122, 122, 108, 97, 119, 115, 95, 112, 107, 103, 95, 116, 114, 97, 110, 115, 97, 99, 116, 105, 111, 110, 95, 98, 49, 46, 70, 110, 83, 97, 103, 97, 83, 116, 97, 116, 117, 115, 68, 111, 117, 98, 108, 101, 100, 32, 101, 120, 97, 109, 112, 108, 101, 46, 99, 111, 109, 47, 99, 111, 110, 99, 111, 114, 100, 97, 116, 47, 99, 111, 110, 99, 111, 114, 100, 97, 116, 47, 122, 122, 108, 97, 119, 115, 95, 112, 107, 103, 95, 116, 114, 97, 110, 115, 97, 99, 116, 105, 111, 110, 95, 98, 49, 46, 70, 110, 83, 97, 103, 97, 70, 97, 105, 108, 117, 114, 101, 65, 98, 115, 111, 114, 98, 115]

theorem words_cons (r : List Char) : ∀ w : List Char, (∀ c ∈ w, c ≠ ' ') → wordsSigns (w ++ ' ' :: r) = w :: wordsSigns r := by
  intro w
  induction w with
  | nil => intro _; rfl
  | cons c w ih =>
    intro h
    have hc : c ≠ ' ' := h c List.mem_cons_self
    have hw := ih fun x hx => h x (List.mem_cons_of_mem _ hx)
    rw [List.cons_append, wordsSigns, hw]
    exact hc

theorem init_is : Try.prog.initOrder = String.ofList (headCodes.map Char.ofNat ++ ' ' :: (sumCodes.map Char.ofNat ++ ' ' :: (cutCodes.map Char.ofNat ++ ' ' :: restCodes.map Char.ofNat))) := by kernel_rfl

theorem noSpace_head : ∀ c ∈ headCodes.map Char.ofNat, c ≠ ' ' := by decide
theorem noSpace_sum : ∀ c ∈ sumCodes.map Char.ofNat, c ≠ ' ' := by decide
theorem noSpace_cut : ∀ c ∈ cutCodes.map Char.ofNat, c ≠ ' ' := by decide

/-- The head's words, the first three read. -/
theorem words_are : wordsSigns Try.prog.initOrder.toList = headCodes.map Char.ofNat :: sumCodes.map Char.ofNat :: cutCodes.map Char.ofNat :: wordsSigns (restCodes.map Char.ofNat) := by
  rw [init_is, String.toList_ofList, words_cons _ _ noSpace_head, words_cons _ _ noSpace_sum, words_cons _ _ noSpace_cut]

theorem behind_is (R : List (List Char)) : behindMainWord (headCodes.map Char.ofNat :: sumCodes.map Char.ofNat :: cutCodes.map Char.ofNat :: R) = cutCodes.map Char.ofNat :: R := by kernel_rfl

theorem behind_words : ∃ R, behindMainWord (wordsSigns Try.prog.initOrder.toList) = cutCodes.map Char.ofNat :: R :=
  ⟨_, by rw [words_are, behind_is]⟩

theorem strip_is (R : List (List Char)) : stripLifts liftWords (cutCodes.map Char.ofNat :: R) = ([], cutCodes.map Char.ofNat :: R) := by kernel_rfl

theorem eq_gc : (cutCodes.map Char.ofNat == "gc".toList) = false := by kernel_rfl
theorem eq_spec : (cutCodes.map Char.ofNat == "spec".toList) = false := by kernel_rfl
theorem eq_carried : (cutCodes.map Char.ofNat == "carried".toList) = false := by kernel_rfl
theorem eq_cut : (cutCodes.map Char.ofNat == "cut".toList) = true := by kernel_rfl
theorem eq_cut' : (some (cutCodes.map Char.ofNat) == some "cut".toList) = true := by kernel_rfl
theorem eq_carried' : (some (cutCodes.map Char.ofNat) == some "carried".toList) = false := by kernel_rfl

/-! Of whatever program with such a head: nothing is evaluated. -/
theorem lifts_of (P : Program) (R : List (List Char)) (h : behindMainWord (wordsSigns P.initOrder.toList) = cutCodes.map Char.ofNat :: R) : P.headLifts = [] := by
  unfold Program.headLifts
  rw [h, strip_is]
  simp only [List.head?_cons, eq_cut', if_true]
theorem final_of (P : Program) (R : List (List Char)) (h : behindMainWord (wordsSigns P.initOrder.toList) = cutCodes.map Char.ofNat :: R) : P.liftsFinal = false := by
  unfold Program.liftsFinal
  rw [h, lifts_of P R h]
  simp only [List.head?_cons, eq_carried', Bool.false_and, Bool.false_or]
  rfl
theorem make_of (P : Program) (R : List (List Char)) (h : behindMainWord (wordsSigns P.initOrder.toList) = cutCodes.map Char.ofNat :: R) : P.make = some .cut := by
  unfold Program.make
  rw [h]
  simp only [eq_gc, eq_spec, eq_cut, Bool.or_false, Bool.true_or, if_true, Bool.false_eq_true, if_false]
theorem enter_of (P : Program) (R : List (List Char)) (h : behindMainWord (wordsSigns P.initOrder.toList) = cutCodes.map Char.ofNat :: R) (h1 : P.laysLater = false) (h2 : P.bearsReflect = false) (h3 : P.doorFits [] = true) : P.mayEnter = true := by
  unfold Program.mayEnter
  rw [h]
  simp only [strip_is, List.head?_cons, eq_cut', h1, h2, h3, Bool.not_false, Bool.or_true, Bool.and_true, List.contains_nil]

theorem make_is : Try.prog.make = some .cut := behind_words.elim fun R h => make_of Try.prog R h
theorem lifts_final : Try.prog.liftsFinal = false := behind_words.elim fun R h => final_of Try.prog R h
theorem may_enter : Try.prog.mayEnter = true := behind_words.elim fun R h => enter_of Try.prog R h (by kernel_rfl) (by kernel_rfl) (by kernel_rfl)

theorem and_t {a b : Bool} (ha : a = true) (hb : b = true) : (a && b) = true := by rw [ha, hb]; rfl

theorem final_row (c : OpenClaim) (h : c.lifted = false) : (c.lifted == Try.prog.liftsFinal) = true := by rw [h, lifts_final]; rfl
theorem make_row (c : OpenClaim) (h : c.make = .cut) : (Try.prog.make == some c.make) = true := by rw [h, make_is]; rfl
end Go.Proofs.Qxb6600180a
