/-
  THE HEAD OF THIS DUMP (nine roots: a text of 949 signs), READ ONCE BY ITS FIRST THREE WORDS: 'harness', a sum, 'cut'. WHY: the closed facts 'mayEnter', 'liftsFinal' and 'make' of a row read that text through String.toList: by the kernel's bare evaluation each of the three goes past the memory lid (10,240 MB); with the head as a list of signs, and what follows the third word left unread, each takes a second.
-/
import Derived.Test.Qxb6600171aRows
import Derived.JoinedOf
import Derived.KernelRfl
namespace Go.Proofs.Qxb6600171a
open Go

def headCodes : List Nat := [104, 97, 114, 110, 101, 115, 115]
def sumCodes : List Nat := [50, 101, 57, 49, 48, 48, 102, 99, 99, 56, 52, 102, 54, 50, 48, 99, 99, 101, 53, 99, 98, 57, 55, 50, 57, 98, 99, 52, 56, 51, 55, 54, 56, 57, 97, 54, 55, 98, 53, 100, 54, 98, 99, 102, 98, 102, 52, 53, 102, 100, 102, 99, 49, 57, 57, 50, 101, 100, 56, 48, 50, 100, 102, 57]
def cutCodes : List Nat := [99, 117, 116]
def restCodes : List Nat := [97, 116, 32, 101, 120, 97, 109, 112, 108, 101, 46, 99, 111, 109, 47, 99, 111, 117, 110, 116, 101, 114, 112, 111, 105, 115, 101, 47, 99, 111, 117, 110, 116, 101, 114, 112, 111, 105, 115, 101, 47, 122, 122, 108, 97, 119, 115, 95, 105, 110, 116, 101, 114, 110, 97, 108, 95, 108, 101, 100, 103, 101, 114, 95, 98, 49, 46, 70, 110, 86, 97, 108, 105, 100, 73, 68, 77, 97, 116, 99, 104, 101, 115, 71, 114, 111, 117, 112, 80, 97, 114, 115, 101, 114, 32, 101, 120, 97, 109, 112, 108, 101, 46, 99, 111, 109, 47, 99, 111, 117, 110, 116, 101, 114, 112, 111, 105, 115, 101, 47, 99, 111, 117, 110, 116, 101, 114, 112, 111, 105, 115, 101, 47, 122, 122, 108, 97, 119, 115, 95, 105, 110, 116, 101, 114, 110, 97, 108, 95, 108, 101, 100, 103, 101, 114, 95, 98, 49, 46, 70, 110, 86, 97, 108, 105, 100, 73, 68, 73, 103, 110, 111, 114, 101, 115, 76, 101, 116, 116, 101, 114, 67, 97, 115, 101, 32, 101, 120, 97, 109, 112, 108, 101, 46, 99, 111, 109, 47, 99, 111, 117, 110, 116, 101, 114, 112, 111, 105, 115, 101, 47, 99, 111, 117, 110, 116, 101, 114, 112, 111, 105, 115, 101, 47, 122, 122, 108, 97, 119, 115, 95, 105, 110, 116, 101, 114, 110, 97, 108, 95, 108, 101, 100, 103, 101, 114, 95, 98, 49, 46, 70, 110, 86, 97, 108, 105, 100, 73, 68, 65, 99, 99, 101, 112, 116, 115, 69, 118, 101, 114, 121, 82, 101, 110, 100, 101, 114, 105, 110, 103, 79, 102, 49, 50, 56, 66, 105, 116, 115, 32, 101, 120, 97, 109, 112, 108, 101, 46, 99, 111, 109, 47, 99, 111, 117, 110, 116, 101, 114, 112, 111, 105, 115, 101, 47, 99, 111, 117, 110, 116, 101, 114, 112, 111, 105, 115, 101, 47, 122, 122, 108, 97, 119, 115, 95, 105, 110, 116, 101, 114, 110, 97, 108, 95, 108, 101, 100, 103, 101, 114, 95, 98, 49, 46, 70, 110, 86, 97, 108, 105, 100, 73, 68, 73, 115, 65, 86, 97, 108, 105, 100, 78, 97, 109, 101, 32, 101, 120, 97, 109, 112, 108, 101, 46, 99, 111, 109, 47, 99, 111, 117, 110, 116, 101, 114, 112, 111, 105, 115, 101, 47, 99, 111, 117, 110, 116, 101, 114, 112, 111, 105, 115, 101, 47, 122, 122, 108, 97, 119, 115, 95, 105, 110, 116, 101, 114, 110, 97, 108, 95, 108, 101, 100, 103, 101, 114, 95, 98, 49, 46, 70, 110, 86, 97, 108, 105, 100, 78, 97, 109, 101, 77, 97, 116, 99, 104, 101, 115, 65, 108, 112, 104, 97, 98, 101, 116, 77, 111, 100, 101, 108, 32, 101, 120, 97, 109, 112, 108, 101, 46, 99, 111, 109, 47, 99, 111, 117, 110, 116, 101, 114, 112, 111, 105, 115, 101, 47, 99, 111, 117, 110, 116, 101, 114, 112, 111, 105, 115, 101, 47, 122, 122, 108, 97, 119, 115, 95, 105, 110, 116, 101, 114, 110, 97, 108, 95, 108, 101, 100, 103, 101, 114, 95, 98, 49, 46, 70, 110, 86, 97, 108, 105, 100, 78, 97, 109, 101, 74, 111, 105, 110, 73, 115, 65, 78, 97, 109, 101, 73, 102, 102, 83, 104, 111, 114, 116, 69, 110, 111, 117, 103, 104, 32, 101, 120, 97, 109, 112, 108, 101, 46, 99, 111, 109, 47, 99, 111, 117, 110, 116, 101, 114, 112, 111, 105, 115, 101, 47, 99, 111, 117, 110, 116, 101, 114, 112, 111, 105, 115, 101, 47, 122, 122, 108, 97, 119, 115, 95, 105, 110, 116, 101, 114, 110, 97, 108, 95, 108, 101, 100, 103, 101, 114, 95, 98, 49, 46, 70, 110, 86, 97, 108, 105, 100, 78, 97, 109, 101, 83, 117, 98, 115, 116, 114, 105, 110, 103, 115, 65, 114, 101, 78, 97, 109, 101, 115, 85, 110, 108, 101, 115, 115, 68, 111, 116, 115, 32, 101, 120, 97, 109, 112, 108, 101, 46, 99, 111, 109, 47, 99, 111, 117, 110, 116, 101, 114, 112, 111, 105, 115, 101, 47, 99, 111, 117, 110, 116, 101, 114, 112, 111, 105, 115, 101, 47, 122, 122, 108, 97, 119, 115, 95, 105, 110, 116, 101, 114, 110, 97, 108, 95, 108, 101, 100, 103, 101, 114, 95, 98, 49, 46, 70, 110, 86, 97, 108, 105, 100, 67, 117, 114, 114, 101, 110, 99, 121, 73, 115, 65, 78, 97, 109, 101, 66, 117, 116, 78, 111, 116, 73, 110, 76, 111, 119, 101, 114, 67, 97, 115, 101, 32, 101, 120, 97, 109, 112, 108, 101, 46, 99, 111, 109, 47, 99, 111, 117, 110, 116, 101, 114, 112, 111, 105, 115, 101, 47, 99, 111, 117, 110, 116, 101, 114, 112, 111, 105, 115, 101, 47, 122, 122, 108, 97, 119, 115, 95, 105, 110, 116, 101, 114, 110, 97, 108, 95, 108, 101, 100, 103, 101, 114, 95, 98, 49, 46, 70, 110, 86, 97, 108, 105, 100, 67, 117, 114, 114, 101, 110, 99, 121, 80, 114, 101, 102, 105, 120, 67, 108, 111, 115, 101, 100]

theorem words_cons (r : List Char) : ∀ w : List Char, (∀ c ∈ w, c ≠ ' ') → wordsSigns (w ++ ' ' :: r) = w :: wordsSigns r := by
  intro w
  induction w with
  | nil => intro _; rfl
  | cons c w ih =>
    intro h
    have hc : c ≠ ' ' := h c List.mem_cons_self
    have hw := ih fun x hx => h x (List.mem_cons_of_mem _ hx)
    rw [List.cons_append, wordsSigns, hw]
    exact hc

theorem init_is : Try.prog.initOrder = String.ofList (headCodes.map Char.ofNat ++ ' ' :: (sumCodes.map Char.ofNat ++ ' ' :: (cutCodes.map Char.ofNat ++ ' ' :: restCodes.map Char.ofNat))) := by kernel_rfl

theorem noSpace_head : ∀ c ∈ headCodes.map Char.ofNat, c ≠ ' ' := by decide
theorem noSpace_sum : ∀ c ∈ sumCodes.map Char.ofNat, c ≠ ' ' := by decide
theorem noSpace_cut : ∀ c ∈ cutCodes.map Char.ofNat, c ≠ ' ' := by decide

/-- The head's words, the first three read. -/
theorem words_are : wordsSigns Try.prog.initOrder.toList = headCodes.map Char.ofNat :: sumCodes.map Char.ofNat :: cutCodes.map Char.ofNat :: wordsSigns (restCodes.map Char.ofNat) := by
  rw [init_is, String.toList_ofList, words_cons _ _ noSpace_head, words_cons _ _ noSpace_sum, words_cons _ _ noSpace_cut]

theorem behind_is (R : List (List Char)) : behindMainWord (headCodes.map Char.ofNat :: sumCodes.map Char.ofNat :: cutCodes.map Char.ofNat :: R) = cutCodes.map Char.ofNat :: R := by kernel_rfl

theorem behind_words : ∃ R, behindMainWord (wordsSigns Try.prog.initOrder.toList) = cutCodes.map Char.ofNat :: R :=
  ⟨_, by rw [words_are, behind_is]⟩

theorem strip_is (R : List (List Char)) : stripLifts liftWords (cutCodes.map Char.ofNat :: R) = ([], cutCodes.map Char.ofNat :: R) := by kernel_rfl

theorem eq_gc : (cutCodes.map Char.ofNat == "gc".toList) = false := by kernel_rfl
theorem eq_spec : (cutCodes.map Char.ofNat == "spec".toList) = false := by kernel_rfl
theorem eq_carried : (cutCodes.map Char.ofNat == "carried".toList) = false := by kernel_rfl
theorem eq_cut : (cutCodes.map Char.ofNat == "cut".toList) = true := by kernel_rfl
theorem eq_cut' : (some (cutCodes.map Char.ofNat) == some "cut".toList) = true := by kernel_rfl
theorem eq_carried' : (some (cutCodes.map Char.ofNat) == some "carried".toList) = false := by kernel_rfl

/-! Of whatever program with such a head: nothing is evaluated. -/
theorem lifts_of (P : Program) (R : List (List Char)) (h : behindMainWord (wordsSigns P.initOrder.toList) = cutCodes.map Char.ofNat :: R) : P.headLifts = [] := by
  unfold Program.headLifts
  rw [h, strip_is]
  simp only [List.head?_cons, eq_cut', if_true]
theorem final_of (P : Program) (R : List (List Char)) (h : behindMainWord (wordsSigns P.initOrder.toList) = cutCodes.map Char.ofNat :: R) : P.liftsFinal = false := by
  unfold Program.liftsFinal
  rw [h, lifts_of P R h]
  simp only [List.head?_cons, eq_carried', Bool.false_and, Bool.false_or]
  rfl
theorem make_of (P : Program) (R : List (List Char)) (h : behindMainWord (wordsSigns P.initOrder.toList) = cutCodes.map Char.ofNat :: R) : P.make = some .cut := by
  unfold Program.make
  rw [h]
  simp only [eq_gc, eq_spec, eq_cut, Bool.or_false, Bool.true_or, if_true, Bool.false_eq_true, if_false]
theorem enter_of (P : Program) (R : List (List Char)) (h : behindMainWord (wordsSigns P.initOrder.toList) = cutCodes.map Char.ofNat :: R) (h1 : P.laysLater = false) (h2 : P.bearsReflect = false) (h3 : P.doorFits [] = true) : P.mayEnter = true := by
  unfold Program.mayEnter
  rw [h]
  simp only [strip_is, List.head?_cons, eq_cut', h1, h2, h3, Bool.not_false, Bool.or_true, Bool.and_true, List.contains_nil]

theorem make_is : Try.prog.make = some .cut := behind_words.elim fun R h => make_of Try.prog R h
theorem lifts_final : Try.prog.liftsFinal = false := behind_words.elim fun R h => final_of Try.prog R h
theorem may_enter : Try.prog.mayEnter = true := behind_words.elim fun R h => enter_of Try.prog R h (by kernel_rfl) (by kernel_rfl) (by kernel_rfl)

theorem and_t {a b : Bool} (ha : a = true) (hb : b = true) : (a && b) = true := by rw [ha, hb]; rfl

theorem final_row (c : OpenClaim) (h : c.lifted = false) : (c.lifted == Try.prog.liftsFinal) = true := by rw [h, lifts_final]; rfl
theorem make_row (c : OpenClaim) (h : c.make = .cut) : (Try.prog.make == some c.make) = true := by rw [h, make_is]; rfl
end Go.Proofs.Qxb6600171a
