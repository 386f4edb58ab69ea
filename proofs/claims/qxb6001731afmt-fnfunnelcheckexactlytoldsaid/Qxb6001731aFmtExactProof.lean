/-
  THE PROOF OF 'Rows.FnFunnelCheckExactlyToldSaid': the told and tied card. The walks are for every F: fmt's texts are not asked for.
-/
import Derived.Test.Qxb6001731aFmtCards
import Derived.Test.Qxb6001731aFmtTie
import Derived.Test.Qxb6001731aFmtExactLaw
import Derived.WalkKit
import Derived.ProofKit
import Derived.OpenShut
import Derived.Carry
import Derived.LaidMore
import Derived.Lib.LaidTab
import Derived.Stop.LaidErr
import Derived.Stop.JoinedAt
import Derived.Stop.Texts
import Derived.Stop.JoinedTold
import Derived.SevenTiedAt
namespace Go.Proofs.Qxb6001731aFmt.exactly
open Go.ChangeShapes Go.WideShapes Go.ChangeAt Go.RowKit Go.Kit
open Go.Extern.Stop Go.Stop Go.Extern

theorem own : ownKnob Tryf.prog.godebug = none := by kernel_rfl
theorem laidOut : laidOutB Tryf.pinned.checked.prog = true := by kernel_rfl
theorem stops : Tryf.pinned.checked.prog.stops = Rows.fnFunnelCheckExactlyRow.stops := by kernel_rfl
theorem stopKnobs : Tryf.pinned.checked.prog.stopKnobs = [] := by kernel_rfl
theorem quiet (os : Os) : Stop.quiet Tryf.pinned.checked.prog os := by
  intro k hk
  rw [stopKnobs] at hk
  cases hk

/-- The heap that the door's own run leaves meets the row's condition. -/
theorem door_met (os : Os) (args : Array Value) : laidMetH Tryf.prog Rows.fnFunnelCheckExactlyRow.laid ((World.doorLaid Tryf.prog 24 os).forCall (fun _ _ => 0) ⟨#[], args, []⟩).memory :=
  laidMetH_of_parts3 (fuel := 8) (laidMet_of_run' 8 (by kernel_rfl) (by kernel_rfl)) (by kernel_rfl) (by kernel_rfl)

/-- What the condition gives the walks: the table of powers of ten. -/
theorem tab_of {W : World} (h : laidMetH Tryf.prog Rows.fnFunnelCheckExactlyRow.laid W) : Tab W := by
  rw [MakeChecks.laidMetH_plain _ _ _ (by kernel_rfl)] at h
  have h3 := laidMet.tail (laidMet.tail h)
  exact Lib.tabIs_of_head (g := 0) (t := 81) (e := 33) (n := 20) (by kernel_rfl) (by kernel_rfl) (by kernel_rfl) (by kernel_rfl) (by kernel_rfl) (by kernel_rfl) h3

set_option maxRecDepth 100000 in
theorem lifted (os : Os) (started : os.Started) (H : Type) (enc : TypeId × Value → H) :
    ReturnsInTold none {} Tryf.checked os 5 .any Input.okWide ((OpenSpec.ofChange Rows.fnFunnelCheckExactlySpec).preRow enc Tryf.prog Tryf.f5 [] false Rows.fnFunnelCheckExactlyRow.laid) (fun F => ((OpenSpec.ofChange Rows.fnFunnelCheckExactlySpec).at F).post enc Tryf.prog Tryf.f5 false true false false) (aloneAtReturn Tryf.prog) nothingAlways := by
  refine returnsInTold_of_row (C := Tryf.checked) (s := OpenSpec.ofChange Rows.fnFunnelCheckExactlySpec) (by kernel_rfl) own started (by kernel_rfl) Tryf.func5
    (OpenSpec.witness_stopped_at (enc := enc) (C := Tryf.checked) false (World.doorLaid Tryf.prog 24 os) #[.int .i64 0, .int .i64 0, .int .i64 0] rfl (by kernel_rfl) (by kernel_rfl) (by kernel_rfl)
      (OpenSpec.preRow_of_B rfl 8 (by kernel_rfl) (by kernel_rfl) (door_met os _))) ?_
  intro F W base args ds gs before _ hF hval0 hW _ _ _ hL _
  have hval : ∀ (j : Nat) t v, Tryf.f5.params[j]? = some t → args[j]? = some v → Value.okWide Tryf.prog W .any base t v := hval0
  have hW' := hW
  obtain ⟨p, q, hA0, hV, rfl, hfz, hnd⟩ := hW
  have hA : DataW.TrodAll enc Tryf.prog W 0 (fun _ => true) true Tryf.f5.params.toList args.toList ds p := hA0
  rw [Tryf.params5] at hA hval
  obtain ⟨v0, v1, v2, d0, d1, d2, p0, p1, p2, rfl, rfl, rfl, h0, h1, h2⟩ := trodAll_three hA
  obtain ⟨rfl, rfl⟩ := trodVars_none hV
  obtain ⟨a0, rfl, rfl, rfl, w0⟩ := open_int Tryf.underlying3 (hval 0 3 v0 rfl rfl) h0
  obtain ⟨a1, rfl, rfl, rfl, w1⟩ := open_int Tryf.underlying3 (hval 1 3 v1 rfl rfl) h1
  obtain ⟨a2, rfl, rfl, rfl, w2⟩ := open_int Tryf.underlying2 (hval 2 2 v2 rfl rfl) h2
  clear hA0 hval0
  refine (exact_law F.told a0 a1 a2 W hF (tab_of hL) (bounds_i64 w0).1 (bounds_i64 w0).2 (bounds_i64 w1).1 (bounds_i64 w1).2 (bounds_i64 w2).1 (bounds_i64 w2).2).mono fun e W' ⟨he, hb⟩ => ?_
  subst he
  refine ⟨_, rfl, _, _, _, [], [], [], hW', ?_, ?_, rfl, hb.frame _, fun h => by cases h⟩
  · exact trodAll_mk1 (shut_bool Tryf.underlying4 _)
  · exact trodAll_mk3 (shut_int Tryf.underlying3 w0) (shut_int Tryf.underlying3 w1) (shut_int Tryf.underlying2 w2)

theorem proved : Rows.FnFunnelCheckExactlyToldSaid :=
  Claim7.holds_of_told_tied_any_at .later 5 Tryf.f5 _ _ [] _ _ _ _ _ (by kernel_rfl) rfl rfl rfl laidOut (by kernel_rfl) rfl ⟨rfl, rfl, rfl, rfl, rfl, rfl, rfl⟩ rfl rfl (by kernel_rfl) (by kernel_rfl) Tryf.func5 (by kernel_rfl)
    (of_decide_eq_true (by kernel_rfl)) (by unfold Func.isWrapper; first | (rw [if_pos (by decide +kernel)]; kernel_rfl) | (rw [if_neg (by decide +kernel)]; exact ⟨rfl, rfl⟩)) stops.symm rfl stopKnobs.symm (by kernel_rfl)
    (by kernel_rfl) (by kernel_rfl) (by kernel_rfl) (by kernel_rfl) (by kernel_rfl) (by kernel_rfl) (by kernel_rfl) (by kernel_rfl) (by kernel_rfl) rfl (by kernel_rfl) rfl rfl
    rfl rfl
    rfl (by kernel_rfl) (by kernel_rfl) (by kernel_rfl) (by decide) (by kernel_rfl) fnFunnelCheckExactly_row_tie
    (OpenClaim.moreEntering_of (by kernel_rfl) (by kernel_rfl) (by kernel_rfl) (by kernel_rfl) (by kernel_rfl) (by kernel_rfl) (by kernel_rfl) (by kernel_rfl) (by kernel_rfl) (by kernel_rfl))
    ⟨_, WideRow.started_initial, quiet _⟩
    (fun os started _ H enc _ => lifted os started H enc)
#print axioms proved
end Go.Proofs.Qxb6001731aFmt.exactly
