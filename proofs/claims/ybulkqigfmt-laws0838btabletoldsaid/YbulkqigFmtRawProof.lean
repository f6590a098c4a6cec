/-
  DERIVED. THE TOLD AND TIED CARD OF tpdu.LawS0838BRawStrings, PROVED.
-/
import Derived.Test.YbulkqigFmtCards
import Derived.Test.YbulkqigFmtTie
import Derived.Test.YbulkqigFmtLaid
import Derived.Test.YbulkqigFmtLawPost
import Derived.Stop.JoinedTold
import Derived.Deep.DeepWitnessRef
import Derived.SevenTiedAt
namespace Go.Proofs.YbulkqigFmt
open Go.ChangeShapes Go.WideShapes Go.ChangeAt Go.WideMaps Go.WideElems Go.RowKit
open Go.ChangeMaps (open_string)

theorem laidOut : laidOutB Ybaf.checked.prog = true := by kernel_rfl
theorem stops : Ybaf.pinned.checked.prog.stops = ["fmt.errorf"] := by kernel_rfl
theorem stopKnobs : Ybaf.pinned.checked.prog.stopKnobs = [] := by kernel_rfl
theorem quiet (os : Os) : Stop.quiet Ybaf.pinned.checked.prog os := by
  intro k hk
  rw [stopKnobs] at hk
  cases hk

theorem raw_door_met (os : Os) (args : Array Value) : laidMetH Ybaf.prog Rows.lawS0838BRawStringsRow.laid ((World.doorLaid Ybaf.prog 400 os).forCall (fun _ _ => 0) ⟨#[], args, []⟩).memory := door_met os args

set_option maxRecDepth 100000 in
theorem raw_lifted (os : Os) (started : os.Started) (H : Type) (enc : TypeId × Value → H) :
    ReturnsInTold none {} Ybaf.checked os 6 .any Input.okWide ((OpenSpec.ofChange Rows.lawS0838BRawStringsSpec).preRow enc Ybaf.prog Ybaf.f6 [] false Rows.lawS0838BRawStringsRow.laid)
      (fun F => ((OpenSpec.ofChange Rows.lawS0838BRawStringsSpec).at F).post enc Ybaf.prog Ybaf.f6 false true false false) (aloneAtReturn Ybaf.prog) nothingAlways := by
  refine returnsInTold_of_row (C := Ybaf.checked) (s := OpenSpec.ofChange Rows.lawS0838BRawStringsSpec) (by kernel_rfl) own started (by kernel_rfl) Ybaf.func6
    (OpenSpec.witness_stopped_atRef (enc := enc) (C := Ybaf.checked) false (World.doorLaid Ybaf.prog 400 os) #[.string ⟨#[]⟩, .string ⟨#[]⟩] rfl (by kernel_rfl) (by kernel_rfl) (by kernel_rfl)
      (OpenSpec.preRow_of_B rfl 8 (by kernel_rfl) (by kernel_rfl) (raw_door_met os _))) ?_
  intro F W base args ds gs before _ hF hval0 hW _ _ _ hL _
  have hval : ∀ (j : Nat) t v, Ybaf.f6.params[j]? = some t → args[j]? = some v → Value.okWide Ybaf.prog W .any base t v := hval0
  have hW' := hW
  obtain ⟨p, q, hA0, hV, rfl, hfz, hnd⟩ := hW
  have hA : DataW.TrodAll enc Ybaf.prog W 0 (fun _ => true) true Ybaf.f6.params.toList args.toList ds p := hA0
  have hV' : DataW.TrodVars enc Ybaf.prog W (fun _ => true) [vName] gs q := hV
  rw [Ybaf.params6] at hA hval
  obtain ⟨v0, v1, d0, d1, p0, p1, rfl, rfl, rfl, h0, h1⟩ := trodAll_two hA
  obtain ⟨s0, rfl, rfl, rfl, hs0⟩ := open_string Ybaf.underlying9 (hval 0 9 v0 rfl rfl) h0
  obtain ⟨s1, rfl, rfl, rfl, hs1⟩ := open_string Ybaf.underlying9 (hval 1 9 v1 rfl rfl) h1
  obtain ⟨g, t, cs, fuel, gd, gp, rfl, _, _, _, _, rfl⟩ := trodVars_one hV'
  obtain ⟨bm, hbm, hz0, hc, hlook⟩ := of_laid hL
  clear hA0 hval0
  refine (raw_any F.told s0 s1 bm W hF hz0 hc (hlook _ s0 hs0 ?_)).mono fun e W' ⟨he, hb⟩ => ?_
  · exact ((Below.refl W.heap.size W).alloc (Nat.le_refl _) Z38).block bm hbm
  · subst he
    exact ⟨_, rfl, law_post (s := Rows.lawS0838BRawStringsSpec) laidOut (by kernel_rfl) (by kernel_rfl) (tb := 4) rfl Ybaf.underlying4 hW' rfl hb⟩

theorem rawStrings_holds : Rows.LawS0838BRawStringsToldSaid :=
  Claim7.holds_of_told_tied_any_at .later 6 Ybaf.f6 "fmt.errorf" [] [] _ _ _ _ _ (by kernel_rfl) rfl rfl rfl laidOut (by kernel_rfl) rfl ⟨rfl, rfl, rfl, rfl, rfl, rfl, rfl⟩ rfl rfl (by kernel_rfl) (by kernel_rfl) Ybaf.func6 (by kernel_rfl)
    (of_decide_eq_true (by kernel_rfl)) (by unfold Func.isWrapper; rw [if_neg (of_decide_eq_false (by kernel_rfl))]; exact ⟨rfl, rfl⟩) stops.symm rfl stopKnobs.symm (by kernel_rfl)
    (by kernel_rfl) (by kernel_rfl) (by kernel_rfl) (by kernel_rfl) (by kernel_rfl) (by kernel_rfl) (by kernel_rfl) (by kernel_rfl) (by kernel_rfl) rfl (by kernel_rfl) rfl rfl
    rfl rfl
    rfl (by kernel_rfl) (by kernel_rfl) (by kernel_rfl) (by decide) (by kernel_rfl) lawS0838BRawStrings_row_tie
    (OpenClaim.moreEntering_of (by kernel_rfl) (by kernel_rfl) (by kernel_rfl) (by kernel_rfl) (by kernel_rfl) (by kernel_rfl) (by kernel_rfl) (by kernel_rfl) (by kernel_rfl) (by kernel_rfl))
    ⟨_, WideRow.started_initial, quiet _⟩
    (fun os started _ H enc _ => raw_lifted os started H enc)
end Go.Proofs.YbulkqigFmt
