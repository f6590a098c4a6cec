/-
  DERIVED. THE TOLD AND TIED CARD OF tpdu.LawS0838BTable, PROVED.
-/
import Derived.Test.YbulkqigFmtTable
import Derived.Test.YbulkqigFmtRawProof
namespace Go.Proofs.YbulkqigFmt
open Go.ChangeShapes Go.WideShapes Go.ChangeAt Go.WideMaps Go.WideElems Go.RowKit
open Go.ChangeMaps (open_string)

set_option maxRecDepth 100000 in
theorem table_lifted (os : Os) (started : os.Started) (H : Type) (enc : TypeId × Value → H) :
    ReturnsInTold none {} Ybaf.checked os 5 .any Input.okWide ((OpenSpec.ofChange Rows.lawS0838BTableSpec).preRow enc Ybaf.prog Ybaf.f5 [] false Rows.lawS0838BTableRow.laid)
      (fun F => ((OpenSpec.ofChange Rows.lawS0838BTableSpec).at F).post enc Ybaf.prog Ybaf.f5 false true false false) (aloneAtReturn Ybaf.prog) nothingAlways := by
  refine returnsInTold_of_row (C := Ybaf.checked) (s := OpenSpec.ofChange Rows.lawS0838BTableSpec) (by kernel_rfl) own started (by kernel_rfl) Ybaf.func5
    (OpenSpec.witness_stopped_atRef (enc := enc) (C := Ybaf.checked) false (World.doorLaid Ybaf.prog 400 os) #[.int .u8 0, .string ⟨#[]⟩, .int .u8 0, .string ⟨#[]⟩] rfl (by kernel_rfl) (by kernel_rfl) (by kernel_rfl)
      (OpenSpec.preRow_of_B rfl 8 (by kernel_rfl) (by kernel_rfl) (door_met os _))) ?_
  intro F W base args ds gs before _ hF hval0 hW _ _ _ hL _
  have hval : ∀ (j : Nat) t v, Ybaf.f5.params[j]? = some t → args[j]? = some v → Value.okWide Ybaf.prog W .any base t v := hval0
  have hW' := hW
  obtain ⟨p, q, hA0, hV, rfl, hfz, hnd⟩ := hW
  have hA : DataW.TrodAll enc Ybaf.prog W 0 (fun _ => true) true Ybaf.f5.params.toList args.toList ds p := hA0
  have hV' : DataW.TrodVars enc Ybaf.prog W (fun _ => true) [vName] gs q := hV
  rw [Ybaf.params5] at hA hval
  obtain ⟨v0, v1, v2, v3, d0, d1, d2, d3, p0, p1, p2, p3, rfl, rfl, rfl, h0, h1, h2, h3⟩ := trodAll_four hA
  obtain ⟨a, rfl, rfl, rfl, wa⟩ := open_int Ybaf.underlying5 (hval 0 5 v0 rfl rfl) h0
  obtain ⟨s0, rfl, rfl, rfl, hs0⟩ := open_string Ybaf.underlying9 (hval 1 9 v1 rfl rfl) h1
  obtain ⟨b, rfl, rfl, rfl, wb⟩ := open_int Ybaf.underlying5 (hval 2 5 v2 rfl rfl) h2
  obtain ⟨s1, rfl, rfl, rfl, hs1⟩ := open_string Ybaf.underlying9 (hval 3 9 v3 rfl rfl) h3
  obtain ⟨ha0, ha1⟩ := bounds_u8 wa
  obtain ⟨hb0, hb1⟩ := bounds_u8 wb
  obtain ⟨g, t, cs, fuel, gd, gp, rfl, _, _, _, _, rfl⟩ := trodVars_one hV'
  obtain ⟨bm, hbm, hz0, hc, hlook⟩ := of_laid hL
  clear hA0 hval0
  refine (table_any F.told a b s0 s1 bm W ha0 ha1 hb0 hb1 hF hz0 hc (hlook _ (pickD a s0) (pickD_size a s0 hs0) ?_)).mono fun e W' ⟨he, hb⟩ => ?_
  · exact ((Below.refl W.heap.size W).alloc (Nat.le_refl _) Z38).block bm hbm
  · subst he
    exact ⟨_, rfl, law_post (s := Rows.lawS0838BTableSpec) laidOut (by kernel_rfl) (by kernel_rfl) (tb := 4) rfl Ybaf.underlying4 hW' rfl hb⟩

theorem table_holds : Rows.LawS0838BTableToldSaid :=
  Claim7.holds_of_told_tied_any_at .later 5 Ybaf.f5 "fmt.errorf" [] [] _ _ _ _ _ (by kernel_rfl) rfl rfl rfl laidOut (by kernel_rfl) rfl ⟨rfl, rfl, rfl, rfl, rfl, rfl, rfl⟩ rfl rfl (by kernel_rfl) (by kernel_rfl) Ybaf.func5 (by kernel_rfl)
    (of_decide_eq_true (by kernel_rfl)) (by unfold Func.isWrapper; rw [if_neg (of_decide_eq_false (by kernel_rfl))]; exact ⟨rfl, rfl⟩) stops.symm rfl stopKnobs.symm (by kernel_rfl)
    (by kernel_rfl) (by kernel_rfl) (by kernel_rfl) (by kernel_rfl) (by kernel_rfl) (by kernel_rfl) (by kernel_rfl) (by kernel_rfl) (by kernel_rfl) rfl (by kernel_rfl) rfl rfl
    rfl rfl
    rfl (by kernel_rfl) (by kernel_rfl) (by kernel_rfl) (by decide) (by kernel_rfl) lawS0838BTable_row_tie
    (OpenClaim.moreEntering_of (by kernel_rfl) (by kernel_rfl) (by kernel_rfl) (by kernel_rfl) (by kernel_rfl) (by kernel_rfl) (by kernel_rfl) (by kernel_rfl) (by kernel_rfl) (by kernel_rfl))
    ⟨_, WideRow.started_initial, quiet _⟩
    (fun os started _ H enc _ => table_lifted os started H enc)
end Go.Proofs.YbulkqigFmt
