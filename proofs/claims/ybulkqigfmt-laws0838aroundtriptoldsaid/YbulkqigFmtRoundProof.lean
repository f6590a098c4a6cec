/-
  DERIVED. THE TOLD CARD OF octets.LawS0838ARoundTrip, PROVED.
-/
import Derived.Test.YbulkqigFmtCards
import Derived.Test.YbulkqigFmtRound
import Derived.Test.YbulkqigFmtLawPost
import Derived.OpenShut
import Derived.Stop.JoinedTold
import Derived.SevenToldRow
namespace Go.Proofs.YbulkqigFmt.RoundT
open Go.ChangeShapes Go.WideShapes Go.ChangeAt Go.WideMaps Go.WideElems Go.RowKit

theorem own : ownKnob Ybaf.prog.godebug = none := by kernel_rfl
theorem laidOut : laidOutB Ybaf.checked.prog = true := by kernel_rfl
theorem stops : Ybaf.pinned.checked.prog.stops = ["fmt.errorf"] := by kernel_rfl
theorem stopKnobs : Ybaf.pinned.checked.prog.stopKnobs = [] := by kernel_rfl
theorem quiet (os : Os) : Stop.quiet Ybaf.pinned.checked.prog os := by
  intro k hk
  rw [stopKnobs] at hk
  cases hk
theorem cells5 : Ybaf.prog.cellsOf 5 = 1 := by kernel_rfl
theorem size5 (W : World) : (sizeOf 5).run Ybaf.prog W = .ok 1 W := by kernel_rfl

theorem ixRun (a : Addr) (len cap : Nat) (j : Nat) (W : World) (h : j < len) : (Instr.indexAt 22 (.slice (some a) len cap) (.int .i64 (j : Int))).run Ybaf.prog W = .ok (.pointer (some (a.add j))) W := by
  have e : Ybaf.prog.elem 22 = 5 := by kernel_rfl
  rw [run_indexAt_slice (h := by rw [e]; exact Ybaf.underlying22), if_pos (by omega), e, size5]
  simp

set_option maxRecDepth 100000 in
theorem lifted (os : Os) (started : os.Started) (H : Type) (enc : TypeId × Value → H) :
    ReturnsInTold none {} Ybaf.checked os 3 .any Input.okWide ((OpenSpec.ofChange Rows.lawS0838ARoundTripSpec).preRow enc Ybaf.prog Ybaf.f3 [] false [])
      (fun F => ((OpenSpec.ofChange Rows.lawS0838ARoundTripSpec).at F).post enc Ybaf.prog Ybaf.f3 false true false false) (aloneAtReturn Ybaf.prog) nothingAlways := by
  refine returnsInTold_of_row (C := Ybaf.checked) (s := OpenSpec.ofChange Rows.lawS0838ARoundTripSpec) (by kernel_rfl) own started (by kernel_rfl) Ybaf.func3
    (OpenSpec.witness_stopped (enc := enc) (C := Ybaf.checked) false ⟨#[], #[.slice none 0 0, .int .u64 0], []⟩ 8 (by kernel_rfl) (by kernel_rfl) (by kernel_rfl) (by kernel_rfl)) ?_
  intro F W base args ds gs before _ hF hval0 hW _ _ _ _ _
  have hval : ∀ (j : Nat) t v, Ybaf.f3.params[j]? = some t → args[j]? = some v → Value.okWide Ybaf.prog W .any base t v := hval0
  have hW' := hW
  obtain ⟨p, q, hA0, hV, rfl, hfz, hnd⟩ := hW
  have hA : DataW.TrodAll enc Ybaf.prog W 0 (fun _ => true) true Ybaf.f3.params.toList args.toList ds p := hA0
  rw [Ybaf.params3] at hA hval
  obtain ⟨v0, v1, d0, d1, p0, p1, rfl, rfl, rfl, h0, h1⟩ := trodAll_two hA
  obtain ⟨rfl, rfl⟩ := trodVars_none hV
  obtain ⟨cb, rfl, rfl, rfl, wcb⟩ := open_int Ybaf.underlying23 (hval 1 23 v1 rfl rfl) h1
  obtain ⟨c0, c1⟩ := bounds_u64 wcb
  obtain ⟨ao, len, cap, rfl⟩ := okWide_slice Ybaf.underlying22 (hval 0 22 v0 rfl rfl)
  clear hA0 hval0
  suffices hx : ∃ (z : Nat → Int) (ad : Nat → Addr), (∀ j, 0 ≤ z j ∧ z j ≤ 255) ∧ len ≤ maxLen ∧
      (∀ (j : Nat) (W : World), j < len → (Instr.indexAt 22 (.slice ao len cap) (.int .i64 (j : Int))).run Ybaf.prog W = .ok (.pointer (some (ad j))) W) ∧ (∀ j, j < len → W.cell? (ad j) = some (.int .u8 (z j))) by
    obtain ⟨z, ad, hz, hl, hix, hc⟩ := hx
    refine (round_any F.told ao len cap cb z ad W hF c0 (by omega) hz hl hix hc).mono fun e W' ⟨he, hb⟩ => ?_
    subst he
    exact ⟨_, rfl, law_post (s := Rows.lawS0838ARoundTripSpec) laidOut (by kernel_rfl) (by kernel_rfl) (tb := 4) rfl Ybaf.underlying4 hW' rfl hb⟩
  obtain ⟨fuel, hf⟩ := h0
  rcases open_ints Ybaf.underlying22 Ybaf.underlying5 cells5 hf with ⟨hcs, _⟩ | ⟨a, len', cap', zs, hcs, _, hl, hm, hzl, _, hcell, hwz⟩
  · simp [Value.cells] at hcs
    obtain ⟨rfl, rfl, rfl⟩ := hcs
    exact ⟨fun _ => 0, fun _ => ⟨0, 0, none⟩, fun _ => by simp, by decide, fun j _ hj => absurd hj (Nat.not_lt_zero j), fun j hj => absurd hj (Nat.not_lt_zero j)⟩
  · simp [Value.cells] at hcs
    obtain ⟨rfl, rfl, rfl⟩ := hcs
    refine ⟨fun j => zs.getD j 0, fun j => a.add j, fun j => ?_, Nat.le_trans hl hm, fun j W hj => ixRun a len cap j W hj, fun j hj => hcell j ?_⟩
    · have := range_u8 hwz j
      simpa [List.getD] using this
    · simp at hzl
      omega

theorem round_holds : Rows.LawS0838ARoundTripToldSaid :=
  Claim7.holds_of_told_any 3 Ybaf.f3 "fmt.errorf" [] [] _ _ _ (by kernel_rfl) rfl rfl rfl laidOut (by kernel_rfl) rfl ⟨rfl, rfl, rfl, rfl, rfl, rfl, rfl⟩ rfl rfl (by kernel_rfl) (by kernel_rfl) Ybaf.func3 (by kernel_rfl)
    (of_decide_eq_true (by kernel_rfl)) (by unfold Func.isWrapper; rw [if_neg (of_decide_eq_false (by kernel_rfl))]; exact ⟨rfl, rfl⟩) stops.symm rfl stopKnobs.symm (by kernel_rfl)
    (by kernel_rfl) (by kernel_rfl) (by kernel_rfl) (by kernel_rfl) (by kernel_rfl) (by kernel_rfl) (by kernel_rfl) (by kernel_rfl) (by kernel_rfl) rfl (by kernel_rfl) rfl rfl
    rfl rfl
    rfl (by kernel_rfl) (by kernel_rfl) (by kernel_rfl) (by decide) (by kernel_rfl)
    (OpenClaim.moreEntering_of (by kernel_rfl) (by kernel_rfl) (by kernel_rfl) (by kernel_rfl) (by kernel_rfl) (by kernel_rfl) (by kernel_rfl) (by kernel_rfl) (by kernel_rfl) (by kernel_rfl))
    ⟨_, WideRow.started_initial, quiet _⟩
    (fun os started _ H enc _ => lifted os started H enc)
end Go.Proofs.YbulkqigFmt.RoundT
namespace Go.Proofs.YbulkqigFmt
theorem round_said : Rows.LawS0838ARoundTripToldSaid := RoundT.round_holds
end Go.Proofs.YbulkqigFmt
