/-
  DERIVED. THE TOLD AND TIED CARD OF kvcache.LawS0840AAdmitCaching, PROVED.
-/
import Derived.Test.YbulkqjiFmtCards
import Derived.Test.YbulkqjiFmtTie
import Derived.Test.YbulkqjiFmtCach
import Derived.Test.YbulkqjiFmtLawPost
import Derived.OpenShut
import Derived.LaidMore
import Derived.Stop.JoinedTold
import Derived.Deep.DeepWitnessRef
import Derived.SevenTiedAt
namespace Go.Proofs.YbulkqjiFmt
open Go.ChangeShapes Go.WideShapes Go.ChangeAt Go.WideMaps Go.WideElems Go.RowKit

abbrev vName : String := Rows.lawS0840AAdmitCachingSpec.vars.headD ""
theorem own : ownKnob Ybaf.prog.godebug = none := by kernel_rfl
theorem gGap : Ybaf.prog.globalNamed vName = some 0 := by kernel_rfl
theorem tGap : (Ybaf.prog.globals[0]?).map (·.type) = some 21 := by kernel_rfl
theorem laidOut : laidOutB Ybaf.checked.prog = true := by kernel_rfl
theorem stops : Ybaf.pinned.checked.prog.stops = ["fmt.Sprintf", "fmt.errorf"] := by kernel_rfl
theorem stopKnobs : Ybaf.pinned.checked.prog.stopKnobs = [] := by kernel_rfl
theorem quiet (os : Os) : Stop.quiet Ybaf.pinned.checked.prog os := by
  intro k hk
  rw [stopKnobs] at hk
  cases hk

theorem door_met (os : Os) (args : Array Value) : laidMetH Ybaf.prog Rows.lawS0840AAdmitCachingRow.laid ((World.doorLaid Ybaf.prog 400 os).forCall (fun _ _ => 0) ⟨#[], args, []⟩).memory :=
  laidMetH_of_parts3 (fuel := 8) (laidMet_of_run' 8 (by kernel_rfl) (by kernel_rfl)) (by kernel_rfl) (by kernel_rfl)

/-- What the condition gives: the gap's cell. -/
theorem of_laid {W : World} (h : laidMetH Ybaf.prog Rows.lawS0840AAdmitCachingRow.laid W) : W.cell? ⟨0, 0, none⟩ = some (.int .i32 (-1)) := by
  rw [MakeChecks.laidMetH_plain _ _ _ (by kernel_rfl)] at h
  obtain ⟨ps, ⟨g0, t0, cs0, f0, p0, q0, hg0, ht0, hv0, hd0, _⟩, _, _⟩ := h
  obtain rfl := Option.some.inj (gGap.symm.trans hg0)
  obtain rfl := Option.some.inj (tGap.symm.trans ht0)
  obtain ⟨a, e1, e2, _⟩ := DataW.trod_int Ybaf.underlying21 hd0
  simp only [Rows.laid_example_com_stepclock_stepclock_kvcache_gap, Prod.mk.injEq, DataW.lit.injEq, Lit.int.injEq, true_and] at e2
  obtain ⟨rfl, _⟩ := e2
  have := World.var?_cell hg0 hv0 0
  rw [Array.eq_one_of_toList e1] at this
  simpa using this

theorem size30 (W : World) : (sizeOf 30).run Ybaf.prog W = .ok 1 W := by kernel_rfl
theorem cells30 : Ybaf.prog.cellsOf 30 = 1 := by kernel_rfl
theorem ixRun49 (a : Addr) (len cap : Nat) (j : Nat) (W : World) (h : j < len) : (Instr.indexAt 49 (.slice (some a) len cap) (.int .i64 (j : Int))).run Ybaf.prog W = .ok (.pointer (some (a.add j))) W := by
  have e : Ybaf.prog.elem 49 = 30 := by kernel_rfl
  rw [run_indexAt_slice (h := by rw [e]; exact Ybaf.underlying49), if_pos (by omega), e, size30]
  simp

set_option maxRecDepth 100000 in
theorem cach_lifted (os : Os) (started : os.Started) (H : Type) (enc : TypeId × Value → H) :
    ReturnsInTold none {} Ybaf.checked os 4 .any Input.okWide ((OpenSpec.ofChange Rows.lawS0840AAdmitCachingSpec).preRow enc Ybaf.prog Ybaf.f4 [] false Rows.lawS0840AAdmitCachingRow.laid)
      (fun F => ((OpenSpec.ofChange Rows.lawS0840AAdmitCachingSpec).at F).post enc Ybaf.prog Ybaf.f4 false true false false) (aloneAtReturn Ybaf.prog) nothingAlways := by
  refine returnsInTold_of_row (C := Ybaf.checked) (s := OpenSpec.ofChange Rows.lawS0840AAdmitCachingSpec) (by kernel_rfl) own started (by kernel_rfl) Ybaf.func4
    (OpenSpec.witness_stopped_atRef (enc := enc) (C := Ybaf.checked) false (World.doorLaid Ybaf.prog 400 os) #[.int .u8 0, .int .u8 0, .slice none 0 0] rfl (by kernel_rfl) (by kernel_rfl) (by kernel_rfl)
      (OpenSpec.preRow_of_B rfl 8 (by kernel_rfl) (by kernel_rfl) (door_met os _))) ?_
  intro F W base args ds gs before _ hF hval0 hW _ _ _ hL _
  have hval : ∀ (j : Nat) t v, Ybaf.f4.params[j]? = some t → args[j]? = some v → Value.okWide Ybaf.prog W .any base t v := hval0
  have hW' := hW
  obtain ⟨p, q, hA0, hV, rfl, hfz, hnd⟩ := hW
  have hA : DataW.TrodAll enc Ybaf.prog W 0 (fun _ => true) true Ybaf.f4.params.toList args.toList ds p := hA0
  have hV' : DataW.TrodVars enc Ybaf.prog W (fun _ => true) [vName] gs q := hV
  rw [Ybaf.params4] at hA hval
  obtain ⟨v0, v1, v2, d0, d1, d2, p0, p1, p2, rfl, rfl, rfl, h0, h1, h2⟩ := trodAll_three hA
  obtain ⟨x, rfl, rfl, rfl, wx⟩ := open_int Ybaf.underlying5 (hval 0 5 v0 rfl rfl) h0
  obtain ⟨y, rfl, rfl, rfl, wy⟩ := open_int Ybaf.underlying5 (hval 1 5 v1 rfl rfl) h1
  obtain ⟨hx0, hx1⟩ := bounds_u8 wx
  obtain ⟨hy0, hy1⟩ := bounds_u8 wy
  obtain ⟨g, t, cs, fuel, gd, gp, rfl, _, _, _, _, rfl⟩ := trodVars_one hV'
  obtain ⟨ao, len, cap, rfl⟩ := okWide_slice Ybaf.underlying49 (hval 2 49 v2 rfl rfl)
  have hgap := of_laid hL
  clear hA0 hval0
  suffices hx : ∃ (z : Nat → Int) (ad : Nat → Addr), (∀ j, 0 ≤ z j ∧ z j ≤ 65535) ∧ len ≤ maxLen ∧
      (∀ (j : Nat) (W : World), j < len → (Instr.indexAt 49 (.slice ao len cap) (.int .i64 (j : Int))).run Ybaf.prog W = .ok (.pointer (some (ad j))) W) ∧ (∀ j, j < len → W.cell? (ad j) = some (.int .u16 (z j))) by
    obtain ⟨z, ad, hz, hl, hix, hc⟩ := hx
    refine (caching_any x y ao len cap z ad W hx0 hx1 hy0 hy1 hz hl hgap hix hc).mono fun e W' ⟨he, hb⟩ => ?_
    subst he
    exact ⟨_, rfl, law_post (s := Rows.lawS0840AAdmitCachingSpec) laidOut (by kernel_rfl) (by kernel_rfl) (tb := 4) rfl Ybaf.underlying4 hW' rfl hb⟩
  obtain ⟨fuel, hf⟩ := h2
  rcases open_ints Ybaf.underlying49 Ybaf.underlying30 cells30 hf with ⟨hcs, _⟩ | ⟨a, len', cap', zs, hcs, _, hl, hm, hzl, _, hcell, hwz⟩
  · simp [Value.cells] at hcs
    obtain ⟨rfl, rfl, rfl⟩ := hcs
    exact ⟨fun _ => 0, fun _ => ⟨0, 0, none⟩, fun _ => by simp, by decide, fun j _ hj => absurd hj (Nat.not_lt_zero j), fun j hj => absurd hj (Nat.not_lt_zero j)⟩
  · simp [Value.cells] at hcs
    obtain ⟨rfl, rfl, rfl⟩ := hcs
    refine ⟨fun j => zs.getD j 0, fun j => a.add j, fun j => ?_, Nat.le_trans hl hm, fun j W hj => ixRun49 a len cap j W hj, fun j hj => hcell j ?_⟩
    · have := range_u16 hwz j
      simpa [List.getD] using this
    · simp at hzl
      omega

theorem caching_holds : Rows.LawS0840AAdmitCachingToldSaid :=
  Claim7.holds_of_told_tied_any_at .later 4 Ybaf.f4 "fmt.Sprintf" ["fmt.errorf"] [] _ _ _ _ _ (by kernel_rfl) rfl rfl rfl laidOut (by kernel_rfl) rfl ⟨rfl, rfl, rfl, rfl, rfl, rfl, rfl⟩ rfl rfl (by kernel_rfl) (by kernel_rfl) Ybaf.func4 (by kernel_rfl)
    (of_decide_eq_true (by kernel_rfl)) (by unfold Func.isWrapper; rw [if_neg (of_decide_eq_false (by kernel_rfl))]; exact ⟨rfl, rfl⟩) stops.symm rfl stopKnobs.symm (by kernel_rfl)
    (by kernel_rfl) (by kernel_rfl) (by kernel_rfl) (by kernel_rfl) (by kernel_rfl) (by kernel_rfl) (by kernel_rfl) (by kernel_rfl) (by kernel_rfl) rfl (by kernel_rfl) rfl rfl
    rfl rfl
    rfl (by kernel_rfl) (by kernel_rfl) (by kernel_rfl) (by decide) (by kernel_rfl) lawS0840AAdmitCaching_row_tie
    (OpenClaim.moreEntering_of (by kernel_rfl) (by kernel_rfl) (by kernel_rfl) (by kernel_rfl) (by kernel_rfl) (by kernel_rfl) (by kernel_rfl) (by kernel_rfl) (by kernel_rfl) (by kernel_rfl))
    ⟨_, WideRow.started_initial, quiet _⟩
    (fun os started _ H enc _ => cach_lifted os started H enc)
end Go.Proofs.YbulkqjiFmt
