/-
  DERIVED. THE ROW OF eval.LawS0846BReach, PROVED.
-/
import Derived.Test.YbulkqmoRows
import Derived.Test.YbulkqmoLawPost
import Derived.Test.YbulkqmoOpen
import Derived.Test.YbulkqmoLaw
namespace Go.Proofs.Ybulkqmo
open Go.ChangeShapes Go.WideShapes Go.ChangeAt Go.RowKit Go.Deep

theorem own : ownKnob Yba.prog.godebug = none := by kernel_rfl
theorem laidOut : laidOutB Yba.prog = true := by kernel_rfl

set_option maxRecDepth 100000 in
theorem reach_lifted (os : Os) (started : os.Started) (H : Type) (enc : TypeId × Value → H) :
    ReturnsInHanded {} Yba.checked os 3 .any (Rows.lawS0846BReachSpec.pre6 enc Yba.prog Yba.f3 Rows.lawS0846BReachRow.domain false) (Rows.lawS0846BReachSpec.post enc Yba.prog Yba.f3 false true false false) := by
  refine returnsInHanded_of_change_sized (C := Yba.checked) own started (by kernel_rfl) Yba.func3
    (ChangeSpec.witness6 (enc := enc) (C := Yba.checked) false ⟨#[], #[.slice none 0 0, .int .u8 0, .slice none 0 0], []⟩ 8 (by kernel_rfl) (by kernel_rfl) (by kernel_rfl) (by kernel_rfl)) ?_
  intro W base args ds gs before hval0 hW _ hsz0 _
  have hval : ∀ (j : Nat) t v, Yba.f3.params[j]? = some t → args[j]? = some v → Value.okWide Yba.prog W .any base t v := hval0
  have hW' := hW
  obtain ⟨p, q, hA0, hV, rfl, hfz, hnd⟩ := hW
  have hA : DataW.TrodAll enc Yba.prog W 0 (fun _ => true) true Yba.f3.params.toList args.toList ds p := hA0
  have hsz : (DataW.weightsEach Yba.prog (Yba.f3.params.toList ++ Rows.lawS0846BReachSpec.plain.varTypes Yba.prog) (ds ++ gs)).all (· ≤ reachBytes) = true := hsz0
  rw [Yba.params3] at hA hval hsz
  obtain ⟨v0, v1, v2, d0, d1, d2, p0, p1, p2, rfl, rfl, rfl, h0, h1, h2⟩ := trodAll_three hA
  obtain ⟨rfl, rfl⟩ := trodVars_none hV
  obtain ⟨x, rfl, rfl, rfl, wx⟩ := open_int Yba.underlying5 (hval 1 5 v1 rfl rfl) h1
  obtain ⟨hx0, hx1⟩ := u8_in wx
  have hw0 : ∀ k ∈ d0.weights Yba.prog 22, k ≤ reachBytes := fun k hk => by
    have := List.all_eq_true.1 hsz k (by simp [DataW.weightsEach, hk])
    simpa using this
  obtain ⟨ao0, n0, cap0, rfl⟩ := okWide_slice Yba.underlying22 (hval 0 22 v0 rfl rfl)
  obtain ⟨so0, ns0, sc0, rfl⟩ := okWide_slice Yba.underlying23 (hval 2 23 v2 rfl rfl)
  obtain ⟨f0, hf0⟩ := h0
  obtain ⟨f2, hf2⟩ := h2
  obtain ⟨ao, n, cap, ad, b, hcs, hn, hb, hlen, hix22, hc22⟩ := open_roles hf0 hw0
  obtain ⟨so, ns, sc, sd, st, hcs2, hns, hst, hix23, hc23⟩ := open_starts hf2
  simp [Value.cells] at hcs hcs2
  obtain ⟨rfl, rfl, rfl⟩ := hcs
  obtain ⟨rfl, rfl, rfl⟩ := hcs2
  clear hA0 hval0 hsz0
  refine (law_any ao0 cap0 ⟨n0, fun q => (b q).len, fun q i => (b q).kk i % 3, fun q i => (b q).tt i % n0, fun q i => (b q).X i⟩ (fun q => (b q).kk) (fun q => (b q).tt) ad (fun q => (b q).ra) (fun q => (b q).rc) (fun q => (b q).bd) x so0 ns0 sc0 st sd W hn hns hx0 hx1 hlen (fun q i => (hb q).bound i) (fun _ _ => rfl) (fun _ _ => rfl) hst
    hix22 hc22 (fun q i W _ hi => (hb q).ix i W hi) (fun q i _ hi => (hb q).cell i hi) hix23 hc23).mono fun e W' ⟨he, hbel⟩ => ?_
  subst he
  exact ⟨_, rfl, law_post (s := Rows.lawS0846BReachSpec) laidOut (by kernel_rfl) (by kernel_rfl) (tb := 4) rfl Yba.underlying4 hW' rfl hbel⟩

theorem reach_holds : Rows.LawS0846BReachSaid :=
  OpenClaim.holds_of_wide 3 Yba.f3 rfl rfl rfl rfl rfl rfl rfl ⟨rfl, rfl, rfl, rfl, rfl⟩ rfl rfl rfl rfl rfl (by kernel_rfl) Yba.func3 (by kernel_rfl)
    (of_decide_eq_true (by kernel_rfl)) (by unfold Func.isWrapper; rw [if_neg (of_decide_eq_false (by kernel_rfl))]; exact ⟨rfl, rfl⟩)
    (fun os started H enc _ => reach_lifted os started H enc)
end Go.Proofs.Ybulkqmo
