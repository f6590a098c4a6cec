/-
  DERIVED. THE ROW OF cli.LawS0847AEnter, PROVED.
-/
import Derived.Test.YbulkqncRows
import Derived.Test.YbulkqncLawPost
import Derived.Test.YbulkqncOpen
namespace Go.Proofs.Ybulkqnc
open Go.ChangeShapes Go.WideShapes Go.ChangeAt Go.RowKit Go.Deep

theorem own : ownKnob Yba.prog.godebug = none := by kernel_rfl
theorem laidOut : laidOutB Yba.prog = true := by kernel_rfl

theorem trod5 {H : Type} {enc : TypeId × Value → H} {P : Program} {w : World} {base : Nat} {spare : Nat → Bool} {held : Bool} {t0 t1 t2 t3 t4 : TypeId} {args : Array Value} {ds : List (DataW H)} {ps : List MemPlace} (h : DataW.TrodAll enc P w base spare held [t0, t1, t2, t3, t4] args.toList ds ps) :
    ∃ v0 v1 v2 v3 v4 d0 d1 d2 d3 d4 p0 p1 p2 p3 p4, args = #[v0, v1, v2, v3, v4] ∧ ds = [d0, d1, d2, d3, d4] ∧ ps = p0 ++ p1 ++ p2 ++ p3 ++ p4 ∧ DataW.Trod enc P w base spare held t0 v0 d0 p0 ∧ DataW.Trod enc P w base spare held t1 v1 d1 p1 ∧ DataW.Trod enc P w base spare held t2 v2 d2 p2 ∧ DataW.Trod enc P w base spare held t3 v3 d3 p3 ∧ DataW.Trod enc P w base spare held t4 v4 d4 p4 := by
  obtain ⟨v0, r0, d0, e0, p0, q0, hargs, rfl, rfl, h0, k0⟩ := trodAll_cons h
  obtain ⟨v1, r1, d1, e1, p1, q1, rfl, rfl, rfl, h1, k1⟩ := trodAll_cons k0
  obtain ⟨v2, r2, d2, e2, p2, q2, rfl, rfl, rfl, h2, k2⟩ := trodAll_cons k1
  obtain ⟨v3, r3, d3, e3, p3, q3, rfl, rfl, rfl, h3, k3⟩ := trodAll_cons k2
  obtain ⟨v4, r4, d4, e4, p4, q4, rfl, rfl, rfl, h4, k4⟩ := trodAll_cons k3
  obtain ⟨rfl, rfl, rfl⟩ := trodAll_nil k4
  exact ⟨v0, v1, v2, v3, v4, d0, d1, d2, d3, d4, p0, p1, p2, p3, p4, by cases args; simp_all, rfl, by simp, h0, h1, h2, h3, h4⟩

set_option maxRecDepth 100000 in
theorem enter_lifted (os : Os) (started : os.Started) (H : Type) (enc : TypeId × Value → H) :
    ReturnsInHanded {} Yba.checked os 3 .any (Rows.lawS0847AEnterSpec.pre6 enc Yba.prog Yba.f3 Rows.lawS0847AEnterRow.domain false) (Rows.lawS0847AEnterSpec.post enc Yba.prog Yba.f3 false true false false) := by
  refine returnsInHanded_of_change (C := Yba.checked) own started (by kernel_rfl) Yba.func3
    (ChangeSpec.witness6 (enc := enc) (C := Yba.checked) false ⟨#[], #[.slice none 0 0, .int .u8 0, .slice none 0 0, .bool false, .slice none 0 0], []⟩ 8 (by kernel_rfl) (by kernel_rfl) (by kernel_rfl) (by kernel_rfl)) ?_
  intro W base args ds gs before hval0 hW _ _
  have hval : ∀ (j : Nat) t v, Yba.f3.params[j]? = some t → args[j]? = some v → Value.okWide Yba.prog W .any base t v := hval0
  have hW' := hW
  obtain ⟨p, q, hA0, hV, rfl, hfz, hnd⟩ := hW
  have hA : DataW.TrodAll enc Yba.prog W 0 (fun _ => true) true Yba.f3.params.toList args.toList ds p := hA0
  rw [Yba.params3] at hA hval
  obtain ⟨v0, v1, v2, v3, v4, d0, d1, d2, d3, d4, p0, p1, p2, p3, p4, rfl, rfl, rfl, h0, h1, h2, h3, h4⟩ := trod5 hA
  obtain ⟨rfl, rfl⟩ := trodVars_none hV
  obtain ⟨x, rfl, rfl, rfl, wx⟩ := open_int Yba.underlying5 (hval 1 5 v1 rfl rfl) h1
  obtain ⟨hx0, hx1⟩ := u8_in wx
  obtain ⟨b, rfl, rfl, rfl⟩ := open_bool Yba.underlying4 (hval 3 4 v3 rfl rfl) h3
  obtain ⟨ao0, n0, cap0, rfl⟩ := okWide_slice Yba.underlying22 (hval 0 22 v0 rfl rfl)
  obtain ⟨ao2, n2, cap2, rfl⟩ := okWide_slice Yba.underlying22 (hval 2 22 v2 rfl rfl)
  obtain ⟨ao4, n4, cap4, rfl⟩ := okWide_slice Yba.underlying22 (hval 4 22 v4 rfl rfl)
  obtain ⟨f0, hf0⟩ := h0
  obtain ⟨f2, hf2⟩ := h2
  obtain ⟨f4, hf4⟩ := h4
  obtain ⟨ao, n, cap, ad0, s0, hc0, hn0, hs0⟩ := open_strs hf0
  simp [Value.cells] at hc0
  obtain ⟨rfl, rfl, rfl⟩ := hc0
  obtain ⟨ao, n, cap, ad2, s2, hc2, hn2, hs2⟩ := open_strs hf2
  simp [Value.cells] at hc2
  obtain ⟨rfl, rfl, rfl⟩ := hc2
  obtain ⟨ao, n, cap, ad4, s4, hc4, hn4, hs4⟩ := open_strs hf4
  simp [Value.cells] at hc4
  obtain ⟨rfl, rfl, rfl⟩ := hc4
  clear hA0 hval0
  refine (law_any ao0 ao2 ao4 n0 cap0 n2 cap2 n4 cap4 x b ad0 ad2 ad4 s0 s2 s4 W hx0 hx1 hn0 hn2 hn4 hs0 hs2 hs4).mono fun e W' ⟨he, hbel⟩ => ?_
  subst he
  exact ⟨_, rfl, law_post (s := Rows.lawS0847AEnterSpec) laidOut (by kernel_rfl) (by kernel_rfl) (tb := 4) rfl Yba.underlying4 hW' rfl hbel⟩

theorem enter_holds : Rows.LawS0847AEnterSaid :=
  OpenClaim.holds_of_wide 3 Yba.f3 rfl rfl rfl rfl rfl rfl rfl ⟨rfl, rfl, rfl, rfl, rfl⟩ rfl rfl rfl rfl rfl (by kernel_rfl) Yba.func3 (by kernel_rfl)
    (of_decide_eq_true (by kernel_rfl)) (by unfold Func.isWrapper; rw [if_neg (of_decide_eq_false (by kernel_rfl))]; exact ⟨rfl, rfl⟩)
    (fun os started H enc _ => enter_lifted os started H enc)
end Go.Proofs.Ybulkqnc
