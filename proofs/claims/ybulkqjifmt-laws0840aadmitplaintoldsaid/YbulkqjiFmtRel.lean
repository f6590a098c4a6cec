/-
  DERIVED. THE WALKS of kvcache's letGo and Release in a pool that does not cache.
-/
import Derived.Test.YbulkqjiFmtCach
namespace Go.Proofs.YbulkqjiFmt
open Go.RowKit
set_option linter.unusedVariables false

set_option maxHeartbeats 1000000 in
set_option maxRecDepth 100000 in
theorem letgo_plain (C G T : Nat) (used gu fr h : Int) (w : World) (cg : C ≠ G) (ct : C ≠ T) (gt : G ≠ T)
    (h2 : w.cell? ⟨C, 2, none⟩ = some (.int .i64 used)) (h3 : w.cell? ⟨C, 3, none⟩ = some (.pointer (some ⟨G, 0, none⟩))) (h4 : w.cell? ⟨C, 4, none⟩ = some (.bool false)) (h23 : w.cell? ⟨C, 23, none⟩ = some (.int .i64 fr))
    (g0 : w.cell? ⟨G, 0, none⟩ = some (.int .i64 gu)) (t4 : w.cell? ⟨T, 4, none⟩ = some (.int .i64 h))
    (f2 : w.frozen? ⟨C, 2, none⟩ = false) (f23 : w.frozen? ⟨C, 23, none⟩ = false) (fg0 : w.frozen? ⟨G, 0, none⟩ = false)
    (u0 : -1000000 ≤ used) (u1 : used ≤ 1000000) (v0 : -1000000 ≤ gu) (v1 : gu ≤ 1000000) (k0 : -1000000 ≤ h) (k1 : h ≤ 1000000) (r0 : -1000000 ≤ fr) (r1 : fr ≤ 1000000) :
    Calls Ybaf.prog 11 #[.pointer (some ⟨C, 0, none⟩), .pointer (some ⟨T, 0, none⟩), .bool false] w fun e w' => e = .returned (.tuple #[]) ∧
      Sm w' (((w.setCell ⟨C, 2, none⟩ (.int .i64 (used - h))).setCell ⟨C, 23, none⟩ (.int .i64 (fr + h))).setCell ⟨G, 0, none⟩ (.int .i64 (gu - h))) := by
  go_enter Ybaf.func11, Ybaf.ntmps11
  go_wp2_with fail
  go_end0
  exact ⟨rfl, rfl, rfl, rfl, rfl⟩

set_option maxHeartbeats 1000000 in
set_option maxRecDepth 100000 in
theorem release_plain (C G T : Nat) (used gu fr h : Int) (w : World) (cg : C ≠ G) (ct : C ≠ T) (gt : G ≠ T)
    (h2 : w.cell? ⟨C, 2, none⟩ = some (.int .i64 used)) (h3 : w.cell? ⟨C, 3, none⟩ = some (.pointer (some ⟨G, 0, none⟩))) (h4 : w.cell? ⟨C, 4, none⟩ = some (.bool false)) (h23 : w.cell? ⟨C, 23, none⟩ = some (.int .i64 fr))
    (g0 : w.cell? ⟨G, 0, none⟩ = some (.int .i64 gu)) (t4 : w.cell? ⟨T, 4, none⟩ = some (.int .i64 h)) (t5 : w.cell? ⟨T, 5, none⟩ = some (.slice none 0 0))
    (f2 : w.frozen? ⟨C, 2, none⟩ = false) (f23 : w.frozen? ⟨C, 23, none⟩ = false) (fg0 : w.frozen? ⟨G, 0, none⟩ = false)
    (t6 : (w.cell? ⟨T, 6, none⟩).isSome = true) (t7 : (w.cell? ⟨T, 7, none⟩).isSome = true) (t8 : (w.cell? ⟨T, 8, none⟩).isSome = true)
    (ft4 : w.frozen? ⟨T, 4, none⟩ = false) (ft5 : w.frozen? ⟨T, 5, none⟩ = false) (ft6 : w.frozen? ⟨T, 6, none⟩ = false) (ft7 : w.frozen? ⟨T, 7, none⟩ = false) (ft8 : w.frozen? ⟨T, 8, none⟩ = false)
    (u0 : -1000000 ≤ used) (u1 : used ≤ 1000000) (v0 : -1000000 ≤ gu) (v1 : gu ≤ 1000000) (k0 : -1000000 ≤ h) (k1 : h ≤ 1000000) (r0 : -1000000 ≤ fr) (r1 : fr ≤ 1000000) :
    Calls Ybaf.prog 6 #[.pointer (some ⟨C, 0, none⟩), .pointer (some ⟨T, 0, none⟩)] w fun e w' => e = .returned (.tuple #[]) ∧
      Sm w' ((((((((w.setCell ⟨C, 2, none⟩ (.int .i64 (used - h))).setCell ⟨C, 23, none⟩ (.int .i64 (fr + h))).setCell ⟨G, 0, none⟩ (.int .i64 (gu - h))).setCell ⟨T, 7, none⟩ (.slice none 0 0)).setCell ⟨T, 8, none⟩ (.int .i64 0)).setCell ⟨T, 4, none⟩ (.int .i64 0)).setCell ⟨T, 5, none⟩ (.slice none 0 0)).setCell ⟨T, 6, none⟩ (.int .i64 0)) := by
  obtain ⟨v6, e6⟩ := Option.isSome_iff_exists.1 t6
  obtain ⟨v7, e7⟩ := Option.isSome_iff_exists.1 t7
  obtain ⟨v8, e8⟩ := Option.isSome_iff_exists.1 t8
  clear t6 t7 t8
  go_enter Ybaf.func6, Ybaf.ntmps6
  go_wp2_with fail
  refine (letgo_plain C G T used gu fr h _ cg ct gt h2 h3 h4 h23 g0 t4 f2 f23 fg0 u0 u1 v0 v1 k0 k1 r0 r1).mono ?_
  rintro e w' ⟨rfl, hs⟩
  have c5 : w'.cell? ⟨T, 5, none⟩ = some (.slice none 0 0) := by rw [hs.cell]; go_simp
  have c4 : w'.cell? ⟨T, 4, none⟩ = some (.int .i64 h) := by rw [hs.cell]; go_simp
  have c6 : w'.cell? ⟨T, 6, none⟩ = some v6 := by rw [hs.cell]; go_simp
  have c7 : w'.cell? ⟨T, 7, none⟩ = some v7 := by rw [hs.cell]; go_simp
  have c8 : w'.cell? ⟨T, 8, none⟩ = some v8 := by rw [hs.cell]; go_simp
  have d4 : w'.frozen? ⟨T, 4, none⟩ = false := by rw [hs.frozen]; go_simp
  have d5 : w'.frozen? ⟨T, 5, none⟩ = false := by rw [hs.frozen]; go_simp
  have d6 : w'.frozen? ⟨T, 6, none⟩ = false := by rw [hs.frozen]; go_simp
  have d7 : w'.frozen? ⟨T, 7, none⟩ = false := by rw [hs.frozen]; go_simp
  have d8 : w'.frozen? ⟨T, 8, none⟩ = false := by rw [hs.frozen]; go_simp
  have HS : Hid (Sm w' (((w.setCell ⟨C, 2, none⟩ (.int .i64 (used - h))).setCell ⟨C, 23, none⟩ (.int .i64 (fr + h))).setCell ⟨G, 0, none⟩ (.int .i64 (gu - h)))) := hs
  clear hs
  go_wp2_with fail
  go_end0
  exact ⟨rfl, ((((HS.out.setCell _ _).setCell _ _).setCell _ _).setCell _ _).setCell _ _⟩

/-- A pool that does not cache. -/
def PP (w : World) (C G k : Nat) (bs tot used peak : Int) : Prop :=
  (∃ (f : Nat → Value) (fr : Int), w.rowIs C 65 25 f ∧ f 0 = .int .i64 bs ∧ f 1 = .int .i64 tot ∧ f 2 = .int .i64 used ∧ f 3 = .pointer (some ⟨G, 0, none⟩) ∧ f 4 = .bool false ∧ f 7 = .slice none 0 0 ∧ f 8 = .int .i64 0 ∧ f 9 = .int .i64 0 ∧
    f 17 = .int .i64 0 ∧ f 22 = .int .i64 0 ∧ f 23 = .int .i64 fr ∧ f 24 = .pointer none ∧ 0 ≤ fr ∧ fr ≤ 199 * k) ∧
  (∃ g : Nat → Value, w.rowIs G 25 2 g ∧ g 0 = .int .i64 used ∧ g 1 = .int .i64 peak) ∧ C ≠ G
/-- A table that holds h blocks and records none. -/
def TB (w : World) (T : Nat) (h : Int) : Prop := ∃ t : Nat → Value, w.rowIs T 40 9 t ∧ t 4 = .int .i64 h ∧ t 5 = .slice none 0 0

theorem PP.up {w : World} {C G k k' : Nat} {bs tot used peak : Int} (H : PP w C G k bs tot used peak) (hk : k ≤ k') : PP w C G k' bs tot used peak := by
  obtain ⟨⟨f, fr, hC, f0, f1, f2, f3, f4, f7, f8, f9, f17, f22, f23, f24, r0, r1⟩, hG, hcg⟩ := H
  exact ⟨⟨f, fr, hC, f0, f1, f2, f3, f4, f7, f8, f9, f17, f22, f23, f24, r0, by omega⟩, hG, hcg⟩
theorem PP.fr {w w' : World} {C G k : Nat} {bs tot used peak : Int} {S : Nat → Prop} (H : PP w C G k bs tot used peak) (h : Fr S w w') (hC : ¬ S C) (hG : ¬ S G) : PP w' C G k bs tot used peak := by
  obtain ⟨⟨f, fr, hC', hf⟩, ⟨g, hG', hg⟩, hcg⟩ := H
  exact ⟨⟨f, fr, h.row hC' hC, hf⟩, ⟨g, h.row hG' hG, hg⟩, hcg⟩
theorem TB.fr {w w' : World} {T : Nat} {h : Int} {S : Nat → Prop} (H : TB w T h) (hf : Fr S w w') (hT : ¬ S T) : TB w' T h := by
  obtain ⟨t, a, b⟩ := H
  exact ⟨t, hf.row a hT, b⟩
theorem PP.ne {w : World} {C G k : Nat} {bs tot used peak : Int} {T : Nat} {h : Int} (H : PP w C G k bs tot used peak) (hT : TB w T h) : C ≠ T ∧ G ≠ T := by
  obtain ⟨⟨f, fr, hC, _⟩, ⟨g, hG, _⟩, _⟩ := H
  obtain ⟨t, a, _⟩ := hT
  constructor
  · rintro rfl
    obtain ⟨c1, h1, _⟩ := hC
    obtain ⟨c2, h2, _⟩ := a
    rw [h1] at h2
    simp at h2
  · rintro rfl
    obtain ⟨c1, h1, _⟩ := hG
    obtain ⟨c2, h2, _⟩ := a
    rw [h1] at h2
    simp at h2

set_option maxHeartbeats 1000000 in
theorem pp_release (C G T k : Nat) (bs tot used peak h : Int) (w : World) (H : PP w C G k bs tot used peak) (hT : TB w T h) (u0 : -900000 ≤ used) (u1 : used ≤ 900000) (k0 : 0 ≤ h) (k1 : h ≤ 199) (hk : k ≤ 1024) :
    Calls Ybaf.prog 6 #[.pointer (some ⟨C, 0, none⟩), .pointer (some ⟨T, 0, none⟩)] w fun e w' => e = .returned (.tuple #[]) ∧ PP w' C G (k + 1) bs tot (used - h) peak ∧ TB w' T 0 ∧ Fr (fun k => k = C ∨ k = G ∨ k = T) w w' := by
  obtain ⟨ct, gt⟩ := H.ne hT
  obtain ⟨⟨f, fr, hC, f0, f1, f2, f3, f4, f7, f8, f9, f17, f22, f23, f24, r0, r1⟩, ⟨g, hG, g0, g1⟩, cg⟩ := H
  obtain ⟨t, hT, t4, t5⟩ := hT
  have c2 := hC.cell (i := 2) (by omega); rw [f2] at c2
  have c3 := hC.cell (i := 3) (by omega); rw [f3] at c3
  have c4 := hC.cell (i := 4) (by omega); rw [f4] at c4
  have c23 := hC.cell (i := 23) (by omega); rw [f23] at c23
  have d0 := hG.cell (i := 0) (by omega); rw [g0] at d0
  have e4 := hT.cell (i := 4) (by omega); rw [t4] at e4
  have e5 := hT.cell (i := 5) (by omega); rw [t5] at e5
  refine (release_plain C G T used used fr h w cg ct gt c2 c3 c4 c23 d0 e4 e5 (hC.frozen _) (hC.frozen _) (hG.frozen _) (by rw [hT.cell (by omega)]; rfl) (by rw [hT.cell (by omega)]; rfl) (by rw [hT.cell (by omega)]; rfl) (hT.frozen _) (hT.frozen _) (hT.frozen _) (hT.frozen _) (hT.frozen _) (by omega) (by omega) (by omega) (by omega) (by omega) (by omega) (by omega) (by omega)).mono ?_
  rintro e w' ⟨he, hs⟩
  refine ⟨he, ⟨⟨_, fr + h, hs.row (((((((((hC.set 2 _).set 23 _).setOther cg _).setOther ct _).setOther ct _).setOther ct _).setOther ct _).setOther ct _)), by simp [f0], by simp [f1], by simp, by simp [f3], by simp [f4], by simp [f7], by simp [f8], by simp [f9], by simp [f17], by simp [f22], by simp, by simp [f24], by omega, by omega⟩,
    ⟨_, hs.row (((((((((hG.setOther cg.symm _).setOther cg.symm _).set 0 _).setOther gt _).setOther gt _).setOther gt _).setOther gt _).setOther gt _)), by simp, by simp [g1]⟩, cg⟩,
    ⟨_, hs.row (((((((((hT.setOther ct.symm _).setOther ct.symm _).setOther gt.symm _).set 7 _).set 8 _).set 4 _).set 5 _).set 6 _)), by simp, by simp⟩, ?_⟩
  exact Fr.sm (((((((((Fr.refl _ w).setCell _ _ (Or.inl (Or.inl rfl))).setCell _ _ (Or.inl (Or.inl rfl))).setCell _ _ (Or.inl (Or.inr (Or.inl rfl)))).setCell _ _ (Or.inl (Or.inr (Or.inr rfl)))).setCell _ _ (Or.inl (Or.inr (Or.inr rfl)))).setCell _ _ (Or.inl (Or.inr (Or.inr rfl)))).setCell _ _ (Or.inl (Or.inr (Or.inr rfl)))).setCell _ _ (Or.inl (Or.inr (Or.inr rfl)))) hs

set_option maxHeartbeats 1000000 in
theorem pp_ok (C G T k : Nat) (bs tot used peak m tokens : Int) (w : World) (H : PP w C G k bs tot used peak) (hT : w.rowIs T 40 9 T0)
    (b0 : 1 ≤ bs) (b1 : bs ≤ 16) (k0 : 0 ≤ tokens) (k1 : tokens ≤ 199) (hm : (tokens + bs - 1) / bs = m) (m0 : 0 ≤ m) (m1 : m ≤ 1000) (t0 : 0 ≤ tot) (t1 : tot ≤ 1000) (u0 : -900000 ≤ used) (u1 : used ≤ 900000) (hup : used ≤ peak)
    (hroom : tot = 0 ∨ m ≤ tot - used) :
    Calls Ybaf.prog 8 #[.pointer (some ⟨C, 0, none⟩), .pointer (some ⟨T, 0, none⟩), .agg #[.slice none 0 0, .slice none 0 0, .int .i64 0], .int .i64 tokens] w fun e w' => e = .returned (.tuple #[.bool true, .nilIface]) ∧ PP w' C G k bs tot (used + m) (max peak (used + m)) ∧ TB w' T m ∧ Fr (fun k => k = C ∨ k = G ∨ k = T) w w' := by
  obtain ⟨ct, gt⟩ := H.ne (⟨T0, hT, rfl, rfl⟩ : TB w T 0)
  obtain ⟨⟨f, fr, hC, f0, f1, f2, f3, f4, f7, f8, f9, f17, f22, f23, f24, r0, r1⟩, ⟨g, hG, g0, g1⟩, cg⟩ := H
  have hTs := hT.lt
  have hCs := hC.lt
  have c0 := hC.cell (i := 0) (by omega); rw [f0] at c0
  have c1 := hC.cell (i := 1) (by omega); rw [f1] at c1
  have c2 := hC.cell (i := 2) (by omega); rw [f2] at c2
  have c4 := hC.cell (i := 4) (by omega); rw [f4] at c4
  have c7 := hC.cell (i := 7) (by omega); rw [f7] at c7
  have c8 := hC.cell (i := 8) (by omega); rw [f8] at c8
  have c9 := hC.cell (i := 9) (by omega); rw [f9] at c9
  have c17 := hC.cell (i := 17) (by omega); rw [f17] at c17
  have c24 := hC.cell (i := 24) (by omega); rw [f24] at c24
  have d4 : w.cell? ⟨T, 4, none⟩ = some (.int .i64 0) := by simpa [T0] using hT.cell (i := 4) (by omega)
  have d5 : w.cell? ⟨T, 5, none⟩ = some (.slice none 0 0) := by simpa [T0] using hT.cell (i := 5) (by omega)
  have d6 : w.cell? ⟨T, 6, none⟩ = some (.int .i64 0) := by simpa [T0] using hT.cell (i := 6) (by omega)
  have d7 : w.cell? ⟨T, 7, none⟩ = some (.slice none 0 0) := by simpa [T0] using hT.cell (i := 7) (by omega)
  refine admit_ok C T 0 0 none bs m tokens 0 0 w (fun w' => PP w' C G k bs tot (used + m) (max peak (used + m)) ∧ TB w' T m ∧ Fr (fun k => k = C ∨ k = G ∨ k = T) w w') ct hCs hTs c0 c7 c8 c9 c17 c24 d4 d5 d6 d7 (hT.frozen 4) (hT.frozen 5) (hT.frozen 6) (hT.frozen 7) b0 b1 k0 k1 hm m0 m1 (by omega) (by omega) (by omega) (by omega) (by omega) ?_ ?_
  · intro W hW
    have hal : ∀ o, (w.alloc Hit0).cell? ⟨C, o, none⟩ = w.cell? ⟨C, o, none⟩ := fun o => World.cell?_alloc_past _ _ _ hCs
    by_cases hz : tot = 0
    · subst hz
      exact room_unl C used m m W (by rw [hW.cell, hal]; exact c1) (by rw [hW.cell, hal]; exact c2) (by rw [hW.cell, hal]; exact c4) (by omega) (by omega) (by omega)
    · refine (room_lim C tot used m m W (by rw [hW.cell, hal]; exact c1) (by rw [hW.cell, hal]; exact c2) (by omega) (by omega) (by omega) (by omega)).mono ?_
      rintro e w' ⟨rfl, hq⟩
      rw [show decide (m ≤ tot - used) = true by simp; omega]
      exact ⟨rfl, hq⟩
  · intro W hW
    have hWC : W.rowIs C 65 25 f := hW.row (((((hC.alloc _).setOther ct _).setOther ct _).setOther ct _).setOther ct _)
    have hWG : W.rowIs G 25 2 g := hW.row (((((hG.alloc _).setOther gt _).setOther gt _).setOther gt _).setOther gt _)
    have hWT : W.rowIs T 40 9 T0 := hW.row ((((((hT.alloc _).set 5 _).set 4 _).set 6 _).set 7 _).congr fun j hj => by
      by_cases a7 : j = 7
      · subst a7; simp [T0]
      by_cases a6 : j = 6
      · subst a6; simp [T0]
      by_cases a4 : j = 4
      · subst a4; simp [T0]
      by_cases a5 : j = 5
      · subst a5; simp [T0]
      simp [a7, a6, a4, a5])
    have hFr : Fr (fun k => k = C ∨ k = G ∨ k = T) w W := Fr.sm ((((((Fr.refl _ w).alloc _).setCell _ _ (Or.inl (Or.inr (Or.inr rfl)))).setCell _ _ (Or.inl (Or.inr (Or.inr rfl)))).setCell _ _ (Or.inl (Or.inr (Or.inr rfl)))).setCell _ _ (Or.inl (Or.inr (Or.inr rfl)))) hW
    by_cases hz : tokens = 0
    · subst hz
      have hm0 : m = 0 := by rw [← hm]; exact Int.ediv_eq_zero_of_lt (by omega) (by omega)
      subst hm0
      have h4 : W.cell? ⟨T, 4, none⟩ = some (.int .i64 0) := by simpa [T0] using hWT.cell (i := 4) (by omega)
      have h0 := hWC.cell (i := 0) (by omega); rw [f0] at h0
      refine (reserve_none C T bs W h0 h4).mono ?_
      rintro e w' ⟨he, hs⟩
      refine ⟨he, ⟨⟨f, fr, hs.row hWC, f0, f1, by rw [f2, Int.add_zero], f3, f4, f7, f8, f9, f17, f22, f23, f24, r0, r1⟩, ⟨g, hs.row hWG, by rw [g0, Int.add_zero], ?_⟩, cg⟩, ⟨T0, hs.row hWT, rfl, rfl⟩, hFr.sm hs⟩
      rw [g1, Int.add_zero, show max peak used = peak by omega]
    · have w0 := hWC.cell (i := 0) (by omega); rw [f0] at w0
      have w1 := hWC.cell (i := 1) (by omega); rw [f1] at w1
      have w2 := hWC.cell (i := 2) (by omega); rw [f2] at w2
      have w3 := hWC.cell (i := 3) (by omega); rw [f3] at w3
      have w4 := hWC.cell (i := 4) (by omega); rw [f4] at w4
      have x0 := hWG.cell (i := 0) (by omega); rw [g0] at x0
      have x1 := hWG.cell (i := 1) (by omega); rw [g1] at x1
      have h4 : W.cell? ⟨T, 4, none⟩ = some (.int .i64 0) := by simpa [T0] using hWT.cell (i := 4) (by omega)
      refine (reserve_plain C G T bs tot used peak m (max peak (used + m)) tokens W cg ct gt w0 w1 w2 w3 w4 x0 x1 h4 (hWC.frozen _) (hWG.frozen _) (hWG.frozen _) (hWT.frozen _) b0 b1 (by omega) k1 hm m0 m1 t0 (by omega) (by omega) (by omega) hroom rfl).mono ?_
      rintro e w' ⟨he, hs⟩
      refine ⟨he, ⟨⟨_, fr, hs.row ((((hWC.setOther ct _).set 2 _).setOther cg _).setOther cg _), by simp [f0], by simp [f1], by simp, by simp [f3], by simp [f4], by simp [f7], by simp [f8], by simp [f9], by simp [f17], by simp [f22], by simp [f23], by simp [f24], r0, r1⟩,
        ⟨_, hs.row ((((hWG.setOther gt _).setOther cg.symm _).set 0 _).set 1 _), by simp, by simp⟩, cg⟩, ⟨_, hs.row ((((hWT.set 4 _).setOther ct.symm _).setOther gt.symm _).setOther gt.symm _), by simp, by simp [T0]⟩, ?_⟩
      exact Fr.sm ((((hFr.setCell _ _ (Or.inl (Or.inr (Or.inr rfl)))).setCell _ _ (Or.inl (Or.inl rfl))).setCell _ _ (Or.inl (Or.inr (Or.inl rfl)))).setCell _ _ (Or.inl (Or.inr (Or.inl rfl)))) hs

set_option maxHeartbeats 1000000 in
theorem pp_no (C G T k : Nat) (bs tot used peak m tokens : Int) (w : World) (H : PP w C G k bs tot used peak) (hT : w.rowIs T 40 9 T0)
    (b0 : 1 ≤ bs) (b1 : bs ≤ 16) (k0 : 0 ≤ tokens) (k1 : tokens ≤ 199) (hm : (tokens + bs - 1) / bs = m) (m0 : 0 ≤ m) (m1 : m ≤ 1000) (t0 : 0 < tot) (t1 : tot ≤ 1000) (u0 : -900000 ≤ used) (u1 : used ≤ 900000)
    (hno : ¬ m ≤ tot - used) :
    Calls Ybaf.prog 8 #[.pointer (some ⟨C, 0, none⟩), .pointer (some ⟨T, 0, none⟩), .agg #[.slice none 0 0, .slice none 0 0, .int .i64 0], .int .i64 tokens] w fun e w' => e = .returned (.tuple #[.bool false, .nilIface]) ∧ PP w' C G k bs tot used peak ∧ TB w' T 0 ∧ Fr (fun k => k = C ∨ k = G ∨ k = T) w w' := by
  obtain ⟨ct, gt⟩ := H.ne (⟨T0, hT, rfl, rfl⟩ : TB w T 0)
  obtain ⟨⟨f, fr, hC, f0, f1, f2, f3, f4, f7, f8, f9, f17, f22, f23, f24, r0, r1⟩, ⟨g, hG, g0, g1⟩, cg⟩ := H
  have hTs := hT.lt
  have hCs := hC.lt
  have c0 := hC.cell (i := 0) (by omega); rw [f0] at c0
  have c1 := hC.cell (i := 1) (by omega); rw [f1] at c1
  have c2 := hC.cell (i := 2) (by omega); rw [f2] at c2
  have c7 := hC.cell (i := 7) (by omega); rw [f7] at c7
  have c8 := hC.cell (i := 8) (by omega); rw [f8] at c8
  have c9 := hC.cell (i := 9) (by omega); rw [f9] at c9
  have c17 := hC.cell (i := 17) (by omega); rw [f17] at c17
  have c22 := hC.cell (i := 22) (by omega); rw [f22] at c22
  have c23 := hC.cell (i := 23) (by omega); rw [f23] at c23
  have c24 := hC.cell (i := 24) (by omega); rw [f24] at c24
  refine (admit_no C T 0 0 none bs tot used m tokens 0 0 fr w ct hCs hTs c0 c1 c2 c7 c8 c9 c17 c22 c23 c24 (by rw [hC.cell (by omega)]; rfl) (by rw [hC.cell (by omega)]; rfl) (by rw [hC.cell (by omega)]; rfl) (by rw [hC.cell (by omega)]; rfl) (fun i => hC.frozen i) b0 b1 k0 k1 hm m0 m1 (by omega) (by omega) (by omega) (by omega) (by omega) t0 (by omega) (by omega) (by omega) hno).mono ?_
  rintro e w' ⟨he, bb, rr, hs⟩
  have hCrow := ((((((hC.alloc Hit0).set 17 (.int .i64 0)).set 18 (.int .i64 bb)).set 19 (.int .i64 rr)).set 20 (.int .i64 fr)).set 21 (.int .i64 0))
  have hFr : Fr (fun k => k = C) w w' := Fr.sm (((((((Fr.refl (fun k => k = C) w).alloc Hit0).setCell ⟨C, 17, none⟩ (.int .i64 0) (Or.inl rfl)).setCell ⟨C, 18, none⟩ (.int .i64 bb) (Or.inl rfl)).setCell ⟨C, 19, none⟩ (.int .i64 rr) (Or.inl rfl)).setCell ⟨C, 20, none⟩ (.int .i64 fr) (Or.inl rfl)).setCell ⟨C, 21, none⟩ (.int .i64 0) (Or.inl rfl)) hs
  exact ⟨he, ⟨⟨_, fr, hs.row hCrow, by simp [f0], by simp [f1], by simp [f2], by simp [f3], by simp [f4], by simp [f7], by simp [f8], by simp [f9], by simp, by simp [f22], by simp [f23], by simp [f24], r0, r1⟩, ⟨g, hFr.row hG cg.symm, g0, g1⟩, cg⟩,
    ⟨T0, hFr.row hT ct.symm, rfl, rfl⟩, hFr.mono fun _ _ h => Or.inl h⟩

/-- What the pool shows. -/
theorem PP.cells {w : World} {C G k : Nat} {bs tot used peak : Int} (H : PP w C G k bs tot used peak) : w.cell? ⟨C, 2, none⟩ = some (.int .i64 used) ∧ w.cell? ⟨G, 0, none⟩ = some (.int .i64 used) ∧ w.cell? ⟨G, 1, none⟩ = some (.int .i64 peak) ∧ C < w.heap.size ∧ G < w.heap.size := by
  obtain ⟨⟨f, fr, hC, f0, f1, f2, _⟩, ⟨g, hG, g0, g1⟩, _⟩ := H
  have a := hC.cell (i := 2) (by omega); rw [f2] at a
  have b := hG.cell (i := 0) (by omega); rw [g0] at b
  have c := hG.cell (i := 1) (by omega); rw [g1] at c
  exact ⟨a, b, c, hC.lt, hG.lt⟩
theorem TB.cell {w : World} {T : Nat} {h : Int} (H : TB w T h) : w.cell? ⟨T, 4, none⟩ = some (.int .i64 h) ∧ T < w.heap.size := by
  obtain ⟨t, a, b, _⟩ := H
  have c := a.cell (i := 4) (by omega); rw [b] at c
  exact ⟨c, a.lt⟩
end Go.Proofs.YbulkqjiFmt
