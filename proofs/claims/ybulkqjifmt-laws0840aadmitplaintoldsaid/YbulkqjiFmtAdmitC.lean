/-
  DERIVED. Admit with an empty Hit in a pool that caches, by the pool's state; New with caching.
-/
import Derived.Test.YbulkqjiFmtPool
namespace Go.Proofs.YbulkqjiFmt
open Go.RowKit
set_option linter.unusedVariables false

theorem fl_cells {w : World} {C E : Nat} {f : Nat → Value} {tot r : Int} (h : FL w C E f tot r) : ∃ (en : Option Addr) (n cp : Nat) (first head : Int), f 7 = .slice en n cp ∧ f 8 = .int .i64 first ∧ f 9 = .int .i64 head ∧ (n : Int) ≤ 1000000 ∧ 0 ≤ first ∧ first ≤ 1000000 ∧ 0 ≤ head ∧ head ≤ 1000000 := by
  rcases h with ⟨_, h7, h8, h9⟩ | ⟨_, h7, ⟨_, h8, h9, _⟩ | ⟨_, h8, h9⟩⟩
  · exact ⟨none, 0, 0, 0, 0, h7, h8, h9, by omega, by omega, by omega, by omega, by omega⟩
  · exact ⟨_, 1, 1, 0, 0, h7, h8, h9, by omega, by omega, by omega, by omega, by omega⟩
  · exact ⟨_, 1, 1, 1, 1, h7, h8, h9, by omega, by omega, by omega, by omega, by omega⟩

theorem FL.mono {w w' : World} {C E : Nat} {f f' : Nat → Value} {tot r : Int} (h : FL w C E f tot r) (h7 : f' 7 = f 7) (h8 : f' 8 = f 8) (h9 : f' 9 = f 9) (hE : 0 < tot → ∀ g, w.rowIs E 21 1 g → w'.rowIs E 21 1 g) : FL w' C E f' tot r := by
  rcases h with ⟨a, b, c, d⟩ | ⟨a, b, c⟩
  · exact Or.inl ⟨a, by rw [h7]; exact b, by rw [h8]; exact c, by rw [h9]; exact d⟩
  · refine Or.inr ⟨a, by rw [h7]; exact b, ?_⟩
    rcases c with ⟨c1, c2, c3, c4⟩ | ⟨c1, c2, c3⟩
    · exact Or.inl ⟨c1, by rw [h8]; exact c2, by rw [h9]; exact c3, hE a _ c4⟩
    · exact Or.inr ⟨c1, by rw [h8]; exact c2, by rw [h9]; exact c3⟩

/-- Stores into one other block, and a new block, leave the pool as it is. -/
theorem PS.other {w : World} {C G E base : Nat} {bs tot used peak : Int} {n : Nat} (H : PS w C G E base bs tot used peak n) {w' : World} {T : Nat} (hw : ∀ k, k < w.heap.size → k ≠ T → w'.heap[k]? = w.heap[k]?) {t : TypeId} {k : Nat} {g : Nat → Value} (hT : w.rowIs T t k g) (ht : t = 40)
    (hTC : T ≠ C) (hTG : T ≠ G) (hTE : 0 < tot → T ≠ E) (hT0 : T ≠ 0) : PS w' C G E base bs tot used peak n := by
  obtain ⟨⟨f, v, xs, fr, hC, f0, f1, f2, f3, f4, f5, f6, f17, f22, f23, f24, hfl, hv⟩, ⟨g', hG, g0, g1⟩, hgap⟩ := H
  subst ht
  have h0 : 0 < w.heap.size := by have := hC.lt; omega
  refine ⟨⟨f, v, xs, fr, hC.of_block (hw C hC.lt (fun e => hTC e.symm)), f0, f1, f2, f3, f4, f5, f6, f17, f22, f23, f24, hfl.mono rfl rfl rfl (fun h g hg => hg.of_block (hw E hg.lt (fun e => hTE h e.symm))), ?_⟩, ⟨g', hG.of_block (hw G hG.lt (fun e => hTG e.symm)), g0, g1⟩, ?_⟩
  · refine owns_block hv fun gg hgg => ?_
    have hne := own_ne_row hv hT (by decide)
    rcases hv.2 with ⟨rfl, _⟩ | ⟨g2, cp, cur, rfl, hb, hg, _⟩
    · simp [Value.ownBlock] at hgg
    · simp only [Value.ownBlock, Option.some.injEq] at hgg
      subst hgg
      exact hw g2 (Array.getElem?_eq_some_iff.1 hg).1 (fun e => hne (by simp [Value.ownBlock, e]))
  · rw [show w'.cell? ⟨0, 0, none⟩ = w.cell? ⟨0, 0, none⟩ by simp only [World.cell?, hw 0 h0 (fun e => hT0 e.symm)]]
    exact hgap

theorem blk4 {w : World} {T : Nat} {o : Obj} {a b c d : Nat} {x1 x2 x3 x4 : Value} (k : Nat) (hk : k < w.heap.size) (hn : k ≠ T) :
    (((((w.alloc o).setCell ⟨T, a, none⟩ x1).setCell ⟨T, b, none⟩ x2).setCell ⟨T, c, none⟩ x3).setCell ⟨T, d, none⟩ x4).heap[k]? = w.heap[k]? := by
  rw [Go.Deep.blk_setCell_other _ _ _ _ hn, Go.Deep.blk_setCell_other _ _ _ _ hn, Go.Deep.blk_setCell_other _ _ _ _ hn, Go.Deep.blk_setCell_other _ _ _ _ hn, Go.Deep.blk_alloc_lt _ _ _ hk]

theorem admit_c_ok (C G E T base B n m : Nat) (bs tot used peak tokens : Int) (w : World) (L : Lay0 w C G E base B tot) (H : PS w C G E base bs tot used peak n) (hT : w.rowIs T 40 9 T0) (tb : base ≤ T)
    (b0 : 1 ≤ bs) (b1 : bs ≤ 16) (k0 : 0 ≤ tokens) (k1 : tokens ≤ 199) (hm : (tokens + bs - 1) / bs = m) (m1 : (m : Int) ≤ 1000) (t0 : 0 ≤ tot) (t1 : tot ≤ 1000) (u0 : 0 ≤ used) (u1 : used ≤ 900000) (hn : n ≤ 900000) (hup : used ≤ peak)
    (hroom : tot = 0 ∨ (m : Int) ≤ tot - used) :
    Calls Ybaf.prog 8 #[.pointer (some ⟨C, 0, none⟩), .pointer (some ⟨T, 0, none⟩), .agg #[.slice none 0 0, .slice none 0 0, .int .i64 0], .int .i64 tokens] w fun e w' => e = .returned (.tuple #[.bool true, .nilIface]) ∧ PS w' C G E base bs tot (used + m) (max peak (used + m)) (n + m) ∧ Adm w T B m w' := by
  have H' := H
  obtain ⟨⟨f, v, xs, fr, hC, f0, f1, f2, f3, f4, f5, f6, f17, f22, f23, f24, hfl, hv⟩, ⟨g, hG, g0, g1⟩, hgap⟩ := H
  obtain ⟨en, ne, cp, first, head, f7, f8, f9, e1, e2, e3, e4, e5⟩ := fl_cells hfl
  obtain ⟨ao, cap, rfl⟩ := owns_slice hv
  have hTC : T ≠ C := fun e => by have := L.cb; omega
  have hTG : T ≠ G := fun e => by have := L.gb; omega
  have hTE : 0 < tot → T ≠ E := fun h e => by have := (L.e h).2.1; omega
  have hT0 : T ≠ 0 := fun e => by have := L.cb; omega
  have hTs := hT.lt
  have hCs := hC.lt
  have c0 := hC.cell (i := 0) (by omega); rw [f0] at c0
  have c1 := hC.cell (i := 1) (by omega); rw [f1] at c1
  have c2 := hC.cell (i := 2) (by omega); rw [f2] at c2
  have c4 := hC.cell (i := 4) (by omega); rw [f4] at c4
  have c5 := hC.cell (i := 5) (by omega); rw [f5] at c5
  have c6 := hC.cell (i := 6) (by omega); rw [f6] at c6
  have c7 := hC.cell (i := 7) (by omega); rw [f7] at c7
  have c8 := hC.cell (i := 8) (by omega); rw [f8] at c8
  have c9 := hC.cell (i := 9) (by omega); rw [f9] at c9
  have c17 := hC.cell (i := 17) (by omega); rw [f17] at c17
  have c24 := hC.cell (i := 24) (by omega); rw [f24] at c24
  have d4 : w.cell? ⟨T, 4, none⟩ = some (.int .i64 0) := by simpa [T0] using hT.cell (i := 4) (by omega)
  have d5 : w.cell? ⟨T, 5, none⟩ = some (.slice none 0 0) := by simpa [T0] using hT.cell (i := 5) (by omega)
  have d6 : w.cell? ⟨T, 6, none⟩ = some (.int .i64 0) := by simpa [T0] using hT.cell (i := 6) (by omega)
  have d7 : w.cell? ⟨T, 7, none⟩ = some (.slice none 0 0) := by simpa [T0] using hT.cell (i := 7) (by omega)
  refine admit_ok C T ne cp en bs m tokens first head w (fun w' => PS w' C G E base bs tot (used + m) (max peak (used + m)) (n + m) ∧ Adm w T B m w') (fun e => hTC e.symm) hCs hTs c0 c7 c8 c9 c17 c24 d4 d5 d6 d7 (hT.frozen 4) (hT.frozen 5) (hT.frozen 6) (hT.frozen 7) b0 b1 k0 k1 hm (by omega) m1 e1 e2 e3 e4 e5 ?_ ?_
  · intro W hW
    have hal : ∀ o, (w.alloc Hit0).cell? ⟨C, o, none⟩ = w.cell? ⟨C, o, none⟩ := fun o => World.cell?_alloc_past _ _ _ hCs
    by_cases hz : tot = 0
    · subst hz
      exact room_unlc C _ cap ao used m m W (by rw [hW.cell, hal]; exact c1) (by rw [hW.cell, hal]; exact c2) (by rw [hW.cell, hal]; exact c4) (by rw [hW.cell, hal]; exact c5) (by rw [hW.cell, hal]; exact c6) (by omega) (by omega)
    · refine (room_lim C tot used m m W (by rw [hW.cell, hal]; exact c1) (by rw [hW.cell, hal]; exact c2) (by omega) (by omega) (by omega) (by omega)).mono ?_
      rintro e w' ⟨rfl, hq⟩
      rw [show decide ((m : Int) ≤ tot - used) = true by simp; omega]
      exact ⟨rfl, hq⟩
  · intro W hW
    have hbl : ∀ k, k < w.heap.size → k ≠ T → W.heap[k]? = w.heap[k]? := fun k hk hn => by rw [hW.heap]; exact blk4 k hk hn
    have hps : PS W C G E base bs tot used peak n := H'.other hbl hT rfl hTC hTG hTE hT0
    have hWs : w.heap.size + 1 = W.heap.size := by rw [hW.heap]; simp
    have hWT : W.rowIs T 40 9 T0 := hW.row ((((((hT.alloc _).set 5 _).set 4 _).set 6 _).set 7 _).congr fun j hj => by
      by_cases a7 : j = 7
      · subst a7; simp [T0]
      by_cases a6 : j = 6
      · subst a6; simp [T0]
      by_cases a4 : j = 4
      · subst a4; simp [T0]
      by_cases a5 : j = 5
      · subst a5; simp [T0]
      simp [a7, a6, a4, a5])
    refine (reserve_c C G E T base B n m bs tot used peak tokens W ⟨L.b0, L.bc, L.bg, L.cb, L.gb, L.cg, L.e, by have := L.bw; omega⟩ hps hWT tb b0 b1 k0 k1 hm m1 t0 t1 u0 u1 hn hup hroom).mono ?_
    rintro e w' ⟨he, hp, had, hbel⟩
    refine ⟨he, hp, had, ?_⟩
    have hBT : B ≤ T := by have := L.bc; have := L.cb; omega
    exact (hW.below (((((Below.refl B w).alloc (by have := L.bc; omega) _).setCell hBT _).setCell hBT _).setCell hBT _ |>.setCell hBT _)).trans hbel

theorem admit_c_no (C G E T base B n m : Nat) (bs tot used peak tokens : Int) (w : World) (L : Lay0 w C G E base B tot) (H : PS w C G E base bs tot used peak n) (hT : w.rowIs T 40 9 T0) (tb : base ≤ T)
    (b0 : 1 ≤ bs) (b1 : bs ≤ 16) (k0 : 0 ≤ tokens) (k1 : tokens ≤ 199) (hm : (tokens + bs - 1) / bs = m) (m1 : (m : Int) ≤ 1000) (t0 : 0 < tot) (t1 : tot ≤ 1000) (u0 : 0 ≤ used) (u1 : used ≤ 900000)
    (hno : ¬ (m : Int) ≤ tot - used) :
    Calls Ybaf.prog 8 #[.pointer (some ⟨C, 0, none⟩), .pointer (some ⟨T, 0, none⟩), .agg #[.slice none 0 0, .slice none 0 0, .int .i64 0], .int .i64 tokens] w fun e w' => e = .returned (.tuple #[.bool false, .nilIface]) ∧ PS w' C G E base bs tot used peak n ∧ Adm w T B 0 w' := by
  obtain ⟨⟨f, v, xs, fr, hC, f0, f1, f2, f3, f4, f5, f6, f17, f22, f23, f24, hfl, hv⟩, ⟨g, hG, g0, g1⟩, hgap⟩ := H
  obtain ⟨en, ne, cp, first, head, f7, f8, f9, e1, e2, e3, e4, e5⟩ := fl_cells hfl
  have hTC : T ≠ C := fun e => by have := L.cb; omega
  have hTs := hT.lt
  have hCs := hC.lt
  have c0 := hC.cell (i := 0) (by omega); rw [f0] at c0
  have c1 := hC.cell (i := 1) (by omega); rw [f1] at c1
  have c2 := hC.cell (i := 2) (by omega); rw [f2] at c2
  have c7 := hC.cell (i := 7) (by omega); rw [f7] at c7
  have c8 := hC.cell (i := 8) (by omega); rw [f8] at c8
  have c9 := hC.cell (i := 9) (by omega); rw [f9] at c9
  have c17 := hC.cell (i := 17) (by omega); rw [f17] at c17
  have c22 := hC.cell (i := 22) (by omega); rw [f22] at c22
  have c23 := hC.cell (i := 23) (by omega); rw [f23] at c23
  have c24 := hC.cell (i := 24) (by omega); rw [f24] at c24
  refine (admit_no C T ne cp en bs tot used m tokens first head fr w (fun e => hTC e.symm) hCs hTs c0 c1 c2 c7 c8 c9 c17 c22 c23 c24 (by rw [hC.cell (by omega)]; rfl) (by rw [hC.cell (by omega)]; rfl) (by rw [hC.cell (by omega)]; rfl) (by rw [hC.cell (by omega)]; rfl) (fun i => hC.frozen i) b0 b1 k0 k1 hm (by omega) m1 e1 e2 e3 e4 e5 t0 (by omega) (by omega) (by omega) hno).mono ?_
  rintro e w' ⟨he, bb, rr, hs⟩
  have hvC := own_ne_row hv hC (by decide)
  have hCrow := ((((((hC.alloc Hit0).set 17 (.int .i64 0)).set 18 (.int .i64 bb)).set 19 (.int .i64 rr)).set 20 (.int .i64 fr)).set 21 (.int .i64 0))
  have hbl : ∀ k, k < w.heap.size → k ≠ C → w'.heap[k]? = w.heap[k]? := fun k hk hn => by
    rw [hs.heap, Go.Deep.blk_setCell_other _ _ _ _ hn]; exact blk4 k hk hn
  refine ⟨he, ⟨⟨_, v, xs, fr, hs.row hCrow, by simp [f0], by simp [f1], by simp [f2], by simp [f3], by simp [f4], by simp [f5], by simp [f6], by simp, by simp [f22], by simp [f23], by simp [f24], hfl.mono (by simp) (by simp) (by simp) (fun h g hg => hg.of_block (hbl E hg.lt (L.e h).2.2.1)), ?_⟩, ⟨g, hG.of_block (hbl G hG.lt (fun e => L.cg e.symm)), g0, g1⟩, ?_⟩, ⟨none, 0, ?_, ?_, ?_⟩, ?_⟩
  · refine owns_block hv fun gg hgg => ?_
    rcases hv.2 with ⟨rfl, _⟩ | ⟨g2, cp2, cur, rfl, hb, hg, _⟩
    · simp [Value.ownBlock] at hgg
    · simp only [Value.ownBlock, Option.some.injEq] at hgg
      subst hgg
      exact hbl g2 (Array.getElem?_eq_some_iff.1 hg).1 (fun e => hvC (by simp [Value.ownBlock, e]))
  · rw [show w'.cell? ⟨0, 0, none⟩ = w.cell? ⟨0, 0, none⟩ by simp only [World.cell?, hbl 0 (by omega) (by have := L.b0; have := L.bc; omega)]]
    exact hgap
  · have := (hT.of_block (hbl T hTs hTC)).cell (i := 4) (by omega)
    simpa [T0] using this
  · have := (hT.of_block (hbl T hTs hTC)).cell (i := 5) (by omega)
    simpa [T0] using this
  · have := (hT.of_block (hbl T hTs hTC)).cell (i := 6) (by omega)
    simpa [T0] using this
  · exact hs.below ((((((Below.refl B w).alloc (by have := L.bc; omega) _).setCell L.bc _).setCell L.bc _).setCell L.bc _).setCell L.bc _ |>.setCell L.bc _)
end Go.Proofs.YbulkqjiFmt
