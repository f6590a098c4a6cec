/-
  DERIVED. THE CACHE's take, FOR EVERY STATE OF ITS FREE LIST in a pool whose blocks have never been freed.
-/
import Derived.Test.YbulkqjiFmtRec
namespace Go.Proofs.YbulkqjiFmt
open Go.RowKit
set_option linter.unusedVariables false

/-- The free list: none in an unlimited pool; else one run of r blocks, or, r being 0, a run that has been passed. -/
def FL (w : World) (C E : Nat) (f : Nat → Value) (tot r : Int) : Prop :=
  (tot = 0 ∧ f 7 = .slice none 0 0 ∧ f 8 = .int .i64 0 ∧ f 9 = .int .i64 0) ∨
  (0 < tot ∧ f 7 = .slice (some ⟨E, 0, none⟩) 1 1 ∧ ((0 < r ∧ f 8 = .int .i64 0 ∧ f 9 = .int .i64 0 ∧ w.rowIs E 21 1 (fun _ => .int .i32 (-1 - r))) ∨ (r = 0 ∧ f 8 = .int .i64 1 ∧ f 9 = .int .i64 1)))

theorem take_any (C E n base : Nat) (v : Value) (xs : List Value) (f : Nat → Value) (tot r : Int) (w : World) (hrow : w.rowIs C 65 25 f) (h1 : f 1 = .int .i64 tot) (h5 : f 5 = v) (h6 : f 6 = .slice none 0 0) (hfl : FL w C E f tot r)
    (hr : tot = 0 ∨ 0 < r) (r1 : r ≤ 1000) (hg : w.cell? ⟨0, 0, none⟩ = some (.int .i32 (-1))) (c0 : C ≠ 0) (hE : 0 < tot → E < base ∧ E ≠ C)
    (hown : w.ownsRow base 73 6 v n xs) (hn : n ≤ 1000000) (hbase : base ≤ w.heap.size) (hC : C < base) :
    Calls Ybaf.prog 40 #[.pointer (some ⟨C, 0, none⟩)] w fun e w' => e = .returned (.int .i32 n) ∧
      ∃ (f' : Nat → Value) (v' : Value) (xs' : List Value), w'.rowIs C 65 25 f' ∧ (∀ j, j ≠ 5 → j ≠ 8 → j ≠ 9 → f' j = f j) ∧ f' 5 = v' ∧ w'.ownsRow base 73 6 v' (n + 1) xs' ∧ FL w' C E f' tot (r - 1) ∧
        Fr (fun k => k = C ∨ v.ownBlock = some k ∨ (0 < tot ∧ k = E)) w w' := by
  have c1 := hrow.cell (i := 1) (by omega); rw [h1] at c1
  have c5 := hrow.cell (i := 5) (by omega); rw [h5] at c5
  have c6 := hrow.cell (i := 6) (by omega); rw [h6] at c6
  have hCs : C < w.heap.size := by omega
  rcases hfl with ⟨rfl, h7, h8, h9⟩ | ⟨t0, h7, hcase⟩
  · refine (take_unl C n base v xs w c1 c5 c6 (hrow.frozen 5) hown hn hbase hC).mono ?_
    rintro e w' ⟨he, v', xs', ho, hr', hf⟩
    refine ⟨he, _, v', xs', hr' f hrow, fun j h5 _ _ => by simp [h5], by simp, ho, Or.inl ⟨rfl, by simp [h7], by simp [h8], by simp [h9]⟩, hf.mono fun k _ hk => ?_⟩
    rcases hk with h | h | h
    · exact Or.inl h
    · exact Or.inr (Or.inl h)
    · exact h.elim
  · obtain ⟨hEb, hEC⟩ := hE t0
    have c7 := hrow.cell (i := 7) (by omega); rw [h7] at c7
    rcases hcase with ⟨r0, h8, h9, hE1⟩ | ⟨rfl, _, _⟩
    · have c8 := hrow.cell (i := 8) (by omega); rw [h8] at c8
      have c9 := hrow.cell (i := 9) (by omega); rw [h9] at c9
      have ce := hE1.cell (i := 0) (by omega)
      have hne := owns_ne hown hEb
      have hneC := owns_ne hown hC
      by_cases hr2 : 2 ≤ r
      · refine take_lim C n base v tot w c1 t0 (fun W => Sm W (w.setCell ⟨E, 0, none⟩ (.int .i32 (-1 - r + 1)))) _ (ltake_many C E (-1 - r) w (fun e => hEC e.symm) c7 c8 ce (hE1.frozen 0) (by omega) (by omega)) ?_
        intro W hW
        have hWrow : W.rowIs C 65 25 f := hW.row (hrow.setOther (fun e => hEC e.symm) _)
        have d5 := hWrow.cell (i := 5) (by omega); rw [h5] at d5
        have d6 := hWrow.cell (i := 6) (by omega); rw [h6] at d6
        have hWE : W.rowIs E 21 1 (fun _ => .int .i32 (-1 - (r - 1))) := hW.row ((hE1.set 0 _).congr fun j hj => by
          have : j = 0 := by omega
          subst this
          simp
          omega)
        have hWown : W.ownsRow base 73 6 v n xs := owns_block hown fun g hg => by rw [hW.heap]; exact Go.Deep.blk_setCell_other _ _ _ _ (fun e => hne (by rw [hg, e]))
        refine (record_any C n base v xs W d5 d6 (hWrow.frozen 5) hWown hn (by rw [hW.heap]; simpa using hbase) hC).mono ?_
        rintro e w' ⟨he, v', xs', ho, hr', hf⟩
        refine ⟨he, _, v', xs', hr' f hWrow, fun j h5 _ _ => by simp [h5], by simp, ho, Or.inr ⟨t0, by simp [h7], Or.inl ⟨by omega, by simp [h8], by simp [h9], hf.row hWE (fun h => ?_)⟩⟩, ?_⟩
        · rcases h with h | h | h
          · exact hEC h
          · exact hne h
          · exact h
        · have hfw : Fr (fun k => k = C ∨ v.ownBlock = some k ∨ (0 < tot ∧ k = E)) w W := ((Fr.refl _ w).setCell _ _ (Or.inl (Or.inr (Or.inr ⟨t0, rfl⟩)))).sm hW
          refine hfw.trans (hf.mono fun k _ hk => ?_)
          rcases hk with h | h | h
          · exact Or.inl h
          · exact Or.inr (Or.inl h)
          · exact h.elim
      · have e1 : r = 1 := by omega
        subst e1
        refine take_lim C n base v tot w c1 t0 (fun W => Sm W ((w.setCell ⟨C, 8, none⟩ (.int .i64 1)).setCell ⟨C, 9, none⟩ (.int .i64 1))) _ (ltake_one C E w (fun e => hEC e.symm) c7 c8 c9 (by simpa using ce) (hrow.frozen 8) (hrow.frozen 9) hg c0) ?_
        intro W hW
        have hWrow : W.rowIs C 65 25 _ := hW.row ((hrow.set 8 (.int .i64 1)).set 9 (.int .i64 1))
        have d5 := hWrow.cell (i := 5) (by omega); simp [h5] at d5
        have d6 := hWrow.cell (i := 6) (by omega); simp [h6] at d6
        have hWown : W.ownsRow base 73 6 v n xs := owns_block hown fun g hg => by
          rw [hW.heap, Go.Deep.blk_setCell_other _ _ _ _ (fun e => hneC (by rw [hg, e])), Go.Deep.blk_setCell_other _ _ _ _ (fun e => hneC (by rw [hg, e]))]
        refine (record_any C n base v xs W d5 d6 (hWrow.frozen 5) hWown hn (by rw [hW.heap]; simpa using hbase) hC).mono ?_
        rintro e w' ⟨he, v', xs', ho, hr', hf⟩
        refine ⟨he, _, v', xs', hr' _ hWrow, fun j h5 h8 h9 => by simp [h5, h8, h9], by simp, ho, Or.inr ⟨t0, by simp [h7], Or.inr ⟨by omega, by simp, by simp⟩⟩, ?_⟩
        have hfw : Fr (fun k => k = C ∨ v.ownBlock = some k ∨ (0 < tot ∧ k = E)) w W := (((Fr.refl _ w).setCell _ _ (Or.inl (Or.inl rfl))).setCell _ _ (Or.inl (Or.inl rfl))).sm hW
        refine hfw.trans (hf.mono fun k _ hk => ?_)
        rcases hk with h | h | h
        · exact Or.inl h
        · exact Or.inr (Or.inl h)
        · exact h.elim
    · rcases hr with h | h
      · omega
      · omega
end Go.Proofs.YbulkqjiFmt
