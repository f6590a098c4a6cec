/-
  DERIVED. (*parser).enter of cli: a command without New; a command whose New is the law's closure.
-/
import Derived.Test.YbulkqncFlags
import Derived.Test.YbulkqncEq
namespace Go.Proofs.Ybulkqnc
open Go.RowKit
set_option linter.unusedVariables false

theorem row_ne {w : World} {a b : Nat} {t u : TypeId} {n m : Nat} {f g : Nat → Value} (h : w.rowIs a t n f) (k : w.rowIs b u m g) (hne : t ≠ u) : a ≠ b := fun e => by
  subst e
  obtain ⟨c1, h1, _⟩ := h
  obtain ⟨c2, h2, _⟩ := k
  rw [h1] at h2
  cases h2
  exact hne rfl
theorem owns_set {w : World} {base e size n : Nat} {v : Value} {xs : List Value} (h : w.ownsRow base e size v n xs) {X t m : Nat} {f : Nat → Value} (hX : w.rowIs X t m f) (ht : t ≠ e) (j : Nat) (u : Value) : (w.setCell ⟨X, j, none⟩ u).ownsRow base e size v n xs :=
  owns_block h fun g hg => Go.Deep.blk_setCell_other _ _ _ _ (fun e' => owns_ne_row h hX ht (by rw [hg, e']))

set_option maxHeartbeats 1000000 in
set_option maxRecDepth 100000 in
theorem enter_nil (PA C base n : Nat) (pv : Value) (ca : Option Addr) (cl cc : Nat) (xs : List Value) (f g : Nat → Value) (w : World)
    (hP : w.rowIs PA 45 8 f) (hf1 : f 1 = pv) (hC : w.rowIs C 28 4 g) (hg2 : g 2 = .slice ca cl cc) (hg3 : g 3 = .nilFunc) (hown : w.ownsRow base 24 1 pv n xs) (hn : n ≤ 7) (hbase : base ≤ w.heap.size) :
    Calls Yba.prog 5 #[ptr PA, ptr C] w fun e w' => e = .returned (.tuple #[]) ∧ ∃ pv', w'.ownsRow base 24 1 pv' (n + 1) (xs ++ [ptr C]) ∧ w'.rowIs PA 45 8 (fun j => if j = 1 then pv' else if j = 2 then .slice ca cl cc else f j) ∧ Fr (fun k => k = PA ∨ pv.ownBlock = some k) w w' := by
  obtain ⟨pv', w1, hr', ho, hf⟩ := pushN base n 1 8 23 24 _ pv xs [ptr C] w (w.alloc (.cells #[ptr C] 24)) Yba.underlying23 info24 (by rfl) (by omega) (by intro u hu; simp at hu; subst hu; rfl) hown (by rfl) (by omega) (by omega) hbase (Sm.refl _)
  have hPC := row_ne hP hC (by decide)
  have p1 := hP.cell (i := 1) (by omega)
  rw [hf1] at p1
  have hP1 := hf.row hP (owns_ne_row hown hP (by decide))
  have hC1 := hf.row hC (owns_ne_row hown hC (by decide))
  obtain ⟨pa, pc, rfl⟩ := owns_slice hown
  obtain ⟨pa', pc', rfl⟩ := owns_slice ho
  have q1 := hP1.cell (i := 1) (by omega)
  have q2 := hP1.cell (i := 2) (by omega)
  have fz := hP1.frozen 1
  have fz2 := hP1.frozen 2
  have c2 := hC1.cell (i := 2) (by omega)
  have c3 := hC1.cell (i := 3) (by omega)
  rw [hg2] at c2
  rw [hg3] at c3
  have hCP : C ≠ PA := fun e => hPC e.symm
  have hPw := hP.lt
  have hr : Hid _ := hr'
  have HE : Hid (((w1.setCell ⟨PA, 1, none⟩ (.slice pa' (n + 1) pc')).setCell ⟨PA, 2, none⟩ (.slice ca cl cc)).ownsRow base 24 1 (.slice pa' (n + 1) pc') (n + 1) (xs ++ [ptr C]) ∧ ((w1.setCell ⟨PA, 1, none⟩ (.slice pa' (n + 1) pc')).setCell ⟨PA, 2, none⟩ (.slice ca cl cc)).rowIs PA 45 8 (fun j => if j = 1 then .slice pa' (n + 1) pc' else if j = 2 then .slice ca cl cc else f j) ∧
      Fr (fun k => k = PA ∨ (Value.slice pa n pc).ownBlock = some k) w ((w1.setCell ⟨PA, 1, none⟩ (.slice pa' (n + 1) pc')).setCell ⟨PA, 2, none⟩ (.slice ca cl cc))) := by
    refine ⟨owns_set (owns_set ho hP1 (by decide) _ _) (hP1.set 1 _) (by decide) _ _, ((hP1.set 1 _).set 2 _).congr fun j hj => ?_, ((hf.mono (S' := fun k => k = PA ∨ (Value.slice pa n pc).ownBlock = some k) fun k _ h => Or.inr h).setCell ⟨PA, 1, none⟩ _ (Or.inl (Or.inl rfl))).setCell ⟨PA, 2, none⟩ _ (Or.inl (Or.inl rfl))⟩
    by_cases h1 : j = 1
    · subst h1; simp
    · by_cases h2 : j = 2 <;> simp [h1, h2]
  clear hr' ho hf hP hC hP1 hC1 hown hPC
  have hnn := neq_nil
  go_enter Yba.func5, Yba.ntmps5
  go_wp2_with (at_builtin; refine list_app rfl _ _ _ rfl _ _ _ _ rfl rfl hr.out ?_)
  go_end0
  exact ⟨rfl, _, HE.out⟩
end Go.Proofs.Ybulkqnc
