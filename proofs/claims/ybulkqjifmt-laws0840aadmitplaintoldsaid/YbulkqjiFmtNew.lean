/-
  DERIVED. kvcache's New.
-/
import Derived.Test.YbulkqjiFmtAdmitC
namespace Go.Proofs.YbulkqjiFmt
open Go.RowKit
set_option linter.unusedVariables false

/-- A new cache's cells. -/
def CA (G : Nat) (bs tot : Int) (ca : Bool) (ents mp : Value) : Array Value := #[.int .i64 bs, .int .i64 tot, .int .i64 0, .pointer (some ⟨G, 0, none⟩), .bool ca, .slice none 0 0, .slice none 0 0, ents, .int .i64 0, .int .i64 0, .int .i64 0, mp, .slice none 0 0, .slice none 0 0, .slice none 0 0, .slice none 0 0,
  .int .i64 0, .int .i64 0, .int .i64 0, .int .i64 0, .int .i64 0, .int .i64 0, .int .i64 0, .int .i64 0, .pointer none]

set_option maxHeartbeats 1000000 in
set_option maxRecDepth 100000 in
theorem new_lim (G : Nat) (bs tot : Int) (w : World) (b0 : 1 ≤ bs) (b1 : bs ≤ 16) (t0 : 0 < tot) (t1 : tot ≤ 1000) :
    Calls Ybaf.prog 5 #[.int .i64 bs, .int .i64 tot, .bool true, .pointer (some ⟨G, 0, none⟩)] w fun e w' => e = .returned (.pointer (some ⟨w.heap.size, 0, none⟩)) ∧
      w' = ((w.alloc (.cells (CA G bs tot true (.slice (some ⟨w.heap.size + 1, 0, none⟩) 1 1) (.map (some (w.heap.size + 1 + 1)))) 65)).alloc (.cells #[.int .i32 (-1 - tot)] 21)).alloc (.map #[] 0) := by
  have hmm := @run_makeMap Ybaf.prog
  go_enter Ybaf.func5, Ybaf.ntmps5
  go_wp2_with (go_at_call 10; refine (run_any _ _ (by omega) (by omega)).mono ?_; rintro e w' ⟨rfl, rfl⟩)
  go_ret
  exact ⟨rfl, rfl⟩

set_option maxHeartbeats 1000000 in
set_option maxRecDepth 100000 in
theorem new_unl (G : Nat) (bs : Int) (w : World) (b0 : 1 ≤ bs) (b1 : bs ≤ 16) :
    Calls Ybaf.prog 5 #[.int .i64 bs, .int .i64 0, .bool true, .pointer (some ⟨G, 0, none⟩)] w fun e w' => e = .returned (.pointer (some ⟨w.heap.size, 0, none⟩)) ∧
      w' = (w.alloc (.cells (CA G bs 0 true (.slice none 0 0) (.map (some (w.heap.size + 1)))) 65)).alloc (.map #[] 0) := by
  have hmm := @run_makeMap Ybaf.prog
  go_enter Ybaf.func5, Ybaf.ntmps5
  go_wp2_with fail
  go_ret
  exact ⟨rfl, rfl⟩

set_option maxHeartbeats 1000000 in
set_option maxRecDepth 100000 in
theorem new_plain (G : Nat) (bs tot : Int) (w : World) (b0 : 1 ≤ bs) (b1 : bs ≤ 16) (t0 : 0 ≤ tot) (t1 : tot ≤ 1000) :
    Calls Ybaf.prog 5 #[.int .i64 bs, .int .i64 tot, .bool false, .pointer (some ⟨G, 0, none⟩)] w fun e w' => e = .returned (.pointer (some ⟨w.heap.size, 0, none⟩)) ∧
      w' = w.alloc (.cells (CA G bs tot false (.slice none 0 0) (.map none)) 65) := by
  go_enter Ybaf.func5, Ybaf.ntmps5
  go_wp2_with fail
  go_ret
  exact ⟨rfl, rfl⟩

/-- A new pool that caches. -/
theorem new_c (G B : Nat) (bs tot : Int) (w : World) (b0 : 1 ≤ bs) (b1 : bs ≤ 16) (t0 : 0 ≤ tot) (t1 : tot ≤ 1000) (hG : w.rowIs G 25 2 (fun _ => .int .i64 0)) (hB : 0 < B) (hBG : B ≤ G) (hgap : w.cell? ⟨0, 0, none⟩ = some (.int .i32 (-1))) :
    Calls Ybaf.prog 5 #[.int .i64 bs, .int .i64 tot, .bool true, .pointer (some ⟨G, 0, none⟩)] w fun e w' => e = .returned (.pointer (some ⟨w.heap.size, 0, none⟩)) ∧
      ∃ E, PS w' w.heap.size G E w'.heap.size bs tot 0 0 0 ∧ Lay0 w' w.heap.size G E w'.heap.size B tot ∧ Below B w w' := by
  have hGs := hG.lt
  have hgap0 : ∀ o, (w.alloc o).cell? ⟨0, 0, none⟩ = some (.int .i32 (-1)) := fun o => by rw [World.cell?_alloc_past _ _ _ (by omega)]; exact hgap
  by_cases hz : tot = 0
  · subst hz
    refine (new_unl G bs w b0 b1).mono ?_
    rintro e w' ⟨he, hw⟩
    have hCr : (w.alloc (.cells (CA G bs 0 true (.slice none 0 0) (.map (some (w.heap.size + 1)))) 65)).rowIs w.heap.size 65 25 (fun j => (CA G bs 0 true (.slice none 0 0) (.map (some (w.heap.size + 1))))[j]?.getD undef) :=
      World.rowIs_alloc w _ 65 _ (fun i hi => by rw [Array.getElem?_eq_getElem hi]; rfl)
    have hsz : w'.heap.size = w.heap.size + 1 + 1 := by rw [hw]; simp
    refine ⟨he, 0, ⟨⟨_, .slice none 0 0, [], 0, by rw [hw]; exact hCr.alloc _, rfl, rfl, rfl, rfl, rfl, rfl, rfl, rfl, rfl, rfl, rfl, Or.inl ⟨rfl, rfl, rfl, rfl⟩, World.ownsRow_nil _ _ _ _⟩, ⟨_, by rw [hw]; exact (hG.alloc _).alloc _, rfl, rfl⟩, ?_⟩, ⟨hB, by omega, hBG, by omega, by omega, by omega, fun h => by omega, by omega⟩, ?_⟩
    · rw [hw, World.cell?_alloc_past _ _ _ (by simp)]; exact hgap0 _
    · rw [hw]; exact ((Below.refl B w).alloc (by omega) _).alloc (by simp; omega) _
  · refine (new_lim G bs tot w b0 b1 (by omega) t1).mono ?_
    rintro e w' ⟨he, hw⟩
    have hCr : (w.alloc (.cells (CA G bs tot true (.slice (some ⟨w.heap.size + 1, 0, none⟩) 1 1) (.map (some (w.heap.size + 1 + 1)))) 65)).rowIs w.heap.size 65 25 (fun j => (CA G bs tot true (.slice (some ⟨w.heap.size + 1, 0, none⟩) 1 1) (.map (some (w.heap.size + 1 + 1))))[j]?.getD undef) :=
      World.rowIs_alloc w _ 65 _ (fun i hi => by rw [Array.getElem?_eq_getElem hi]; rfl)
    have hEr : ((w.alloc (.cells (CA G bs tot true (.slice (some ⟨w.heap.size + 1, 0, none⟩) 1 1) (.map (some (w.heap.size + 1 + 1)))) 65)).alloc (.cells #[.int .i32 (-1 - tot)] 21)).rowIs (w.heap.size + 1) 21 1 (fun _ => .int .i32 (-1 - tot)) := by
      have := World.rowIs_alloc (w.alloc (.cells (CA G bs tot true (.slice (some ⟨w.heap.size + 1, 0, none⟩) 1 1) (.map (some (w.heap.size + 1 + 1)))) 65)) #[.int .i32 (-1 - tot)] 21 (fun _ => .int .i32 (-1 - tot)) (fun i hi => by
        have : i = 0 := by simp at hi; omega
        subst this; rfl)
      simpa using this
    have hsz : w'.heap.size = w.heap.size + 1 + 1 + 1 := by rw [hw]; simp
    refine ⟨he, w.heap.size + 1, ⟨⟨_, .slice none 0 0, [], 0, by rw [hw]; exact (hCr.alloc _).alloc _, rfl, rfl, rfl, rfl, rfl, rfl, rfl, rfl, rfl, rfl, rfl, Or.inr ⟨by omega, rfl, Or.inl ⟨by omega, rfl, rfl, ?_⟩⟩, World.ownsRow_nil _ _ _ _⟩, ⟨_, by rw [hw]; exact ((hG.alloc _).alloc _).alloc _, rfl, rfl⟩, ?_⟩, ⟨hB, by omega, hBG, by omega, by omega, by omega, fun h => ⟨by omega, by omega, by omega, by omega⟩, by omega⟩, ?_⟩
    · rw [hw]
      exact (hEr.alloc _).congr fun j hj => by rw [show tot - 0 = tot by omega]
    · rw [hw, World.cell?_alloc_past _ _ _ (by simp), World.cell?_alloc_past _ _ _ (by simp)]; exact hgap0 _
    · rw [hw]; exact (((Below.refl B w).alloc (by omega) _).alloc (by simp; omega) _).alloc (by simp; omega) _
end Go.Proofs.YbulkqjiFmt
