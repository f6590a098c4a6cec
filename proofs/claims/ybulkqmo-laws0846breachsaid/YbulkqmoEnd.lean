/-
  DERIVED. What the law's last two loops read.
-/
import Derived.Test.YbulkqmoOwn
namespace Go.Proofs.Ybulkqmo
open Go.RowKit
set_option linter.unusedVariables false

section
variable {d : Dat} {b : Bl} {base J A V Cn Ba Re : Nat} {w0 : World} {s : Bfs.S} {k : Nat} {bf rf : Nat → Bool} {ov : Value} {wr : World}

theorem OS.joined (H : OS d b base J A V Cn Ba Re w0 s k s bf rf ov wr) :
    ∃ ra cR, wr.cell? ⟨J, 1, none⟩ = some (.slice ra s.1.length cR) ∧ wr.cell? ⟨J, 2, none⟩ = some (.slice (some ⟨A, 0, none⟩) d.n d.n) ∧ J < wr.heap.size := by
  obtain ⟨⟨rv, xs, hrs⟩, _⟩ := H.ri
  obtain ⟨_, j1, j2, jl⟩ := hrs.jcells
  obtain ⟨ra, cR, rfl⟩ := owns_slice hrs.r
  exact ⟨ra, cR, j1, j2, jl⟩

theorem OS.record (H : OS d b base J A V Cn Ba Re w0 s k s bf rf ov wr) (hdone : ∀ i q, i < k → s.1[i]? = some q → bf q = d.bareF q (d.len q) ∧ rf q = d.readF q (d.len q)) (hk : ¬ k < s.1.length) {j r : Nat} (hr : s.1[j]? = some r) :
    ∃ R cR, wr.cell? ⟨J, 1, none⟩ = some (.slice (some ⟨R, 0, none⟩) s.1.length cR) ∧ wr.cell? ⟨J, 2, none⟩ = some (.slice (some ⟨A, 0, none⟩) d.n d.n) ∧ J < wr.heap.size ∧ A < wr.heap.size ∧
      wr.cell? ⟨R, 9 * j, none⟩ = some (.int .i32 r) ∧ wr.cell? ⟨R, 9 * j + 1, none⟩ = some (.int .i32 (s.2 r)) ∧ wr.cell? ⟨R, 9 * j + 2, none⟩ = some (.bool (bf r)) ∧ wr.cell? ⟨R, 9 * j + 3, none⟩ = some (.bool (rf r)) ∧
      wr.cell? ⟨R, 9 * j + 4, none⟩ = some (.bool false) ∧ wr.cell? ⟨R, 9 * j + 5, none⟩ = some (.bool false) ∧ wr.cell? ⟨R, 9 * j + 6, none⟩ = some (.bool false) ∧ wr.cell? ⟨R, 9 * j + 7, none⟩ = some (.pointer none) ∧ wr.cell? ⟨R, 9 * j + 8, none⟩ = some (.slice none 0 0) ∧
      wr.cell? ⟨A, r, none⟩ = some (.int .i32 ((j : Int) + 1)) ∧ wr.cell? ⟨Cn, r, none⟩ = some (.int .i32 (s.2 r)) ∧ wr.cell? ⟨Ba, r, none⟩ = some (.bool (bf r)) ∧ wr.cell? ⟨Re, r, none⟩ = some (.bool (rf r)) ∧ r < d.n := by
  obtain ⟨⟨rv, xs, hrs⟩, _⟩ := H.ri
  obtain ⟨_, j1, j2, jl⟩ := hrs.jcells
  obtain ⟨at', ha, a1, a2⟩ := hrs.a
  have hjl := (List.getElem?_eq_some_iff.1 hr).1
  have hrn : r < d.n := H.ok.lt r (List.mem_of_getElem? hr)
  have ho := hrs.r
  have hxl : xs.length = s.1.length * 9 := ho.1
  obtain ⟨d1, d2⟩ := hrs.done j r (by omega) hr
  obtain ⟨e1, e2⟩ := hdone j r (by omega) hr
  rcases ho.2 with ⟨_, h0⟩ | ⟨g, cap, cur, he, hb, _⟩
  · omega
  · subst he
    have get : ∀ i, i < 5 → wr.cell? ⟨g, 9 * j + 4 + i, none⟩ = RestV[i]? := fun i hi => by
      rw [ho.cellAt _ (by omega)]; exact hrs.rest j hjl i hi
    refine ⟨g, cap, j1, j2, jl, ha.lt, by rw [ho.cellAt _ (by omega)]; exact hrs.role j r hr, by rw [ho.cellAt _ (by omega)]; exact hrs.inc j r hr, by rw [ho.cellAt _ (by omega), e1]; exact d1, by rw [ho.cellAt _ (by omega), e2]; exact d2, get 0 (by omega), get 1 (by omega), get 2 (by omega), get 3 (by omega), get 4 (by omega), ?_, H.c.cell hrn, H.ba.cell hrn, H.re.cell hrn, hrn⟩
    rw [ha.cell hrn, a1 j r hr]

theorem OS.unseen (H : OS d b base J A V Cn Ba Re w0 s k s bf rf ov wr) {r : Nat} (hr : r < d.n) (hn : r ∉ s.1) : wr.cell? ⟨A, r, none⟩ = some (.int .i32 0) := by
  obtain ⟨⟨rv, xs, hrs⟩, _⟩ := H.ri
  obtain ⟨at', ha, a1, a2⟩ := hrs.a
  rw [ha.cell hr, a2 r hn]
end
end Go.Proofs.Ybulkqmo
