/-
  DERIVED. The policy, the numbering and the joining that eval.LawS0846BReach boxes.
-/
import Derived.Test.YbulkqmoLawS
namespace Go.Proofs.Ybulkqmo
open Go.RowKit
set_option linter.unusedVariables false

abbrev PA (fv bv lv : Value) (U : Nat) : Array Value := #[.slice none 0 0, .slice none 0 0, .int .i64 0, .int .u64 0, .slice none 0 0, .slice none 0 0, .slice none 0 0, .slice none 0 0, .slice none 0 0, .int .i64 0, .int .u64 0, .int .u64 0,
  fv, bv, .slice none 0 0, lv, .slice none 0 0, .map none, .map none, .map none, .map (some U), .slice none 0 0, .map none, .slice none 0 0]
abbrev NA (z : Array Value) (Pl AL : Nat) : Array Value := (z.setIfInBounds 0 (.pointer (some ⟨Pl, 0, none⟩))).setIfInBounds 6 (.map (some AL))
abbrev JA (N A n : Nat) : Array Value := #[.pointer (some ⟨N, 0, none⟩), .slice none 0 0, .slice (some ⟨A, 0, none⟩) n n, .map none, .int .i64 0, .int .i64 0, .slice none 0 0, .int .i32 0]
theorem zsize : 7 ≤ Yba.zeroCells78.size := by
  have : Yba.zeroCells78.size = 140 := by kernel_rfl
  omega
theorem na0 (Pl AL : Nat) : (NA Yba.zeroCells78 Pl AL)[0]? = some (.pointer (some ⟨Pl, 0, none⟩)) := by
  have := zsize
  simp [NA]
theorem na6 (Pl AL : Nat) : (NA Yba.zeroCells78 Pl AL)[6]? = some (.map (some AL)) := by
  have := zsize
  simp [NA]
theorem cell_new (w : World) (c : Array Value) (t : TypeId) (i : Nat) : (w.alloc (.cells c t)).cell? ⟨w.heap.size, i, none⟩ = c[i]? := cell_of_row _ _ _ _ _ _ (heap_alloc_new w _)

theorem owns_low {w : World} {base e size n : Nat} {v : Value} {xs : List Value} (h : w.ownsRow base e size v n xs) : w.ownsRow 0 e size v n xs := ⟨h.1, h.2.imp id fun ⟨g, cap, cur, a, b, c⟩ => ⟨g, cap, cur, a, Nat.zero_le _, c⟩⟩

/-- All four boxes. -/
abbrev Boxed (z : Array Value) (d : Dat) (wr : World) (fv bv lv : Value) (U AL : Nat) : World :=
  (((wr.alloc (.cells (PA fv bv lv U) 69)).alloc (.cells (NA z wr.heap.size AL) 78)).alloc (.cells (madeCells #[.int .i32 0] d.n) 21)).alloc (.cells (JA (wr.heap.size + 1) (wr.heap.size + 1 + 1) d.n) 82)

theorem setup {d : Dat} {w0 wr : World} {U Z AL : Nat} {fa : Option Addr} {fc : Nat} {bv lv : Value} {nl : Nat} (H : AS d w0 U Z AL d.n (.slice fa (d.n + 1) fc) bv lv nl wr) (hd : d.Good) :
    ∃ b : Bl, b.N = wr.heap.size + 1 ∧ RI d b (wr.heap.size + 1 + 1) (wr.heap.size + 1 + 1 + 1) (wr.heap.size + 1 + 1) ([], fun _ => 0) 0 (Boxed Yba.zeroCells78 d wr (.slice fa (d.n + 1) fc) bv lv U AL) (Boxed Yba.zeroCells78 d wr (.slice fa (d.n + 1) fc) bv lv U AL) ∧ Below w0.heap.size w0 (Boxed Yba.zeroCells78 d wr (.slice fa (d.n + 1) fc) bv lv U AL) := by
  obtain ⟨xf, xb, xl, h⟩ := H.b.r
  have hfr : New wr (Boxed Yba.zeroCells78 d wr (.slice fa (d.n + 1) fc) bv lv U AL) := ((((Fr.refl _ wr).alloc _).alloc _).alloc _).alloc _
  have e1 : (wr.alloc (.cells (PA (.slice fa (d.n + 1) fc) bv lv U) 69)).heap.size = wr.heap.size + 1 := by simp
  have e2 : ((wr.alloc (.cells (PA (.slice fa (d.n + 1) fc) bv lv U) 69)).alloc (.cells (NA Yba.zeroCells78 wr.heap.size AL) 78)).heap.size = wr.heap.size + 1 + 1 := by simp
  have e3 : (((wr.alloc (.cells (PA (.slice fa (d.n + 1) fc) bv lv U) 69)).alloc (.cells (NA Yba.zeroCells78 wr.heap.size AL) 78)).alloc (.cells (madeCells #[.int .i32 0] d.n) 21)).heap.size = wr.heap.size + 1 + 1 + 1 := by simp
  have e4 : (Boxed Yba.zeroCells78 d wr (.slice fa (d.n + 1) fc) bv lv U AL).heap.size = wr.heap.size + 1 + 1 + 1 + 1 := by simp
  have cP : ∀ i, (Boxed Yba.zeroCells78 d wr (.slice fa (d.n + 1) fc) bv lv U AL).cell? ⟨wr.heap.size, i, none⟩ = (PA (.slice fa (d.n + 1) fc) bv lv U)[i]? := fun i => by
    have hf : New (wr.alloc (.cells (PA (.slice fa (d.n + 1) fc) bv lv U) 69)) (Boxed Yba.zeroCells78 d wr (.slice fa (d.n + 1) fc) bv lv U AL) := (((Fr.refl _ _).alloc _).alloc _).alloc _
    rw [hf.cell (by omega) (fun h => h)]
    exact cell_new _ _ _ _
  have cN : ∀ i, (Boxed Yba.zeroCells78 d wr (.slice fa (d.n + 1) fc) bv lv U AL).cell? ⟨wr.heap.size + 1, i, none⟩ = (NA Yba.zeroCells78 wr.heap.size AL)[i]? := fun i => by
    have hf : New ((wr.alloc (.cells (PA (.slice fa (d.n + 1) fc) bv lv U) 69)).alloc (.cells (NA Yba.zeroCells78 wr.heap.size AL) 78)) (Boxed Yba.zeroCells78 d wr (.slice fa (d.n + 1) fc) bv lv U AL) := ((Fr.refl _ _).alloc _).alloc _
    rw [hf.cell (by omega) (fun h => h), ← e1]
    exact cell_new _ _ _ _
  have hA : (Boxed Yba.zeroCells78 d wr (.slice fa (d.n + 1) fc) bv lv U AL).rowIs (wr.heap.size + 1 + 1) 21 d.n (fun _ => .int .i32 0) := by
    have := World.rowIs_made ((wr.alloc (.cells (PA (.slice fa (d.n + 1) fc) bv lv U) 69)).alloc (.cells (NA Yba.zeroCells78 wr.heap.size AL) 78)) (.int .i32 0) d.n 21
    rw [e2] at this
    exact this.alloc _
  have hJ : (Boxed Yba.zeroCells78 d wr (.slice fa (d.n + 1) fc) bv lv U AL).rowIs (wr.heap.size + 1 + 1 + 1) 82 8 (fun j => (JA (wr.heap.size + 1) (wr.heap.size + 1 + 1) d.n)[j]?.getD undef) := by
    have := World.rowIs_alloc (((wr.alloc (.cells (PA (.slice fa (d.n + 1) fc) bv lv U) 69)).alloc (.cells (NA Yba.zeroCells78 wr.heap.size AL) 78)).alloc (.cells (madeCells #[.int .i32 0] d.n) 21)) (JA (wr.heap.size + 1) (wr.heap.size + 1 + 1) d.n) 82 (fun j => (JA (wr.heap.size + 1) (wr.heap.size + 1 + 1) d.n)[j]?.getD undef) (fun i hi => by rw [Array.getElem?_eq_getElem hi]; rfl)
    rw [e3] at this
    exact this
  have hB := h.new hfr
  obtain ⟨F, hFe⟩ : ∃ F, fa = some ⟨F, 0, none⟩ := by
    rcases h.f.2 with ⟨_, h0⟩ | ⟨g, cap, cur, he, _⟩
    · omega
    · simp at he; exact ⟨g, he.1⟩
  subst hFe
  obtain ⟨sz, S, hS, _, hS2, _⟩ := H.b.m
  have hlt : ∀ {v : Value} {e size n : Nat} {xs : List Value}, wr.ownsRow w0.heap.size e size v n xs → ∀ g, v.ownBlock = some g → g < wr.heap.size + 1 + 1 := fun {v e size n xs} ho g hg => by have := (ho.lt g hg).2; omega
  refine ⟨⟨wr.heap.size + 1, wr.heap.size, AL, U, F, fc, nl, bv, lv, xb, xl⟩, rfl, ⟨⟨.slice none 0 0, [], ?_⟩, ?_, Fr.refl _ _, FQ.refl _ _ _⟩, H.b.be.trans (hfr.below (B := w0.heap.size) H.b.be.size fun k _ h => h)⟩
  · exact ⟨⟨_, hJ, rfl, rfl, rfl⟩, ⟨fun _ => 0, hA, fun i q h => by simp at h, fun _ _ => rfl⟩, World.ownsRow_nil _ _ _ _, by omega, by omega, fun i q h => by simp at h, fun i q h => by simp at h, fun i q _ h => by simp at h, fun i h => absurd h (Nat.not_lt_zero i), ⟨by simp, by simp, fun _ _ => rfl⟩, by omega⟩
  · refine ⟨by rw [cN]; exact na0 _ _, by rw [cN]; exact na6 _ _, by rw [cP]; rfl, by rw [cP]; rfl, by rw [cP]; rfl, by rw [cP]; rfl, fun q hq => ?_, owns_low hB.b, owns_low hB.l, fun q i hq hi => h.body q i hq hi (off_lt hq hi), ⟨sz, S, hS.fr hfr (fun h => h), fun q i hq hi => hS2 q i hq hi (off_lt hq hi)⟩, ⟨d.n, H.a.fr hfr (fun h => h)⟩, Nat.lt_succ_self _, by show wr.heap.size < _; omega, by have := H.a.lt; show AL < _; omega, by have := H.b.m.lt; show U < _; omega, hlt h.f F rfl, hlt h.b, hlt h.l, by omega⟩
    show World.cell? _ ⟨F, q, none⟩ = _
    rw [hB.f.cellAt q (by omega)]
    exact h.fi q (by omega)
end Go.Proofs.Ybulkqmo
