/-
  DERIVED. What cli.LawS0847AEnter reads behind the call of enter.
-/
import Derived.Test.YbulkqncState
namespace Go.Proofs.Ybulkqnc
open Go.RowKit
set_option linter.unusedVariables false

theorem neq22n (W : World) : (binOp .neq 22 (.slice none 0 0) (.slice none 0 0)).run Yba.prog W = .ok (.bool false) W := by kernel_rfl
theorem neq22s (a : Addr) (n c : Nat) (W : World) : (binOp .neq 22 (.slice (some a) n c) (.slice none 0 0)).run Yba.prog W = .ok (.bool true) W := run_neq_slice_nil_any W _ _ (some a) n c 0 0 Yba.underlying22
theorem neq43n (W : World) : (binOp .neq 43 (.slice none 0 0) (.slice none 0 0)).run Yba.prog W = .ok (.bool false) W := by kernel_rfl
theorem eql25n (W : World) : (binOp .eql 25 (.slice none 0 0) (.slice none 0 0)).run Yba.prog W = .ok (.bool true) W := by kernel_rfl
theorem eql25s (a : Addr) (n c : Nat) (W : World) : (binOp .eql 25 (.slice (some a) n c) (.slice none 0 0)).run Yba.prog W = .ok (.bool false) W := by kernel_rfl
theorem neq9 (s : ByteArray) (W : World) : (binOp .neq 9 (.string s) (.string s)).run Yba.prog W = .ok (.bool false) W := by go_simp
theorem mkC (ns : Nat) (hns : ns ≤ 1024) (W : World) : (Instr.makeSlice 25 (.int .i64 (ns : Int)) (.int .i64 (ns : Int))).run Yba.prog W = .ok (.slice (some ⟨W.heap.size, 0, none⟩) ns ns) (W.alloc (.cells (madeCells (CmdC #[] (.slice none 0 0) .nilFunc) (ns * 4)) 28)) := by
  obtain ⟨i0, hi, hzz⟩ := Option.map_eq_some_iff.1 info28
  simp only [Prod.mk.injEq] at hzz
  obtain ⟨hz', hs, hb⟩ := hzz
  have := run_make (P := Yba.prog) W 25 28 i0 _ Yba.underlying25 hi hz' .i64 .i64 (ns : Int) (ns : Int) (by omega) (by omega) (by rw [hb]; omega) (by omega)
  rw [hs] at this
  simpa [Value.cells] using this
theorem row_mk (W : World) (z : Array Value) (m : Nat) : ∃ h, (W.alloc (.cells (madeCells z m) 28)).rowIs W.heap.size 28 m h := by
  have := World.rowIs_alloc W (madeCells z m) 28 (fun j => (madeCells z m)[j]?.getD undef) (fun j hj => by rw [Array.getElem?_eq_getElem hj]; rfl)
  rw [size_madeCells] at this
  exact ⟨_, this⟩

section
variable {w : World} {n np : Nat} {pv : Value} {ps : List (Option Addr)} {PC OF FC FS PA : Nat} {fs : Nat → Option Addr} {f : Nat → Value} {Y : World}
/-- The leaf, its variable, the count, the command. -/
abbrev Made (Y : World) (names cv nv : Value) : World := (((Y.alloc (.cells #[names, .int .i64 0] 48)).alloc (.cells #[ptr Y.heap.size] 46)).alloc (.cells #[.int .i64 0] 3)).alloc (.cells (CmdC #[99] cv nv) 28)

theorem G.made (H : G w n np pv ps PC OF FC FS PA fs f Y) (names cv nv : Value) :
    G w n np pv ps PC OF FC FS PA fs f (Made Y names cv nv) ∧ (Made Y names cv nv).rowIs Y.heap.size 48 2 (fun j => if j = 0 then names else .int .i64 0) ∧ (Made Y names cv nv).rowIs (Y.heap.size + 1) 46 1 (fun _ => ptr Y.heap.size) ∧
      (Made Y names cv nv).rowIs (Y.heap.size + 1 + 1) 3 1 (fun _ => .int .i64 0) ∧ (Made Y names cv nv).rowIs (Y.heap.size + 1 + 1 + 1) 28 4 (fun j => (CmdC #[99] cv nv)[j]?.getD undef) ∧ w.heap.size ≤ Y.heap.size := by
  have e1 : (Y.alloc (.cells #[names, .int .i64 0] 48)).heap.size = Y.heap.size + 1 := by simp
  have e2 : ((Y.alloc (.cells #[names, .int .i64 0] 48)).alloc (.cells #[ptr Y.heap.size] 46)).heap.size = Y.heap.size + 1 + 1 := by simp
  have e3 : (((Y.alloc (.cells #[names, .int .i64 0] 48)).alloc (.cells #[ptr Y.heap.size] 46)).alloc (.cells #[.int .i64 0] 3)).heap.size = Y.heap.size + 1 + 1 + 1 := by simp
  have r1 := World.rowIs_alloc Y #[names, .int .i64 0] 48 (fun j => if j = 0 then names else .int .i64 0) (fun j hj => by
        have : j = 0 ∨ j = 1 := by simp at hj; omega
        rcases this with rfl | rfl <;> rfl)
  have r2 := World.rowIs_alloc (Y.alloc (.cells #[names, .int .i64 0] 48)) #[ptr Y.heap.size] 46 (fun _ => ptr Y.heap.size) (fun j hj => by
        have : j = 0 := by simp at hj; omega
        rw [this]; rfl)
  have r3 := World.rowIs_alloc ((Y.alloc (.cells #[names, .int .i64 0] 48)).alloc (.cells #[ptr Y.heap.size] 46)) #[.int .i64 0] 3 (fun _ => .int .i64 0) (fun j hj => by
        have : j = 0 := by simp at hj; omega
        rw [this]; rfl)
  have r4 := World.rowIs_alloc (((Y.alloc (.cells #[names, .int .i64 0] 48)).alloc (.cells #[ptr Y.heap.size] 46)).alloc (.cells #[.int .i64 0] 3)) (CmdC #[99] cv nv) 28 (fun j => (CmdC #[99] cv nv)[j]?.getD undef) (fun j hj => by rw [Array.getElem?_eq_getElem hj]; rfl)
  rw [e1] at r2
  rw [e2] at r3
  rw [e3] at r4
  exact ⟨H.new ((((Fr.refl _ Y).alloc _).alloc _).alloc _ |>.alloc _), ((r1.alloc _).alloc _).alloc _, (r2.alloc _).alloc _, r3.alloc _, r4, H.a.fr.size⟩
end

/-- What lies there behind enter. -/
structure Q (w : World) (n np m : Nat) (pv flv names : Value) (ps : List (Option Addr)) (PC FC FS PA C LF LV NW : Nat) (fs : Nat → Option Addr) (f : Nat → Value) (cnt : Int) (zs : List Value) (wr : World) : Prop where
  p : wr.rowIs PA 45 8 f
  o : wr.ownsRow w.heap.size 24 1 pv (n + 1) (ps.map Value.pointer ++ [ptr C])
  len : ps.length = n
  pc : wr.rowIs PC 24 n (fun j => (ps.map Value.pointer)[j]?.getD undef)
  fl : wr.ownsRow w.heap.size 30 1 flv m zs
  fc : wr.rowIs FC 30 np (fun j => .pointer (fs j))
  zs0 : ∀ j, j < np → zs[j]? = some (.pointer (fs j))
  nw : wr.rowIs NW 3 1 (fun _ => .int .i64 cnt)
  lv : wr.rowIs LV 46 1 (fun _ => ptr LF)
  lf : wr.rowIs LF 48 2 (fun j => if j = 0 then names else .int .i64 cnt)
  fsr : wr.rowIs FS 38 2 (fun _ => .slice none 0 0)
  be : Below w.heap.size w wr

section
variable {w : World} {n np m : Nat} {pv flv names : Value} {ps : List (Option Addr)} {PC FC FS PA C LF LV NW : Nat} {fs : Nat → Option Addr} {f : Nat → Value} {cnt : Int} {zs : List Value} {wr w' : World}
theorem Q.sm (H : Q w n np m pv flv names ps PC FC FS PA C LF LV NW fs f cnt zs wr) (h : Sm w' wr) : Q w n np m pv flv names ps PC FC FS PA C LF LV NW fs f cnt zs w' :=
  ⟨h.row H.p, h.owns H.o, H.len, h.row H.pc, h.owns H.fl, h.row H.fc, H.zs0, h.row H.nw, h.row H.lv, h.row H.lf, h.row H.fsr, h.below H.be⟩
theorem Q.path (H : Q w n np m pv flv names ps PC FC FS PA C LF LV NW fs f cnt zs wr) :
    ∃ g c, pv = .slice (some ⟨g, 0, none⟩) (n + 1) c ∧ wr.cell? ⟨g, n, none⟩ = some (ptr C) ∧ ∀ j, j < n → ∃ y, wr.cell? ⟨g, j, none⟩ = some (.pointer y) ∧ wr.cell? ⟨PC, j, none⟩ = some (.pointer y) := by
  have ho := H.o
  rcases ho.2 with ⟨_, h0⟩ | ⟨g, cap, cur, he, _⟩
  · omega
  · subst he
    refine ⟨g, cap, rfl, ?_, fun j hj => ?_⟩
    · rw [ho.cellAt n (by omega), List.getElem?_append_right (by simp [H.len]), List.length_map, H.len]
      simp
    · have hl : j < ps.length := by rw [H.len]; exact hj
      refine ⟨ps[j], ?_, ?_⟩
      · rw [ho.cellAt j (by omega), List.getElem?_append_left (by simpa using hl), List.getElem?_map, List.getElem?_eq_getElem hl]
        rfl
      · rw [H.pc.cell hj, List.getElem?_map, List.getElem?_eq_getElem hl]
        rfl
theorem Q.flags (H : Q w n np m pv flv names ps PC FC FS PA C LF LV NW fs f cnt zs wr) (hm : np ≤ m) {j : Nat} (hj : j < np) :
    ∃ g c y, flv = .slice (some ⟨g, 0, none⟩) m c ∧ wr.cell? ⟨g, j, none⟩ = some (.pointer y) ∧ wr.cell? ⟨FC, j, none⟩ = some (.pointer y) := by
  have ho := H.fl
  rcases ho.2 with ⟨_, h0⟩ | ⟨g, cap, cur, he, _⟩
  · omega
  · subst he
    exact ⟨g, cap, fs j, rfl, by rw [ho.cellAt j (by omega)]; exact H.zs0 j hj, H.fc.cell hj⟩
end

section
variable {w : World} {n np : Nat} {pv names cv nv : Value} {ps : List (Option Addr)} {PC OF FC FS PA : Nat} {fs : Nat → Option Addr} {f : Nat → Value} {Y w' : World}
theorem G.flown (H : G w n np pv ps PC OF FC FS PA fs f Y) (hnp : np ≤ 1024) : Y.ownsRow w.heap.size 30 1 (.slice (some ⟨OF, 0, none⟩) np np) np ((List.range np).map fun j => .pointer (fs j)) := row_owns H.a.of H.a.bo (by unfold maxLen; omega)

theorem range_get {np j : Nat} (fs : Nat → Option Addr) (h : j < np) : ((List.range np).map fun j => Value.pointer (fs j))[j]? = some (.pointer (fs j)) := by
  rw [List.getElem?_map, List.getElem?_range h]
  rfl

theorem fin_nil {LF LV NW C : Nat} {pv' : Value} {f' : Nat → Value} (hnp : np ≤ 1024) (H : G w n np pv ps PC OF FC FS PA fs f Y) (hlf : Y.rowIs LF 48 2 (fun j => if j = 0 then names else .int .i64 0)) (hlv : Y.rowIs LV 46 1 (fun _ => ptr LF)) (hnw : Y.rowIs NW 3 1 (fun _ => .int .i64 0))
    (ho : w'.ownsRow w.heap.size 24 1 pv' (n + 1) (ps.map Value.pointer ++ [ptr C])) (hp : w'.rowIs PA 45 8 f') (hf : Fr (fun k => k = PA ∨ pv.ownBlock = some k) Y w') :
    Q w n np np pv' (.slice (some ⟨OF, 0, none⟩) np np) names ps PC FC FS PA C LF LV NW fs f' 0 ((List.range np).map fun j => .pointer (fs j)) w' := by
  have no : ∀ {X t m g}, Y.rowIs X t m g → t ≠ 45 → pv.ownBlock ≠ some X → ¬ (X = PA ∨ pv.ownBlock = some X) := fun hX ht hn h => h.elim (row_ne hX H.pa ht) hn
  have rr : ∀ {X t m g}, Y.rowIs X t m g → t ≠ 45 → t ≠ 24 → w'.rowIs X t m g := fun hX ht h24 => hf.row hX (no hX ht (owns_ne_row H.a.o hX h24))
  refine ⟨hp, ho, H.a.len, hf.row H.a.pc (no H.a.pc (by decide) H.a.ap), row_owns (rr H.a.of (by decide) (by decide)) H.a.bo (by unfold maxLen; omega), rr H.fc (by decide) (by decide), fun j hj => range_get fs hj, rr hnw (by decide) (by decide), rr hlv (by decide) (by decide), rr hlf (by decide) (by decide), rr H.fsr (by decide) (by decide), ?_⟩
  have a1 := H.a.fr.trans' hf (fun k hk h => by
    rcases h with h | h
    · have := H.bp; omega
    · exact (H.a.o.lt k h).1)
  exact a1.below (Nat.le_refl _) fun k hk h => by omega

/-- .. and where New was there: the new set of flags. -/
structure QN (w : World) (n np nl : Nat) (pv flv fv names : Value) (ps : List (Option Addr)) (PC FC FS PA C LF LV NW SE : Nat) (fs : Nat → Option Addr) (f : Nat → Value) (nm : Nat → ByteArray) (gs : List Nat) (wr : World) : Prop where
  q : Q w n np (np + nl) pv flv names ps PC FC FS PA C LF LV NW fs f 1 (((List.range np).map fun j => .pointer (fs j)) ++ gs.map ptr) wr
  se : wr.rowIs SE 38 2 (fun j => if j = 0 then fv else .slice none 0 0)
  sf : wr.ownsRow w.heap.size 30 1 fv nl (gs.map ptr)
  nm : ∀ j g, gs[j]? = some g → wr.cell? ⟨g, 0, none⟩ = some (.string (nm j))
  len : gs.length = nl
  ne : SE ≠ FS
theorem QN.sm {nl : Nat} {flv fv : Value} {C LF LV NW SE : Nat} {nm : Nat → ByteArray} {gs : List Nat} {wr : World} (H : QN w n np nl pv flv fv names ps PC FC FS PA C LF LV NW SE fs f nm gs wr) (h : Sm w' wr) : QN w n np nl pv flv fv names ps PC FC FS PA C LF LV NW SE fs f nm gs w' :=
  ⟨H.q.sm h, h.row H.se, h.owns H.sf, fun j g hj => by rw [h.cell]; exact H.nm j g hj, H.len, H.ne⟩

theorem fin_new {LF LV NW C SE nl : Nat} {pv' flv' fv : Value} {nm : Nat → ByteArray} {gs : List Nat} (hnp : np ≤ 1024) (H : G w n np pv ps PC OF FC FS PA fs f Y) (hlv : Y.rowIs LV 46 1 (fun _ => ptr LF)) (hnw : w.heap.size ≤ NW) (hlf : Y.rowIs LF 48 2 (fun j => if j = 0 then names else .int .i64 0)) (hlb : w.heap.size ≤ LF) (hNr : Y.rowIs NW 3 1 (fun _ => .int .i64 0))
    (E : EP PA C NW LF SE w.heap.size n np nl pv pv' (.slice (some ⟨OF, 0, none⟩) np np) flv' fv cv names (ps.map Value.pointer) ((List.range np).map fun j => .pointer (fs j)) nm gs f Y w') :
    QN w n np nl pv' flv' fv names ps PC FC FS PA C LF LV NW SE fs (fun j => if j = 1 then pv' else if j = 2 then cv else if j = 3 then .iface 46 (ptr LF) else if j = 4 then ptr SE else if j = 6 then flv' else f j) nm gs w' := by
  have hfl := H.flown hnp
  have no : ∀ {X t m g}, Y.rowIs X t m g → t ≠ 45 → t ≠ 3 → t ≠ 48 → pv.ownBlock ≠ some X → X ≠ OF → ¬ (X = PA ∨ X = NW ∨ X = LF ∨ pv.ownBlock = some X ∨ (Value.slice (some ⟨OF, 0, none⟩) np np).ownBlock = some X) := fun hX h1 h2 h3 h4 h5 h => by
    rcases h with h | h | h | h | h
    · exact row_ne hX H.pa h1 h
    · exact row_ne hX hNr h2 h
    · exact row_ne hX hlf h3 h
    · exact h4 h
    · simp [Value.ownBlock] at h; exact h5 h.symm
  have hPO := row_ne H.a.pc H.a.of (by decide)
  have hfs := H.fsr.lt
  refine ⟨⟨E.p, E.o, H.a.len, E.fr.row H.a.pc (no H.a.pc (by decide) (by decide) (by decide) H.a.ap hPO), E.fl, E.fr.row H.fc (no H.fc (by decide) (by decide) (by decide) (owns_ne_row H.a.o H.fc (by decide)) H.fo), fun j hj => ?_, E.nw, E.fr.row hlv (no hlv (by decide) (by decide) (by decide) (owns_ne_row H.a.o hlv (by decide)) (row_ne hlv H.a.of (by decide))), E.lf, E.fr.row H.fsr (no H.fsr (by decide) (by decide) (by decide) (owns_ne_row H.a.o H.fsr (by decide)) (row_ne H.fsr H.a.of (by decide))), ?_⟩, E.se, E.sf, E.nm, E.len, by have := E.hse; omega⟩
  · rw [List.getElem?_append_left (by simpa using hj)]
    exact range_get fs hj
  · have a1 := H.a.fr.trans' E.fr (fun k hk h => by
      rcases h with h | h | h | h | h
      · have := H.bp; omega
      · omega
      · omega
      · exact (H.a.o.lt k h).1
      · simp [Value.ownBlock] at h; have := H.a.bo; omega)
    exact a1.below (Nat.le_refl _) fun k hk h => by omega
/-- The j-th new flag. -/
theorem QN.newAt {nl : Nat} {flv fv : Value} {C LF LV NW SE : Nat} {nm : Nat → ByteArray} {gs : List Nat} {wr : World} (H : QN w n np nl pv flv fv names ps PC FC FS PA C LF LV NW SE fs f nm gs wr) {j : Nat} (hj : j < nl) :
    ∃ s sc g gc b, fv = .slice (some ⟨s, 0, none⟩) nl sc ∧ flv = .slice (some ⟨g, 0, none⟩) (np + nl) gc ∧ wr.cell? ⟨s, j, none⟩ = some (ptr b) ∧ wr.cell? ⟨g, np + j, none⟩ = some (ptr b) ∧ wr.cell? ⟨b, 0, none⟩ = some (.string (nm j)) := by
  have h1 := H.sf
  have h2 := H.q.fl
  have hl := H.len
  have hjg : gs[j]? = some gs[j] := List.getElem?_eq_getElem (by omega)
  rcases h1.2 with ⟨_, h0⟩ | ⟨s, sc, _, he, _⟩
  · omega
  · rcases h2.2 with ⟨_, h0⟩ | ⟨g, gc, _, he2, _⟩
    · omega
    · subst he
      subst he2
      refine ⟨s, sc, g, gc, gs[j], rfl, rfl, ?_, ?_, H.nm j _ hjg⟩
      · rw [h1.cellAt j (by omega), List.getElem?_map, hjg]; rfl
      · rw [h2.cellAt (np + j) (by omega), List.getElem?_append_right (by simp), List.getElem?_map]
        simp [hjg]
end
end Go.Proofs.Ybulkqnc
