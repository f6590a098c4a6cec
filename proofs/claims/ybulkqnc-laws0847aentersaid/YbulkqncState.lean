/-
  DERIVED. What cli.LawS0847AEnter builds ahead of the call of enter.
-/
import Derived.Test.YbulkqncEnterN
import Derived.Laws.CopyRow
namespace Go.Proofs.Ybulkqnc
open Go.RowKit
set_option linter.unusedVariables false

theorem sz24 (W : World) : (sizeOf 24).run Yba.prog W = .ok 1 W := by kernel_rfl
theorem sz30 (W : World) : (sizeOf 30).run Yba.prog W = .ok 1 W := by kernel_rfl
theorem sz28 (W : World) : (sizeOf 28).run Yba.prog W = .ok 4 W := by kernel_rfl
theorem ix23 (g len cap j : Nat) (W : World) (h : j < len) : (Instr.indexAt 23 (.slice (some ⟨g, 0, none⟩) len cap) (.int .i64 (j : Int))).run Yba.prog W = .ok (.pointer (some ⟨g, j, none⟩)) W := by
  have e : Yba.prog.elem 23 = 24 := by kernel_rfl
  rw [run_indexAt_slice (h := by rw [e]; exact Yba.underlying23), if_pos (by omega), e, sz24]
  simp [Addr.add]
  omega
theorem ix29 (g len cap j : Nat) (W : World) (h : j < len) : (Instr.indexAt 29 (.slice (some ⟨g, 0, none⟩) len cap) (.int .i64 (j : Int))).run Yba.prog W = .ok (.pointer (some ⟨g, j, none⟩)) W := by
  have e : Yba.prog.elem 29 = 30 := by kernel_rfl
  rw [run_indexAt_slice (h := by rw [e]; exact Yba.underlying29), if_pos (by omega), e, sz30]
  simp [Addr.add]
  omega
theorem ix25 (g len cap j : Nat) (W : World) (h : j < len) : (Instr.indexAt 25 (.slice (some ⟨g, 0, none⟩) len cap) (.int .i64 (j : Int))).run Yba.prog W = .ok (.pointer (some ⟨g, 4 * j, none⟩)) W := by
  have e : Yba.prog.elem 25 = 28 := by kernel_rfl
  rw [run_indexAt_slice (h := by rw [e]; exact Yba.underlying25), if_pos (by omega), e, sz28]
  rw [Nat.mul_comm 4 j]
  simp [Addr.add]
  omega
theorem info28 : (Yba.prog.info? 28).map (fun i => (i.zero, i.size, i.bytes)) = some (some (.agg #[.string ⟨#[]⟩, .string ⟨#[]⟩, .slice none 0 0, .nilFunc]), 4, 64) := by kernel_rfl

theorem row_owns {w : World} {b n : Nat} {t : TypeId} {f : Nat → Value} (h : w.rowIs b t n f) {base : Nat} (hb : base ≤ b) (hn : n ≤ maxLen) : w.ownsRow base t 1 (.slice (some ⟨b, 0, none⟩) n n) n ((List.range n).map f) := by
  obtain ⟨c, h1, h2, h3⟩ := h
  refine ⟨by simp, Or.inr ⟨b, n, c, rfl, hb, h1, Nat.le_refl _, hn, by simp [h2], ?_⟩⟩
  refine List.ext_getElem? fun i => ?_
  by_cases hi : i < n
  · rw [List.getElem?_take, if_pos (by omega), Array.getElem?_toList, h3 i hi, List.getElem?_map, List.getElem?_range hi]
    rfl
  · rw [List.getElem?_take, if_neg (by omega), List.getElem?_eq_none (by simp; omega)]

theorem copy_row {t e : TypeId} (ht : Yba.prog.underlying t = some (.slice e)) (hs : (Yba.prog.info? e).map (·.size) = some 1) {W : World} {D n : Nat} {g : Nat → Value} (hD : W.rowIs D e n g) {base : Nat} {sv : Value} {xs : List Value} (ho : W.ownsRow base e 1 sv n xs) (h1 : ∀ v ∈ xs, v.oneCell' = true) (ty : TypeId) :
    ∃ W', (Builtin.copy_ #[t, t] ty #[.slice (some ⟨D, 0, none⟩) n n, sv]).run Yba.prog W = .ok (goInt n) W' ∧ W'.rowIs D e n (fun j => xs[j]?.getD undef) ∧ Fr (fun k => k = D) W W' := by
  have hxl : xs.length = n := by have := ho.1; omega
  obtain ⟨c, h2, h3, h4⟩ := hD
  by_cases hn : n = 0
  · obtain ⟨sa, sc, rfl⟩ := owns_slice ho
    refine ⟨W, ?_, ⟨c, h2, h3, fun i hi => by omega⟩, Fr.refl _ _⟩
    have := run_copy_none (P := Yba.prog) W t t ty e (some ⟨D, 0, none⟩) sa n n n sc ht hs (by simp [hn])
    rw [this, hn]
    rfl
  · rcases ho.2 with ⟨_, h0⟩ | ⟨s, cap, cur, he, _⟩
    · exact absurd h0 hn
    · subst he
      have hr := run_copy_row (P := Yba.prog) W t t ty e D 0 n n ⟨s, 0, none⟩ n cap c e xs ht hs h2 (by simp [hxl]) (fun j v hj => by
        have hjl := (List.getElem?_eq_some_iff.1 hj).1
        have e1 : (⟨s, 0, none⟩ : Addr).add j = ⟨s, j, none⟩ := by
          by_cases h : j = 0 <;> simp [Addr.add, h]
        rw [e1, ho.cellAt j (by omega)]
        exact hj) (by omega) h1
      rw [hxl] at hr
      refine ⟨_, hr, ⟨_, setRow_heap _ _ _ _ _ _ h2, by simp [hxl, h3], fun i hi => ?_⟩, ⟨rfl, rfl, rfl, by simp, fun k _ hk => setRow_other _ _ _ _ hk⟩⟩
      simp only [List.take_zero, List.nil_append, List.getElem?_toArray]
      rw [List.getElem?_append_left (by omega), List.getElem?_eq_getElem (by omega)]
      rfl

/-- copy as one step of a region that does not draw, out of an equation on its run. -/
theorem list_cp {P : Program} {ops : Array Oper} {rest : List Oper} {o : Oper} {a : Act} {w : World} {Q : Exit → Act → World → Prop}
    (hg : o.guard = none) (s x : Operand) (t : TypeId) (hop : o.op = Op.call { callee := Callee.builtin Builtin.copy, args := #[s, x], argTypes := #[t, t] })
    (sv xv v' : Value) (w' : World) (hs : a.eval s = sv) (hx : a.eval x = xv) (hrun : (Builtin.copy_ #[t, t] o.type #[sv, xv]).run P w = .ok v' w') (hK : wpList P ops Q rest (a.put o.dst v') w') : wpList P ops Q (o :: rest) a w :=
  wpList_plain hg fun _ hK' => by
    unfold Oper.wp execOp
    simp only [hop, resolve, invoke, builtin, Sem.run_bind, Sem.run_pure, Result.andThen_ok, List.map_toArray, List.map_cons, List.map_nil, hs, hx, hrun]
    exact hK' _ _ hK

/-- The path, i commands long. -/
structure A1 (w : World) (i : Nat) (pv : Value) (ps : List (Option Addr)) (wr : World) : Prop where
  o : wr.ownsRow w.heap.size 24 1 pv i (ps.map Value.pointer)
  len : ps.length = i
  fr : Fr (fun k => w.heap.size ≤ k) w wr

abbrev CmdC (s : Array UInt8) (cv nv : Value) : Array Value := #[.string ⟨s⟩, .string ⟨#[]⟩, cv, nv]

theorem A1.start (w : World) (n : Nat) (hn : n ≤ 7) : A1 w 0 (.slice (some ⟨w.heap.size, 0, none⟩) 0 n) [] (w.alloc (.cells (madeCells #[.pointer none] n) 24)) :=
  ⟨World.ownsRow_made w _ n (Nat.le_refl _) (by unfold maxLen; omega) (by simp [madeCells]), rfl, (Fr.refl _ w).alloc _⟩
theorem A1.push {w : World} {i : Nat} {pv : Value} {ps : List (Option Addr)} {wr : World} (H : A1 w i pv ps wr) (hi : i ≤ 7) (s : Array UInt8) :
    ∃ pv' w1, (Builtin.append_ #[23, 23] 23 #[pv, .slice (some ⟨wr.heap.size + 1, 0, none⟩) 1 1]).run Yba.prog ((wr.alloc (.cells (CmdC s (.slice none 0 0) .nilFunc) 28)).alloc (.cells #[ptr wr.heap.size] 24)) = .ok pv' w1 ∧ A1 w (i + 1) pv' (ps ++ [some ⟨wr.heap.size, 0, none⟩]) w1 := by
  have hsz : (wr.alloc (.cells (CmdC s (.slice none 0 0) .nilFunc) 28)).heap.size = wr.heap.size + 1 := by simp
  have hw := H.fr.size
  obtain ⟨pv', w1, hr, ho, hf⟩ := pushN w.heap.size i 1 8 23 24 _ pv _ [ptr wr.heap.size] (wr.alloc (.cells (CmdC s (.slice none 0 0) .nilFunc) 28)) _ Yba.underlying23 info24 (by rfl) (by omega) (by intro u hu; simp at hu; subst hu; rfl) (H.o.alloc _) (by rfl) (by omega) (by omega) (by omega) (Sm.refl _)
  rw [hsz] at hr
  refine ⟨pv', w1, hr, by rw [List.map_append]; exact ho, by simp [H.len], (H.fr.alloc _).trans' hf fun k hk h => ?_⟩
  exact (H.o.lt k h).1

/-- .. its copy, and the flags that were there. -/
structure A2 (w : World) (n np : Nat) (pv : Value) (ps : List (Option Addr)) (PC OF : Nat) (fs : Nat → Option Addr) (wr : World) : Prop where
  o : wr.ownsRow w.heap.size 24 1 pv n (ps.map Value.pointer)
  len : ps.length = n
  fr : Fr (fun k => w.heap.size ≤ k) w wr
  pc : wr.rowIs PC 24 n (fun j => (ps.map Value.pointer)[j]?.getD undef)
  ap : pv.ownBlock ≠ some PC
  bc : w.heap.size ≤ PC
  of : wr.rowIs OF 30 np (fun j => .pointer (fs j))
  bo : w.heap.size ≤ OF

theorem A1.copy {w : World} {n : Nat} {pv : Value} {ps : List (Option Addr)} {wr : World} (H : A1 w n pv ps wr) :
    ∃ w1, (Builtin.copy_ #[23, 23] 3 #[.slice (some ⟨wr.heap.size, 0, none⟩) n n, pv]).run Yba.prog (wr.alloc (.cells (madeCells #[.pointer none] n) 24)) = .ok (goInt n) w1 ∧
      ∀ np, A2 w n np pv ps wr.heap.size w1.heap.size (fun _ => none) (w1.alloc (.cells (madeCells #[.pointer none] np) 30)) := by
  have hw := H.fr.size
  have hD := World.rowIs_made wr (.pointer none) n 24
  have hoA := H.o.alloc (.cells (madeCells #[.pointer none] n) 24)
  obtain ⟨w1, hr, hrow, hf⟩ := copy_row Yba.underlying23 (by kernel_rfl) hD hoA (by intro u hu; obtain ⟨x, _, rfl⟩ := List.mem_map.1 hu; rfl) 3
  have hne : pv.ownBlock ≠ some wr.heap.size := fun h => by
    have := (H.o.lt _ h).2
    omega
  have h1 : Fr (fun k => w.heap.size ≤ k) w w1 := (H.fr.alloc _).trans' hf fun k hk h => by omega
  refine ⟨w1, hr, fun np => ⟨(owns_fr hoA hf fun g hg h => hne (by rw [hg, h])).alloc _, H.len, h1.alloc _, hrow.alloc _, hne, hw, World.rowIs_made w1 (.pointer none) np 30, h1.size⟩⟩

section
variable {w : World} {n np : Nat} {pv : Value} {ps : List (Option Addr)} {PC OF : Nat} {fs : Nat → Option Addr} {wr : World}
theorem A2.step (H : A2 w n np pv ps PC OF fs wr) (i : Nat) (o : Obj) : A2 w n np pv ps PC OF (fun j => if j = i then some ⟨wr.heap.size, 0, none⟩ else fs j) ((wr.setCell ⟨OF, i, none⟩ (ptr wr.heap.size)).alloc o) := by
  have hne := row_ne H.pc H.of (by decide)
  exact ⟨(owns_set H.o H.of (by decide) _ _).alloc _, H.len, (H.fr.setCell _ _ (Or.inl H.bo)).alloc _, (H.pc.setOther hne _).alloc _, H.ap, H.bc, ((H.of.set i _).congr fun j _ => by by_cases h : j = i <;> simp [h]).alloc _, H.bo⟩

/-- The parser's cells. -/
abbrev PaC (pv : Value) (ST FS OF np : Nat) : Array Value := #[.pointer none, pv, .slice (some ⟨ST, 0, none⟩) 1 1, .nilIface, ptr FS, .int .i64 0, .slice (some ⟨OF, 0, none⟩) np np, .slice none 0 0]

/-- All that lies there before the commands are made. -/
structure G (w : World) (n np : Nat) (pv : Value) (ps : List (Option Addr)) (PC OF FC FS PA : Nat) (fs : Nat → Option Addr) (f : Nat → Value) (wr : World) : Prop where
  a : A2 w n np pv ps PC OF fs wr
  fc : wr.rowIs FC 30 np (fun j => .pointer (fs j))
  fo : FC ≠ OF
  fsr : wr.rowIs FS 38 2 (fun _ => .slice none 0 0)
  pa : wr.rowIs PA 45 8 f
  bf : w.heap.size ≤ FC
  bs : w.heap.size ≤ FS
  bp : w.heap.size ≤ PA

theorem A2.copy (H : A2 w n np pv ps PC OF fs wr) (hnp : np ≤ 1024) :
    ∃ w1, (Builtin.copy_ #[29, 29] 3 #[.slice (some ⟨wr.heap.size, 0, none⟩) np np, .slice (some ⟨OF, 0, none⟩) np np]).run Yba.prog (wr.alloc (.cells (madeCells #[.pointer none] np) 30)) = .ok (goInt np) w1 ∧
      ∀ so, G w n np pv ps PC OF wr.heap.size w1.heap.size (w1.heap.size + 1 + 1) fs (fun j => (PaC pv (w1.heap.size + 1) w1.heap.size OF np)[j]?.getD undef) (((w1.alloc (.cells #[.slice none 0 0, .slice none 0 0] 38)).alloc so).alloc (.cells (PaC pv (w1.heap.size + 1) w1.heap.size OF np) 45)) := by
  have hw := H.fr.size
  have hD := World.rowIs_made wr (.pointer none) np 30
  have hoA := row_owns (H.of.alloc (.cells (madeCells #[.pointer none] np) 30)) (base := w.heap.size) H.bo (by unfold maxLen; omega)
  obtain ⟨w1, hr, hrow, hf⟩ := copy_row Yba.underlying29 (by kernel_rfl) hD hoA (by intro u hu; obtain ⟨x, _, rfl⟩ := List.mem_map.1 hu; rfl) 3
  have hOl := H.of.lt
  have hPl := H.pc.lt
  have hpv := owns_ne_row H.o H.of (by decide)
  have hpn : pv.ownBlock ≠ some wr.heap.size := fun h => by
    have := (H.o.lt _ h).2
    omega
  have h1 : Fr (fun k => w.heap.size ≤ k) w w1 := (H.fr.alloc _).trans' hf fun k hk h => by omega
  have hs1 := h1.size
  have e1 : (w1.alloc (.cells #[.slice none 0 0, .slice none 0 0] 38)).heap.size = w1.heap.size + 1 := by simp
  have hfs := World.rowIs_alloc w1 #[.slice none 0 0, .slice none 0 0] 38 (fun _ => .slice none 0 0) (fun j hj => by
        have : j = 0 ∨ j = 1 := by simp at hj; omega
        rcases this with rfl | rfl <;> rfl)
  refine ⟨w1, hr, fun so => ?_⟩
  have e2 : ((w1.alloc (.cells #[.slice none 0 0, .slice none 0 0] 38)).alloc so).heap.size = w1.heap.size + 1 + 1 := by simp
  have hpa := World.rowIs_alloc ((w1.alloc (.cells #[.slice none 0 0, .slice none 0 0] 38)).alloc so) (PaC pv (w1.heap.size + 1) w1.heap.size OF np) 45 (fun j => (PaC pv (w1.heap.size + 1) w1.heap.size OF np)[j]?.getD undef) (fun j hj => by rw [Array.getElem?_eq_getElem hj]; rfl)
  rw [e2] at hpa
  have hn : New w1 (((w1.alloc (.cells #[.slice none 0 0, .slice none 0 0] 38)).alloc so).alloc (.cells (PaC pv (w1.heap.size + 1) w1.heap.size OF np) 45)) := (((Fr.refl _ w1).alloc _).alloc _).alloc _
  have nf : ∀ {S : Nat → Prop}, Fr S w w1 → Fr S w (((w1.alloc (.cells #[.slice none 0 0, .slice none 0 0] 38)).alloc so).alloc (.cells (PaC pv (w1.heap.size + 1) w1.heap.size OF np) 45)) := fun h => ((h.alloc _).alloc _).alloc _
  refine ⟨⟨owns_fr (owns_fr (H.o.alloc _) hf fun g hg h => hpn (by rw [hg, h])) hn (fun _ _ h => h), H.len, nf h1, hn.row (hf.row (H.pc.alloc _) (by omega)) (fun h => h), H.ap, H.bc, hn.row (hf.row (H.of.alloc _) (by omega)) (fun h => h), H.bo⟩, hn.row (hrow.congr fun j hj => ?_) (fun h => h), by omega, (hfs.alloc _).alloc _, hpa, hw, hs1, by omega⟩
  rw [List.getElem?_map, List.getElem?_range hj]
  rfl
end

section
variable {w : World} {n np : Nat} {pv : Value} {ps : List (Option Addr)} {PC OF FC FS PA : Nat} {fs : Nat → Option Addr} {f : Nat → Value} {wr w' : World}
theorem G.new (H : G w n np pv ps PC OF FC FS PA fs f wr) (hf : New wr w') : G w n np pv ps PC OF FC FS PA fs f w' :=
  ⟨⟨owns_fr H.a.o hf (fun _ _ h => h), H.a.len, H.a.fr.trans' hf (fun _ _ h => h.elim), hf.row H.a.pc (fun h => h), H.a.ap, H.a.bc, hf.row H.a.of (fun h => h), H.a.bo⟩, hf.row H.fc (fun h => h), H.fo, hf.row H.fsr (fun h => h), hf.row H.pa (fun h => h), H.bf, H.bs, H.bp⟩
theorem G.other (H : G w n np pv ps PC OF FC FS PA fs f wr) {X m j : Nat} {h : Nat → Value} (hX : wr.rowIs X 28 m h) (hb : w.heap.size ≤ X) (u : Value) : G w n np pv ps PC OF FC FS PA fs f (wr.setCell ⟨X, j, none⟩ u) :=
  ⟨⟨owns_set H.a.o hX (by decide) _ _, H.a.len, H.a.fr.setCell _ _ (Or.inl hb), H.a.pc.setOther (row_ne H.a.pc hX (by decide)) _, H.a.ap, H.a.bc, H.a.of.setOther (row_ne H.a.of hX (by decide)) _, H.a.bo⟩, H.fc.setOther (row_ne H.fc hX (by decide)) _, H.fo, H.fsr.setOther (row_ne H.fsr hX (by decide)) _, H.pa.setOther (row_ne H.pa hX (by decide)) _, H.bf, H.bs, H.bp⟩
end
end Go.Proofs.Ybulkqnc
