/-
  DERIVED. The state of kvcache.LawS0840AAdmitPlain's loop, and its steps.
-/
import Derived.Test.YbulkqjiFmtTabs
import Derived.OwnWalk
namespace Go.Proofs.YbulkqjiFmt
open Go.RowKit
set_option linter.unusedVariables false

/-- The loop's state. -/
structure PL (w wr : World) (C G k : Nat) (bs tot used peak : Int) (tv hv : Value) (n : Nat) (ts : List Nat) (hs : List Int) : Prop where
  pp : PP wr C G k bs tot used peak
  ls : LS wr w.heap.size tv hv n ts hs
  be : Below w.heap.size w wr
  c : w.heap.size ≤ C
  g : w.heap.size ≤ G

theorem PL.up {w wr : World} {C G k : Nat} {bs tot used peak : Int} {tv hv : Value} {n : Nat} {ts : List Nat} {hs : List Int} (H : PL w wr C G k bs tot used peak tv hv n ts hs) : PL w wr C G (k + 1) bs tot used peak tv hv n ts hs := ⟨H.pp.up (by omega), H.ls, H.be, H.c, H.g⟩

/-- A frame that touches the pool and new blocks alone. -/
theorem PL.step {w wr w' : World} {C G k k' T : Nat} {bs tot used peak used' peak' : Int} {tv hv : Value} {n : Nat} {ts : List Nat} {hs : List Int} (H : PL w wr C G k bs tot used peak tv hv n ts hs) (hP : PP w' C G k' bs tot used' peak') (hT : wr.heap.size ≤ T) (hf : Fr (fun k => k = C ∨ k = G ∨ k = T) wr w') :
    PL w w' C G k' bs tot used' peak' tv hv n ts hs := by
  obtain ⟨p1, p2, p3, p4⟩ := H.ls.apartP H.pp
  refine ⟨hP, H.ls.fr hf (fun g hg hS => ?_) (fun g hg hS => ?_) (fun T' hT' hS => ?_), H.be.trans ⟨hf.os, hf.tape, hf.output, hf.size, fun i hi => hf.block i (Nat.lt_of_lt_of_le hi H.be.size) (fun hS => ?_)⟩, H.c, H.g⟩
  · rcases hS with rfl | rfl | rfl
    · exact p1 hg
    · exact p2 hg
    · have := (H.ls.t.lt _ hg).2; omega
  · rcases hS with rfl | rfl | rfl
    · exact p3 hg
    · exact p4 hg
    · have := (H.ls.h.lt _ hg).2; omega
  · obtain ⟨h, a, _⟩ := H.ls.mem hT'
    obtain ⟨n1, n2⟩ := H.pp.ne a
    rcases hS with e | e | e
    · exact n1 e.symm
    · exact n2 e.symm
    · have := a.cell.2; omega
  · have := H.be.size
    have := H.c
    have := H.g
    omega

/-- One admission, at the loop's state. -/
theorem pl_admit {w wr : World} {C G k : Nat} {bs tot used peak tok : Int} {tv hv : Value} {n m : Nat} {ts : List Nat} {hs : List Int} (H : PL w wr C G k bs tot used peak tv hv n ts hs) (o : Obj) (b0 : 1 ≤ bs) (b1 : bs ≤ 16) (k0 : 0 ≤ tok) (k1 : tok ≤ 199) (hm : (tok + bs - 1) / bs = m) (m1 : (m : Int) ≤ 199) (t0 : 0 ≤ tot) (t1 : tot ≤ 1000) (u0 : -900000 ≤ used) (u1 : used ≤ 900000) (hup : used ≤ peak) :
    Calls Ybaf.prog 8 #[.pointer (some ⟨C, 0, none⟩), .pointer (some ⟨wr.heap.size + 1, 0, none⟩), .agg #[.slice none 0 0, .slice none 0 0, .int .i64 0], .int .i64 tok] ((wr.alloc o).alloc Tbl) fun e w' =>
      ((tot = 0 ∨ (m : Int) ≤ tot - used) ∧ e = .returned (.tuple #[.bool true, .nilIface]) ∧ PL w w' C G k bs tot (used + m) (max peak (used + m)) tv hv n ts hs ∧ TB w' (wr.heap.size + 1) m ∧ wr.heap.size + 1 ∉ ts) ∨
      (¬ (tot = 0 ∨ (m : Int) ≤ tot - used) ∧ e = .returned (.tuple #[.bool false, .nilIface]) ∧ PL w w' C G k bs tot used peak tv hv n ts hs ∧ TB w' (wr.heap.size + 1) 0) := by
  have hfr0 : Fr (fun k => k = C ∨ k = G ∨ k = wr.heap.size + 1) wr ((wr.alloc o).alloc Tbl) := ((Fr.refl _ wr).alloc _).alloc _
  have hfr : Fr (fun k => False) wr ((wr.alloc o).alloc Tbl) := ((Fr.refl _ wr).alloc _).alloc _
  have hpp : PP ((wr.alloc o).alloc Tbl) C G k bs tot used peak := H.pp.fr hfr (fun h => h) (fun h => h)
  have hT : ((wr.alloc o).alloc Tbl).rowIs (wr.heap.size + 1) 40 9 T0 := by have := tbl_row (wr.alloc o); simpa using this
  by_cases hr : tot = 0 ∨ (m : Int) ≤ tot - used
  · refine (pp_ok C G (wr.heap.size + 1) k bs tot used peak m tok _ hpp hT b0 b1 k0 k1 hm (by omega) (by omega) t0 t1 u0 u1 hup hr).mono ?_
    rintro e w' ⟨he, hp, htb, hf⟩
    refine Or.inl ⟨hr, he, H.step hp (by omega) (hfr0.trans hf), htb, fun hmem => ?_⟩
    obtain ⟨h, a, _⟩ := H.ls.mem hmem
    have := a.cell.2
    omega
  · refine (pp_no C G (wr.heap.size + 1) k bs tot used peak m tok _ hpp hT b0 b1 k0 k1 hm (by omega) (by omega) (by omega) t1 u0 u1 (fun h => hr (Or.inr h))).mono ?_
    rintro e w' ⟨he, hp, htb, hf⟩
    exact Or.inr ⟨hr, he, H.step hp (by omega) (hfr0.trans hf), htb⟩

/-- The two appends. -/
theorem pl_push {w wr : World} {C G k T : Nat} {bs tot used peak : Int} {tv hv : Value} {n m : Nat} {ts : List Nat} {hs : List Int} (H : PL w wr C G k bs tot used peak tv hv n ts hs) (hT : TB wr T m) (hTn : T ∉ ts) (hb : w.heap.size ≤ T) (m1 : (m : Int) ≤ 199) (hn : n ≤ 1024) :
    ∀ W1, Sm W1 (wr.alloc (.cells #[ptr T] 34)) → ∃ v1 w1, (Builtin.append_ #[28, 28] 28 #[tv, .slice (some ⟨wr.heap.size, 0, none⟩) 1 1]).run Ybaf.prog W1 = .ok v1 w1 ∧
      ∀ W2, Sm W2 (w1.alloc (.cells #[.int .i64 m] 3)) → ∃ v2 w2, (Builtin.append_ #[29, 29] 29 #[hv, .slice (some ⟨w1.heap.size, 0, none⟩) 1 1]).run Ybaf.prog W2 = .ok v2 w2 ∧ PL w w2 C G k bs tot used peak v1 v2 (n + 1) (ts ++ [T]) (hs ++ [(m : Int)]) ∧ TB w2 T m := by
  intro W1 h1
  have hbw : w.heap.size ≤ wr.heap.size := H.be.size
  obtain ⟨v1, w1, r1, o1, f1⟩ := push1 w.heap.size n 28 34 _ (ptr T) tv _ wr W1 Ybaf.underlying28 info34 (by rfl) (by rfl) H.ls.t (by omega) hbw h1
  refine ⟨v1, w1, r1, fun W2 h2 => ?_⟩
  have hh1 : w1.ownsRow w.heap.size 3 1 hv n (hs.map (Value.int .i64)) := owns_fr H.ls.h f1 fun g hg hx => owns_ne_owns H.ls.t H.ls.h (by decide) hx hg
  obtain ⟨v2, w2, r2, o2, f2⟩ := push1 w.heap.size n 29 3 _ (.int .i64 m) hv _ w1 W2 Ybaf.underlying29 info3 (by rfl) (by rfl) hh1 (by omega) (by have := f1.size; omega) h2
  obtain ⟨p1, p2, p3, p4⟩ := H.ls.apartP H.pp
  obtain ⟨a1, a2⟩ := H.ls.apart hT
  refine ⟨v2, w2, r2, ⟨(H.pp.fr f1 p1 p2).fr f2 p3 p4, H.ls.push hT hTn hb (by omega) m1 o1 f1 o2 f2, (H.be.trans (f1.below (B := w.heap.size) hbw fun k hk hx => ?_)).trans (f2.below (B := w.heap.size) (by have := f1.size; omega) fun k hk hx => ?_), H.c, H.g⟩, (hT.fr f1 a1).fr f2 a2⟩
  · have := (H.ls.t.lt k hx).1; omega
  · have := (H.ls.h.lt k hx).1; omega

/-- One release, at the loop's state. -/
theorem pl_release {w wr w2 : World} {C G k n j T gh ch : Nat} {bs tot used peak h : Int} {tv : Value} {ts : List Nat} {hs : List Int} (H : PL w wr C G k bs tot used peak tv (.slice (some ⟨gh, 0, none⟩) n ch) n ts hs) (hj : j < n) (hT : ts[j]? = some T)
    (hP : PP w2 C G (k + 1) bs tot (used - h) peak) (hT0 : TB w2 T 0) (hf : Fr (fun k => k = C ∨ k = G ∨ k = T) wr w2) :
    PL w (w2.setCell ⟨gh, j, none⟩ (.int .i64 0)) C G (k + 1) bs tot (used - h) peak tv (.slice (some ⟨gh, 0, none⟩) n ch) n ts (hs.set j 0) := by
  obtain ⟨p1, p2, p3, p4⟩ := H.ls.apartP H.pp
  have hgw : w.heap.size ≤ gh := (H.ls.h.lt gh rfl).1
  obtain ⟨hT', hTB, hTw⟩ := H.ls.mem (List.mem_of_getElem? hT)
  have hfs : Fr (fun k => k = gh) w2 (w2.setCell ⟨gh, j, none⟩ (.int .i64 0)) := (Fr.refl (fun k => k = gh) w2).setCell _ _ (Or.inl rfl)
  refine ⟨hP.fr hfs (fun e => p3 (by rw [e]; rfl)) (fun e => p4 (by rw [e]; rfl)), H.ls.release H.pp hT hj hf hT0, (H.be.trans (hf.below (B := w.heap.size) H.be.size fun i hi hS => ?_)).trans (hfs.below (B := w.heap.size) (Nat.le_trans H.be.size hf.size) fun i hi hS => by omega), H.c, H.g⟩
  have := H.c
  have := H.g
  rcases hS with e | e | e <;> omega

/-- append as one step of a region that does not draw, out of an equation on its run. -/
theorem list_app {P : Program} {ops : Array Oper} {rest : List Oper} {o : Oper} {a : Act} {w : World} {Q : Exit → Act → World → Prop}
    (hg : o.guard = none) (s x : Operand) (t : TypeId) (hop : o.op = Op.call { callee := Callee.builtin Builtin.append, args := #[s, x], argTypes := #[t, t] })
    (sv xv v' : Value) (w' : World) (hs : a.eval s = sv) (hx : a.eval x = xv) (hrun : (Builtin.append_ #[t, t] o.type #[sv, xv]).run P w = .ok v' w') (hK : wpList P ops Q rest (a.put o.dst v') w') : wpList P ops Q (o :: rest) a w :=
  wpList_plain hg fun _ hK' => by
    unfold Oper.wp execOp
    simp only [hop, resolve, invoke, builtin, Sem.run_bind, Sem.run_pure, Result.andThen_ok, List.map_toArray, List.map_cons, List.map_nil, hs, hx, hrun]
    exact hK' _ _ hK

theorem size34 (W : World) : (sizeOf 34).run Ybaf.prog W = .ok 1 W := by kernel_rfl
theorem size3 (W : World) : (sizeOf 3).run Ybaf.prog W = .ok 1 W := by kernel_rfl
theorem ixRun28 (g len cap : Nat) (j : Nat) (W : World) (h : j < len) : (Instr.indexAt 28 (.slice (some ⟨g, 0, none⟩) len cap) (.int .i64 (j : Int))).run Ybaf.prog W = .ok (.pointer (some ⟨g, j, none⟩)) W := by
  have e : Ybaf.prog.elem 28 = 34 := by kernel_rfl
  rw [run_indexAt_slice (h := by rw [e]; exact Ybaf.underlying28), if_pos (by omega), e, size34]
  simp [Addr.add]
  omega
theorem ixRun29 (g len cap : Nat) (j : Nat) (W : World) (h : j < len) : (Instr.indexAt 29 (.slice (some ⟨g, 0, none⟩) len cap) (.int .i64 (j : Int))).run Ybaf.prog W = .ok (.pointer (some ⟨g, j, none⟩)) W := by
  have e : Ybaf.prog.elem 29 = 3 := by kernel_rfl
  rw [run_indexAt_slice (h := by rw [e]; exact Ybaf.underlying29), if_pos (by omega), e, size3]
  simp [Addr.add]
  omega
end Go.Proofs.YbulkqjiFmt
