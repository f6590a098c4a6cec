/-
  DERIVED. The start roles: visited, order, and the search's own state, in step.
-/
import Derived.Test.YbulkqmoSet
namespace Go.Proofs.Ybulkqmo
open Go.RowKit
set_option linter.unusedVariables false

theorem RI.reset {d : Dat} {b : Bl} {base J A : Nat} {s : Bfs.S} {k : Nat} {w wr : World} (H : RI d b base J A s k w wr) : RI d b base J A s k wr wr := ⟨H.1, H.2.1, Fr.refl _ _, FQ.refl _ _ _⟩
/-- Stores elsewhere. -/
theorem RI.other {d : Dat} {b : Bl} {base J A : Nat} {s : Bfs.S} {k : Nat} {w wr w' : World} {S : Nat → Prop} (H : RI d b base J A s k w wr) (hf : Fr S wr w') (hS : ∀ x, S x → base ≤ x ∧ x ≠ J ∧ x ≠ A ∧ ∀ c z, wr.heap[x]? ≠ some (.cells c 87 z)) : RI d b base J A s k w' w' := by
  obtain ⟨⟨rv, xs, h1⟩, h2, _, _⟩ := H
  refine ⟨⟨rv, xs, h1.fr hf (fun h => (hS _ h).2.1 rfl) (fun h => (hS _ h).2.2.1 rfl) fun g hg h => ?_⟩, h2.fr (hf.mono fun x _ h => (hS x h).1), Fr.refl _ _, FQ.refl _ _ _⟩
  rcases h1.r.2 with ⟨rfl, _⟩ | ⟨g', cap, cur, rfl, _, h3, _⟩
  · simp [Value.ownBlock] at hg
  · simp [Value.ownBlock] at hg
    subst hg
    exact (hS _ h).2.2.2 _ _ h3
theorem RI.types {d : Dat} {b : Bl} {base J A : Nat} {s : Bfs.S} {k : Nat} {w wr : World} (H : RI d b base J A s k w wr) : (∃ f, wr.rowIs J 82 8 f) ∧ (∃ f, wr.rowIs A 21 d.n f) := by
  obtain ⟨⟨rv, xs, h1⟩, _⟩ := H
  obtain ⟨f, hf, _⟩ := h1.j
  obtain ⟨g, hg, _⟩ := h1.a
  exact ⟨⟨f, hf⟩, ⟨_, hg⟩⟩
theorem row_ne {w : World} {a b : Nat} {t u : TypeId} {n m : Nat} {f g : Nat → Value} (h : w.rowIs a t n f) (k : w.rowIs b u m g) (hne : t ≠ u) : a ≠ b := fun e => by
  subst e
  obtain ⟨c1, h1, _⟩ := h
  obtain ⟨c2, h2, _⟩ := k
  rw [h1] at h2
  cases h2
  exact hne rfl
theorem row_not87 {w : World} {a : Nat} {t : TypeId} {n : Nat} {f : Nat → Value} (h : w.rowIs a t n f) (ht : t ≠ 87) : ∀ c z, w.heap[a]? ≠ some (.cells c 87 z) := fun c z e => by
  obtain ⟨c1, h1, _⟩ := h
  rw [h1] at e
  cases e
  exact ht rfl
theorem owns_not87 {w : World} {base e size n : Nat} {v : Value} {xs : List Value} (h : w.ownsRow base e size v n xs) (he : e ≠ 87) {a : Nat} (ha : v.ownBlock = some a) : ∀ c z, w.heap[a]? ≠ some (.cells c 87 z) := fun c z hc => by
  rcases h.2 with ⟨rfl, _⟩ | ⟨g, cap, cur, rfl, _, h3, _⟩
  · simp [Value.ownBlock] at ha
  · simp [Value.ownBlock] at ha
    subst ha
    rw [h3] at hc
    cases hc
    exact he rfl

structure VS (d : Dat) (b : Bl) (base J A V : Nat) (w0 : World) (ord : List Nat) (ov : Value) (wr : World) : Prop where
  ri : RI d b base J A (ord, fun _ => 0) 0 wr wr
  v : wr.rowIs V 4 d.n (fun i => .bool (decide (i ∈ ord)))
  o : wr.ownsRow base 3 1 ov ord.length (ord.map fun q : Nat => Value.int .i64 (q : Int))
  be : Below w0.heap.size w0 wr
  bb : w0.heap.size ≤ base
  vb : base ≤ V

theorem VS.start {d : Dat} {b : Bl} {base J A : Nat} {w0 wr : World} (H : RI d b base J A ([], fun _ => 0) 0 wr wr) (hb : Below w0.heap.size w0 wr) (hbb : w0.heap.size ≤ base) : VS d b base J A wr.heap.size w0 [] (.slice none 0 0) (wr.alloc (.cells (madeCells #[.bool false] d.n) 4)) :=
  ⟨(H.new ((Fr.refl _ wr).alloc _)).reset, (World.rowIs_made wr (.bool false) d.n 4).congr fun i _ => by simp, World.ownsRow_nil _ _ _ _, hb.alloc hb.size _, hbb, H.2.1.bw⟩

theorem VS.step {d : Dat} {b : Bl} {base J A V r : Nat} {w0 : World} {ord : List Nat} {ov : Value} {wr : World} (H : VS d b base J A V w0 ord ov wr) (hd : d.Good) (hr : r < d.n) (hro : r ∉ ord) :
    ∃ v1 w1, (Builtin.append_ #[83, 83] 83 #[ov, .slice (some ⟨wr.heap.size, 0, none⟩) 1 1]).run Yba.prog ((wr.setCell ⟨V, r, none⟩ (.bool true)).alloc (.cells #[.int .i64 (r : Int)] 3)) = .ok v1 w1 ∧
      Calls Yba.prog 6 #[.pointer (some ⟨J, 0, none⟩), .int .i32 (r : Int)] w1 fun e w' => e = .returned (.tuple #[]) ∧ VS d b base J A V w0 (ord ++ [r]) v1 w' := by
  obtain ⟨⟨fj, hJ⟩, ⟨fa, hA⟩⟩ := H.ri.types
  have hVJ := row_ne H.v hJ (by decide)
  have hVA := row_ne H.v hA (by decide)
  have hoV := owns_ne_row H.o H.v (by decide)
  have hfa : Fr (fun x => x = V) wr (wr.setCell ⟨V, r, none⟩ (.bool true)) := (Fr.refl _ wr).setCell _ _ (Or.inl rfl)
  have hria := H.ri.other hfa fun x e => by subst e; exact ⟨H.vb, hVJ, hVA, row_not87 H.v (by decide)⟩
  have hva := H.v.set r (.bool true)
  have hoa := owns_fr H.o hfa fun g hg e => hoV (by rw [hg, e])
  have hok := H.ri.jcells.2.2.2
  have hlen := Bfs.length_le hok.nodup hok.lt
  have hn1 := hd.n1
  obtain ⟨v1, w1, happ, ho1, hf1⟩ := pushN base ord.length 1 8 83 3 _ ov _ [.int .i64 (r : Int)] (wr.setCell ⟨V, r, none⟩ (.bool true)) _ Yba.underlying83 info3 (by rfl) (by omega) (by intro u hu; simp at hu; subst hu; rfl) hoa (by rfl) (by show ord.length ≤ _; have : ord.length ≤ d.n := hlen; omega) (by omega) hria.2.1.bw (Sm.refl _)
  have hvt := hria.types
  obtain ⟨⟨fj', hJ'⟩, ⟨fa', hA'⟩⟩ := hvt
  have hri1 := hria.other hf1 fun x hx => ⟨(hoa.lt x hx).1, fun e => owns_ne_row hoa hJ' (by decide) (by rw [hx, e]), fun e => owns_ne_row hoa hA' (by decide) (by rw [hx, e]), owns_not87 hoa (by decide) hx⟩
  have hv1 := hf1.row hva (owns_ne_row hoa hva (by decide))
  have esz : (wr.setCell ⟨V, r, none⟩ (.bool true)).heap.size = wr.heap.size := by simp
  rw [esz] at happ
  refine ⟨v1, w1, happ, ?_⟩
  refine (hri1.add hd hr hro (Nat.zero_le _)).mono ?_
  rintro e w' ⟨he, hri2⟩
  obtain ⟨⟨fj2, hJ2⟩, ⟨fa2, hA2⟩⟩ := hri1.types
  have hb1 : Below w0.heap.size w0 w1 := (H.be.trans (hfa.below (B := w0.heap.size) H.be.size fun k hk e => by have := H.vb; have := H.bb; omega)).trans (hf1.below (B := w0.heap.size) (by rw [esz]; exact H.be.size) fun k hk hx => by have := (hoa.lt k hx).1; have := H.bb; omega)
  refine ⟨he, ⟨hri2.reset, ?_, ?_, hb1.trans (hri2.2.2.1.below (B := w0.heap.size) hb1.size fun k hk h => by have := H.bb; omega), H.bb, H.vb⟩⟩
  · refine (hri2.2.2.2.row hv1 (row_ne hv1 hJ2 (by decide)) (row_ne hv1 hA2 (by decide)) (by decide)).congr fun i hi => ?_
    by_cases h : i = r <;> simp [h]
  · rw [List.length_append, List.map_append]
    exact hri2.2.2.2.owns ho1 (owns_ne_row ho1 hJ2 (by decide)) (owns_ne_row ho1 hA2 (by decide)) (by decide)
theorem VS.cellsV {d : Dat} {b : Bl} {base J A V r : Nat} {w0 : World} {ord : List Nat} {ov : Value} {wr : World} (H : VS d b base J A V w0 ord ov wr) (hr : r < d.n) : wr.cell? ⟨V, r, none⟩ = some (.bool (decide (r ∈ ord))) ∧ wr.frozen? ⟨V, r, none⟩ = false := ⟨H.v.cell hr, H.v.frozen r⟩
theorem size4 (W : World) : (sizeOf 4).run Yba.prog W = .ok 1 W := by kernel_rfl
theorem size3 (W : World) : (sizeOf 3).run Yba.prog W = .ok 1 W := by kernel_rfl
theorem ix70 (g len cap j : Nat) (q : IntKind) (W : World) (h : j < len) : (Instr.indexAt 70 (.slice (some ⟨g, 0, none⟩) len cap) (.int q (j : Int))).run Yba.prog W = .ok (.pointer (some ⟨g, j, none⟩)) W := by
  have e : Yba.prog.elem 70 = 4 := by kernel_rfl
  rw [run_indexAt_slice (h := by rw [e]; exact Yba.underlying70), if_pos (by omega), e, size4]
  simp [Addr.add]
  omega
theorem ix83 (g len cap j : Nat) (q : IntKind) (W : World) (h : j < len) : (Instr.indexAt 83 (.slice (some ⟨g, 0, none⟩) len cap) (.int q (j : Int))).run Yba.prog W = .ok (.pointer (some ⟨g, j, none⟩)) W := by
  have e : Yba.prog.elem 83 = 3 := by kernel_rfl
  rw [run_indexAt_slice (h := by rw [e]; exact Yba.underlying83), if_pos (by omega), e, size3]
  simp [Addr.add]
  omega
end Go.Proofs.Ybulkqmo
