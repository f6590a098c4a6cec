/-
  DERIVED. Frames, rows and appends: what the walks of cli.LawS0847AEnter share.
-/
import Derived.Test.YbulkqncProg
import Derived.WalkKit
import Derived.WalkSpells
import Derived.WalkLawsBesides
import Derived.Deep.QuietTactic
import Derived.BigQuiet
import Derived.BigRegion
import Derived.Deep.OwnRows
import Derived.Laws.AppendOwn
import Derived.Laws.OwnMore
import Derived.Deep.RegionLaw
import Derived.OwnWalk
import Derived.Deep.AppendLies
import Derived.Maps.OwnSet
namespace Go.Proofs.Ybulkqnc
open Go.RowKit
set_option linter.unusedVariables false

/-- Two worlds that part in what has been drawn alone. -/
structure Sm (a b : World) : Prop where
  heap : a.heap = b.heap
  os : a.os = b.os
  output : a.output = b.output
  tape : a.tape = b.tape
theorem Sm.cell {a b : World} (h : Sm a b) (x : Addr) : a.cell? x = b.cell? x := by simp [World.cell?, h.heap]
theorem Sm.frozen {a b : World} (h : Sm a b) (x : Addr) : a.frozen? x = b.frozen? x := by simp [World.frozen?, h.heap]
theorem Sm.setCell {a b : World} (h : Sm a b) (x : Addr) (v : Value) : Sm (a.setCell x v) (b.setCell x v) := ⟨by simp [World.setCell, h.heap], h.os, h.output, h.tape⟩
theorem Sm.alloc {a b : World} (h : Sm a b) (o : Obj) : Sm (a.alloc o) (b.alloc o) := ⟨by show a.heap.push o = b.heap.push o; rw [h.heap], h.os, h.output, h.tape⟩
theorem Sm.refl (a : World) : Sm a a := ⟨rfl, rfl, rfl, rfl⟩
theorem Sm.trans {a b c : World} (h : Sm a b) (k : Sm b c) : Sm a c := ⟨h.heap.trans k.heap, h.os.trans k.os, h.output.trans k.output, h.tape.trans k.tape⟩
theorem Sm.drewN (a : World) (q : Nat) : Sm (a.drewN q) a := ⟨rfl, rfl, rfl, rfl⟩
theorem Sm.drew (a : World) : Sm a.drew a := ⟨rfl, rfl, rfl, rfl⟩
theorem Sm.row {a b : World} (h : Sm a b) {k n : Nat} {t : TypeId} {f : Nat → Value} (hr : b.rowIs k t n f) : a.rowIs k t n f := hr.of_block (by rw [h.heap])
theorem Sm.below {a b w : World} {B : Nat} (h : Sm a b) (hb : Below B w b) : Below B w a := ⟨h.os.trans hb.os, h.tape.trans hb.tape, h.output.trans hb.output, by rw [h.heap]; exact hb.size, fun k hk => by rw [h.heap]; exact hb.block k hk⟩

theorem owns_slice {w : World} {base e size n : Nat} {v : Value} {xs : List Value} (h : w.ownsRow base e size v n xs) : ∃ ao cap, v = .slice ao n cap := by
  rcases h.2 with ⟨rfl, rfl⟩ | ⟨g, cap, cur, rfl, _⟩
  · exact ⟨none, 0, rfl⟩
  · exact ⟨_, _, rfl⟩

/-- append as one step of a region that draws, out of an equation on its run. -/
theorem step_app {P : Program} {ops : Array Oper} {o : Oper} {a : Act} {w : World} {K : Act → World → Prop} {Q : Exit → Act → World → Prop} {E : Prop}
    (hg : o.guard = none) (s x : Operand) (t : TypeId) (hop : o.op = Op.call { callee := Callee.builtin Builtin.append, args := #[s, x], argTypes := #[t, t] })
    (sv xv v' : Value) (w' : World) (hs : a.eval s = sv) (hx : a.eval x = xv) (hrun : (Builtin.append_ #[t, t] o.type #[sv, xv]).run P w = .ok v' w') (hK : K (a.put o.dst v') w') :
    if Region.wanted o (yielded ops a.tmps) = true then Oper.wp P o a w K Q else E := by
  have hw : Region.wanted o (yielded ops a.tmps) = true := by simp [Region.wanted, hg]
  rw [if_pos hw]
  unfold Oper.wp
  simp [execOp, hop, resolve, invoke, builtin, hs, hx, hrun, Result.andThen]
  exact hK

theorem grown_cell {w w' : World} {row : Option Nat} (hg : w.grownBy w' row) {k : Nat} (hk : k < w.heap.size) (hne : row ≠ some k) (o : Nat) : w'.cell? ⟨k, o, none⟩ = w.cell? ⟨k, o, none⟩ := by
  simp only [World.cell?, hg.block k hk (fun h => hne h.symm)]
theorem grown_frozen {w w' : World} {row : Option Nat} (hg : w.grownBy w' row) {k : Nat} (hk : k < w.heap.size) (hne : row ≠ some k) (o : Nat) : w'.frozen? ⟨k, o, none⟩ = w.frozen? ⟨k, o, none⟩ := by
  simp only [World.frozen?, hg.block k hk (fun h => hne h.symm)]
theorem owns_ne {w : World} {base e size n : Nat} {v : Value} {xs : List Value} (h : w.ownsRow base e size v n xs) {k : Nat} (hk : k < base) : v.ownBlock ≠ some k := by
  rcases h.2 with ⟨rfl, _⟩ | ⟨g, cap, cur, rfl, hb, _⟩
  · simp [Value.ownBlock]
  · simp [Value.ownBlock]; omega

/-- Nothing has turned but the blocks in S, and new ones. -/
structure Fr (S : Nat → Prop) (w w' : World) : Prop where
  os : w'.os = w.os
  tape : w'.tape = w.tape
  output : w'.output = w.output
  size : w.heap.size ≤ w'.heap.size
  block : ∀ k, k < w.heap.size → ¬ S k → w'.heap[k]? = w.heap[k]?
theorem Fr.refl (S : Nat → Prop) (w : World) : Fr S w w := ⟨rfl, rfl, rfl, Nat.le_refl _, fun _ _ _ => rfl⟩
theorem Fr.trans {S : Nat → Prop} {a b c : World} (h : Fr S a b) (k : Fr S b c) : Fr S a c := ⟨k.os.trans h.os, k.tape.trans h.tape, k.output.trans h.output, Nat.le_trans h.size k.size, fun i hi hn => (k.block i (Nat.lt_of_lt_of_le hi h.size) hn).trans (h.block i hi hn)⟩
theorem Fr.mono {S S' : Nat → Prop} {a b : World} (h : Fr S a b) (hs : ∀ k, k < a.heap.size → S k → S' k) : Fr S' a b := ⟨h.os, h.tape, h.output, h.size, fun i hi hn => h.block i hi (fun x => hn (hs i hi x))⟩
theorem Fr.sm {S : Nat → Prop} {a b c : World} (h : Fr S a b) (k : Sm c b) : Fr S a c := ⟨k.os.trans h.os, k.tape.trans h.tape, k.output.trans h.output, by rw [k.heap]; exact h.size, fun i hi hn => by rw [k.heap]; exact h.block i hi hn⟩
theorem Fr.alloc {S : Nat → Prop} {a b : World} (h : Fr S a b) (o : Obj) : Fr S a (b.alloc o) := h.trans ⟨rfl, rfl, rfl, by simp, fun i hi _ => Go.Deep.blk_alloc_lt _ _ _ hi⟩
theorem Fr.setCell {S : Nat → Prop} {a b : World} (h : Fr S a b) (x : Addr) (v : Value) (hx : S x.block ∨ a.heap.size ≤ x.block) : Fr S a (b.setCell x v) :=
  ⟨h.os, h.tape, h.output, by simpa using h.size, fun i hi hn => by
    rw [Go.Deep.blk_setCell_other _ _ _ _ (fun e => by subst e; rcases hx with hx | hx; exact hn hx; omega)]
    exact h.block i hi hn⟩
theorem Fr.grown {S : Nat → Prop} {a b c : World} (h : Fr S a b) {row : Option Nat} (g : b.grownBy c row) (hr : ∀ k, row = some k → S k ∨ a.heap.size ≤ k) : Fr S a c :=
  ⟨g.os.trans h.os, g.tape.trans h.tape, g.output.trans h.output, Nat.le_trans h.size g.size, fun i hi hn => by
    rw [g.block i (Nat.lt_of_lt_of_le hi h.size) (fun e => by rcases hr i e.symm with hx | hx; exact hn hx; omega)]
    exact h.block i hi hn⟩
theorem Fr.cell {S : Nat → Prop} {a b : World} (h : Fr S a b) {k : Nat} (hk : k < a.heap.size) (hn : ¬ S k) (o : Nat) : b.cell? ⟨k, o, none⟩ = a.cell? ⟨k, o, none⟩ := by simp only [World.cell?, h.block k hk hn]
theorem Fr.frozen {S : Nat → Prop} {a b : World} (h : Fr S a b) {k : Nat} (hk : k < a.heap.size) (hn : ¬ S k) (o : Nat) : b.frozen? ⟨k, o, none⟩ = a.frozen? ⟨k, o, none⟩ := by simp only [World.frozen?, h.block k hk hn]
theorem Fr.row {S : Nat → Prop} {a b : World} (h : Fr S a b) {k n : Nat} {t : TypeId} {f : Nat → Value} (hr : a.rowIs k t n f) (hn : ¬ S k) : b.rowIs k t n f := hr.of_block (h.block k hr.lt hn)
theorem Fr.below {S : Nat → Prop} {a b : World} (h : Fr S a b) {B : Nat} (hB : B ≤ a.heap.size) (hn : ∀ k, k < B → ¬ S k) : Below B a b := ⟨h.os, h.tape, h.output, h.size, fun k hk => h.block k (by omega) (hn k hk)⟩
theorem owns_block {w w' : World} {base e size n : Nat} {v : Value} {xs : List Value} (h : w.ownsRow base e size v n xs) (hb : ∀ g, v.ownBlock = some g → w'.heap[g]? = w.heap[g]?) : w'.ownsRow base e size v n xs := by
  refine ⟨h.1, ?_⟩
  rcases h.2 with ⟨rfl, h0⟩ | ⟨g, cap, cur, rfl, h1, h2, h3, h4, h5, h6⟩
  · exact Or.inl ⟨rfl, h0⟩
  · exact Or.inr ⟨g, cap, cur, rfl, h1, by rw [hb g rfl]; exact h2, h3, h4, h5, h6⟩

/-- A row that is owned and a row of another type lie apart. -/
theorem owns_ne_row {w : World} {base n k e size : Nat} {v : Value} {xs : List Value} (h : w.ownsRow base e size v n xs) {t : TypeId} {f : Nat → Value} {c : Nat} (hr : w.rowIs c t k f) (ht : t ≠ e) : v.ownBlock ≠ some c := fun hx => by
  rcases h.2 with ⟨rfl, _⟩ | ⟨gg, cp, cur, rfl, hb, hg, _⟩
  · simp [Value.ownBlock] at hx
  · simp only [Value.ownBlock, Option.some.injEq] at hx
    subst hx
    obtain ⟨c', hc', _, _⟩ := hr
    rw [hc'] at hg
    cases hg
    exact ht rfl
theorem owns_ne_owns {w : World} {b1 b2 n1 n2 e1 e2 s1 s2 : Nat} {v1 v2 : Value} {xs1 xs2 : List Value} (h1 : w.ownsRow b1 e1 s1 v1 n1 xs1) (h2 : w.ownsRow b2 e2 s2 v2 n2 xs2) (ht : e1 ≠ e2) {c : Nat} (a : v1.ownBlock = some c) : v2.ownBlock ≠ some c := fun hx => by
  rcases h1.2 with ⟨rfl, _⟩ | ⟨gg, cp, cur, rfl, hb, hg, _⟩
  · simp [Value.ownBlock] at a
  rcases h2.2 with ⟨rfl, _⟩ | ⟨gg2, cp2, cur2, rfl, hb2, hg2, _⟩
  · simp [Value.ownBlock] at hx
  simp only [Value.ownBlock, Option.some.injEq] at hx a
  subst a
  subst hx
  rw [hg] at hg2
  cases hg2
  exact ht rfl
theorem owns_fr {w w' : World} {base e size n : Nat} {v : Value} {xs : List Value} {S : Nat → Prop} (h : w.ownsRow base e size v n xs) (hf : Fr S w w') (hn : ∀ g, v.ownBlock = some g → ¬ S g) : w'.ownsRow base e size v n xs :=
  owns_block h fun g hg => hf.block g (h.lt g hg).2 (hn g hg)

/-- append as one step of a region that does not draw, out of an equation on its run. -/
theorem list_app {P : Program} {ops : Array Oper} {rest : List Oper} {o : Oper} {a : Act} {w : World} {Q : Exit → Act → World → Prop}
    (hg : o.guard = none) (s x : Operand) (t : TypeId) (hop : o.op = Op.call { callee := Callee.builtin Builtin.append, args := #[s, x], argTypes := #[t, t] })
    (sv xv v' : Value) (w' : World) (hs : a.eval s = sv) (hx : a.eval x = xv) (hrun : (Builtin.append_ #[t, t] o.type #[sv, xv]).run P w = .ok v' w') (hK : wpList P ops Q rest (a.put o.dst v') w') : wpList P ops Q (o :: rest) a w :=
  wpList_plain hg fun _ hK' => by
    unfold Oper.wp execOp
    simp only [hop, resolve, invoke, builtin, Sem.run_bind, Sem.run_pure, Result.andThen_ok, List.map_toArray, List.map_cons, List.map_nil, hs, hx, hrun]
    exact hK' _ _ hK


/-- Only new blocks. -/
abbrev New (w w' : World) : Prop := Fr (fun _ => False) w w'

/-- One element more, of whatever cells. -/
theorem pushN (base n size bytes : Nat) (t e : TypeId) (z : Value) (v : Value) (xs news : List Value) (w W : World) (ht : Yba.prog.underlying t = some (.slice e)) (hinfo : (Yba.prog.info? e).map (fun i => (i.zero, i.size, i.bytes)) = some (some z, size, bytes)) (hz : z.cells.size = size) (hs0 : 0 < size) (h1 : ∀ u ∈ news, u.oneCell' = true)
    (hown : w.ownsRow base e size v n xs) (hl : news.length = size) (hn : n ≤ 100000) (hby : bytes ≤ 100) (hbase : base ≤ w.heap.size) (hW : Sm W (w.alloc (.cells news.toArray e))) :
    ∃ v' w1, (Builtin.append_ #[t, t] t #[v, .slice (some ⟨w.heap.size, 0, none⟩) 1 1]).run Yba.prog W = .ok v' w1 ∧ w1.ownsRow base e size v' (n + 1) (xs ++ news) ∧ Fr (fun k => v.ownBlock = some k) w w1 := by
  obtain ⟨i0, hi, hzz⟩ := Option.map_eq_some_iff.1 hinfo
  simp only [Prod.mk.injEq] at hzz
  obtain ⟨hz', hs, hb⟩ := hzz
  have hownW : W.ownsRow base e size v n xs := owns_block (hown.alloc (.cells news.toArray e)) fun g _ => by rw [hW.heap]
  have hbb : (n + 1) * bytes ≤ 100001 * 100 := Nat.mul_le_mul (by omega) hby
  obtain ⟨v', w1, hr, ho, hg, _⟩ := run_append_own (P := Yba.prog) W base t t e i0 z size bytes ht hi hz' hs hb hz hs0 v n xs hownW ⟨w.heap.size, 0, none⟩ 1 1 news (by omega) (World.news_of_block (cs := news.toArray) (t := e) (fr := (0, 0)) (by rw [hW.heap]; exact heap_alloc_new w _)) h1 (by unfold maxLen; omega) (by omega) (by rw [hW.heap]; simp; omega)
  exact ⟨v', w1, hr, ho, (Fr.sm ((Fr.refl _ w).alloc _) hW).grown hg fun k hk => Or.inl hk⟩
end Go.Proofs.Ybulkqnc
