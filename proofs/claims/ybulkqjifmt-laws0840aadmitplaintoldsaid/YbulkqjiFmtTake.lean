/-
  DERIVED. THE WALKS of kvcache's free list (take), of the slab of records (put), of record and of the cache's take.
-/
import Derived.Test.YbulkqjiFmtGrow
import Derived.Laws.AppendOwn
import Derived.Deep.RegionLaw
namespace Go.Proofs.YbulkqjiFmt
open Go.RowKit
set_option linter.unusedVariables false

set_option maxHeartbeats 1000000 in
set_option maxRecDepth 100000 in
/-- The head is a run of several blocks: one is counted off. -/
theorem ltake_many (C E : Nat) (x : Int) (w : World) (ce : C ≠ E) (h7 : w.cell? ⟨C, 7, none⟩ = some (.slice (some ⟨E, 0, none⟩) 1 1)) (h8 : w.cell? ⟨C, 8, none⟩ = some (.int .i64 0)) (he : w.cell? ⟨E, 0, none⟩ = some (.int .i32 x))
    (fe : w.frozen? ⟨E, 0, none⟩ = false) (x0 : -1000000 ≤ x) (x1 : x < -2) :
    Calls Ybaf.prog 41 #[.pointer (some ⟨C, 7, none⟩)] w fun e w' => e = .returned (.int .i32 (-1)) ∧ Sm w' (w.setCell ⟨E, 0, none⟩ (.int .i32 (x + 1))) := by
  go_enter Ybaf.func41, Ybaf.ntmps41
  go_wp2_with fail
  refine wp_loop_rounds 1 ?_
  rw [rounds_succ]
  go_wp2_with fail
  go_quiet (fail)
  go_wp2_with (go_at_call 10; refine (run_any 1 _ (by omega) (by omega)).mono ?_; rintro e w' ⟨rfl, rfl⟩)
  go_region
  all_goals
    go_wp2_with fail
    go_ret
    exact ⟨rfl, rfl, rfl, rfl, rfl⟩

set_option maxHeartbeats 1000000 in
set_option maxRecDepth 100000 in
/-- The head is a run of one block: it is passed. -/
theorem ltake_one (C E : Nat) (w : World) (ce : C ≠ E) (h7 : w.cell? ⟨C, 7, none⟩ = some (.slice (some ⟨E, 0, none⟩) 1 1)) (h8 : w.cell? ⟨C, 8, none⟩ = some (.int .i64 0)) (h9 : w.cell? ⟨C, 9, none⟩ = some (.int .i64 0)) (he : w.cell? ⟨E, 0, none⟩ = some (.int .i32 (-2)))
    (f8 : w.frozen? ⟨C, 8, none⟩ = false) (f9 : w.frozen? ⟨C, 9, none⟩ = false) (hg : w.cell? ⟨0, 0, none⟩ = some (.int .i32 (-1))) (c0 : C ≠ 0) :
    Calls Ybaf.prog 41 #[.pointer (some ⟨C, 7, none⟩)] w fun e w' => e = .returned (.int .i32 (-1)) ∧ Sm w' ((w.setCell ⟨C, 8, none⟩ (.int .i64 1)).setCell ⟨C, 9, none⟩ (.int .i64 1)) := by
  go_enter Ybaf.func41, Ybaf.ntmps41
  go_wp2_with fail
  refine wp_loop_rounds 1 ?_
  rw [rounds_succ]
  go_wp2_with fail
  go_quiet (fail)
  go_wp2_with (go_at_call 10; refine (run_any 1 _ (by omega) (by omega)).mono ?_; rintro e w' ⟨rfl, rfl⟩)
  go_ret
  exact ⟨rfl, rfl, rfl, rfl, rfl⟩

/-- A record as put lays it. -/
abbrev Rec : List Value := [.int .i64 0, .int .i64 0, .int .i32 0, .int .i32 1, .int .i32 (-2), .int .i32 0]
theorem info73 : (Ybaf.prog.info? 73).map (fun i => (i.zero, i.size, i.bytes)) = some (some (.agg #[.int .i64 0, .int .i64 0, .int .i32 0, .int .i32 0, .int .i32 0, .int .i32 0]), 6, 32) := by kernel_rfl

theorem owns_slice {w : World} {base e size n : Nat} {v : Value} {xs : List Value} (h : w.ownsRow base e size v n xs) : ∃ ao cap, v = .slice ao n cap := by
  rcases h.2 with ⟨rfl, rfl⟩ | ⟨g, cap, cur, rfl, _⟩
  · exact ⟨none, 0, rfl⟩
  · exact ⟨_, _, rfl⟩

/-- append as one step of a region that draws, out of an equation on its run. -/
theorem step_app {P : Program} {ops : Array Oper} {o : Oper} {a : Act} {w : World} {K : Act → World → Prop} {Q : Exit → Act → World → Prop} {E : Prop}
    (hg : o.guard = none) (s x : Operand) (t : TypeId) (hop : o.op = Op.call { callee := Callee.builtin Builtin.append, args := #[s, x], argTypes := #[t, t] })
    (sv xv v' : Value) (w' : World) (hs : a.eval s = sv) (hx : a.eval x = xv) (hrun : (Builtin.append_ #[t, t] o.type #[sv, xv]).run P w = .ok v' w') (hK : K (a.put o.dst v') w') :
    if Region.wanted o (yielded ops a.tmps) = true then Oper.wp P o a w K Q else E := by
  have hw : Region.wanted o (yielded ops a.tmps) = true := by simp [Region.wanted, hg]
  rw [if_pos hw]
  unfold Oper.wp
  simp [execOp, hop, resolve, invoke, builtin, hs, hx, hrun, Result.andThen]
  exact hK

theorem grown_cell {w w' : World} {row : Option Nat} (hg : w.grownBy w' row) {k : Nat} (hk : k < w.heap.size) (hne : row ≠ some k) (o : Nat) : w'.cell? ⟨k, o, none⟩ = w.cell? ⟨k, o, none⟩ := by
  simp only [World.cell?, hg.block k hk (fun h => hne h.symm)]
theorem grown_frozen {w w' : World} {row : Option Nat} (hg : w.grownBy w' row) {k : Nat} (hk : k < w.heap.size) (hne : row ≠ some k) (o : Nat) : w'.frozen? ⟨k, o, none⟩ = w.frozen? ⟨k, o, none⟩ := by
  simp only [World.frozen?, hg.block k hk (fun h => hne h.symm)]
theorem owns_ne {w : World} {base e size n : Nat} {v : Value} {xs : List Value} (h : w.ownsRow base e size v n xs) {k : Nat} (hk : k < base) : v.ownBlock ≠ some k := by
  rcases h.2 with ⟨rfl, _⟩ | ⟨g, cap, cur, rfl, hb, _⟩
  · simp [Value.ownBlock]
  · simp [Value.ownBlock]; omega

/-- Nothing has turned but the blocks in S, and new ones. -/
structure Fr (S : Nat → Prop) (w w' : World) : Prop where
  os : w'.os = w.os
  tape : w'.tape = w.tape
  output : w'.output = w.output
  size : w.heap.size ≤ w'.heap.size
  block : ∀ k, k < w.heap.size → ¬ S k → w'.heap[k]? = w.heap[k]?
theorem Fr.refl (S : Nat → Prop) (w : World) : Fr S w w := ⟨rfl, rfl, rfl, Nat.le_refl _, fun _ _ _ => rfl⟩
theorem Fr.trans {S : Nat → Prop} {a b c : World} (h : Fr S a b) (k : Fr S b c) : Fr S a c := ⟨k.os.trans h.os, k.tape.trans h.tape, k.output.trans h.output, Nat.le_trans h.size k.size, fun i hi hn => (k.block i (Nat.lt_of_lt_of_le hi h.size) hn).trans (h.block i hi hn)⟩
theorem Fr.mono {S S' : Nat → Prop} {a b : World} (h : Fr S a b) (hs : ∀ k, k < a.heap.size → S k → S' k) : Fr S' a b := ⟨h.os, h.tape, h.output, h.size, fun i hi hn => h.block i hi (fun x => hn (hs i hi x))⟩
theorem Fr.sm {S : Nat → Prop} {a b c : World} (h : Fr S a b) (k : Sm c b) : Fr S a c := ⟨k.os.trans h.os, k.tape.trans h.tape, k.output.trans h.output, by rw [k.heap]; exact h.size, fun i hi hn => by rw [k.heap]; exact h.block i hi hn⟩
theorem Fr.alloc {S : Nat → Prop} {a b : World} (h : Fr S a b) (o : Obj) : Fr S a (b.alloc o) := h.trans ⟨rfl, rfl, rfl, by simp, fun i hi _ => Go.Deep.blk_alloc_lt _ _ _ hi⟩
theorem Fr.setCell {S : Nat → Prop} {a b : World} (h : Fr S a b) (x : Addr) (v : Value) (hx : S x.block ∨ a.heap.size ≤ x.block) : Fr S a (b.setCell x v) :=
  ⟨h.os, h.tape, h.output, by simpa using h.size, fun i hi hn => by
    rw [Go.Deep.blk_setCell_other _ _ _ _ (fun e => by subst e; rcases hx with hx | hx; exact hn hx; omega)]
    exact h.block i hi hn⟩
theorem Fr.grown {S : Nat → Prop} {a b c : World} (h : Fr S a b) {row : Option Nat} (g : b.grownBy c row) (hr : ∀ k, row = some k → S k ∨ a.heap.size ≤ k) : Fr S a c :=
  ⟨g.os.trans h.os, g.tape.trans h.tape, g.output.trans h.output, Nat.le_trans h.size g.size, fun i hi hn => by
    rw [g.block i (Nat.lt_of_lt_of_le hi h.size) (fun e => by rcases hr i e.symm with hx | hx; exact hn hx; omega)]
    exact h.block i hi hn⟩
theorem Fr.cell {S : Nat → Prop} {a b : World} (h : Fr S a b) {k : Nat} (hk : k < a.heap.size) (hn : ¬ S k) (o : Nat) : b.cell? ⟨k, o, none⟩ = a.cell? ⟨k, o, none⟩ := by simp only [World.cell?, h.block k hk hn]
theorem Fr.frozen {S : Nat → Prop} {a b : World} (h : Fr S a b) {k : Nat} (hk : k < a.heap.size) (hn : ¬ S k) (o : Nat) : b.frozen? ⟨k, o, none⟩ = a.frozen? ⟨k, o, none⟩ := by simp only [World.frozen?, h.block k hk hn]
theorem Fr.row {S : Nat → Prop} {a b : World} (h : Fr S a b) {k n : Nat} {t : TypeId} {f : Nat → Value} (hr : a.rowIs k t n f) (hn : ¬ S k) : b.rowIs k t n f := hr.of_block (h.block k hr.lt hn)
theorem Fr.below {S : Nat → Prop} {a b : World} (h : Fr S a b) {B : Nat} (hB : B ≤ a.heap.size) (hn : ∀ k, k < B → ¬ S k) : Below B a b := ⟨h.os, h.tape, h.output, h.size, fun k hk => h.block k (by omega) (hn k hk)⟩
theorem owns_block {w w' : World} {base e size n : Nat} {v : Value} {xs : List Value} (h : w.ownsRow base e size v n xs) (hb : ∀ g, v.ownBlock = some g → w'.heap[g]? = w.heap[g]?) : w'.ownsRow base e size v n xs := by
  refine ⟨h.1, ?_⟩
  rcases h.2 with ⟨rfl, h0⟩ | ⟨g, cap, cur, rfl, h1, h2, h3, h4, h5, h6⟩
  · exact Or.inl ⟨rfl, h0⟩
  · exact Or.inr ⟨g, cap, cur, rfl, h1, by rw [hb g rfl]; exact h2, h3, h4, h5, h6⟩

set_option maxHeartbeats 1000000 in
set_option maxRecDepth 100000 in
theorem put_any (C n base : Nat) (v : Value) (xs : List Value) (w : World) (h5 : w.cell? ⟨C, 5, none⟩ = some v) (h6 : w.cell? ⟨C, 6, none⟩ = some (.slice none 0 0)) (f5 : w.frozen? ⟨C, 5, none⟩ = false)
    (hown : w.ownsRow base 73 6 v n xs) (hn : n ≤ 1000000) (hbase : base ≤ w.heap.size) (hC : C < base) :
    Calls Ybaf.prog 43 #[.pointer (some ⟨C, 5, none⟩), .agg Rec.toArray] w fun e w' => e = .returned (.int .i32 n) ∧
      ∃ (v' : Value) (xs' : List Value), w'.ownsRow base 73 6 v' (n + 1) xs' ∧ (∀ f, w.rowIs C 65 25 f → w'.rowIs C 65 25 (fun j => if j = 5 then v' else f j)) ∧ Fr (fun k => k = C ∨ v.ownBlock = some k) w w' := by
  obtain ⟨i0, hi, hzz⟩ := Option.map_eq_some_iff.1 info73
  simp only [Prod.mk.injEq] at hzz
  obtain ⟨hz, hs, hb⟩ := hzz
  obtain ⟨ao, cap, rfl⟩ := owns_slice hown
  have happ := run_append_own (P := Ybaf.prog) (((w.alloc (.cells Rec.toArray 73)).alloc (.cells Rec.toArray 73)).drew) base 52 52 73 i0 _ 6 32 Ybaf.underlying52 hi hz hs hb (by rfl) (by omega) (.slice ao n cap) n xs ((hown.alloc _).alloc _)
    ⟨w.heap.size + 1, 0, none⟩ 1 1 Rec (by rfl) (fun j u hj => by
      match j, hj with
      | 0, hj => simp at hj; subst hj; simp [Addr.add]
      | 1, hj => simp at hj; subst hj; simp [Addr.add]
      | 2, hj => simp at hj; subst hj; simp [Addr.add]
      | 3, hj => simp at hj; subst hj; simp [Addr.add]
      | 4, hj => simp at hj; subst hj; simp [Addr.add]
      | 5, hj => simp at hj; subst hj; simp [Addr.add]) (by intro u hu; simp at hu; rcases hu with rfl | rfl | rfl | rfl | rfl <;> rfl) (by unfold maxLen; omega) (by omega) (by simp; omega)
  obtain ⟨v', w1, hr, hown', hgrow, _⟩ := happ
  obtain ⟨ao', cap', rfl⟩ := owns_slice hown'
  have hne := owns_ne hown hC
  have hCw : C < w.heap.size := by omega
  have hCw1 : C < w.heap.size + 1 := by omega
  have k5 : w1.cell? ⟨C, 5, none⟩ = some (.slice ao n cap) := by rw [grown_cell hgrow (by simp; omega) hne]; go_simp
  have kf : w1.frozen? ⟨C, 5, none⟩ = false := by rw [grown_frozen hgrow (by simp; omega) hne]; go_simp
  have HO : Hid (∃ xs', (w1.setCell ⟨C, 5, none⟩ (.slice ao' (n + 1) cap')).ownsRow base 73 6 (.slice ao' (n + 1) cap') (n + 1) xs') :=
    ⟨_, owns_block hown' fun g hg => Go.Deep.blk_setCell_other _ _ _ _ (fun e => owns_ne hown' hC (by rw [hg, e]))⟩
  have HG : Hid ((∀ f, w.rowIs C 65 25 f → (w1.setCell ⟨C, 5, none⟩ (.slice ao' (n + 1) cap')).rowIs C 65 25 (fun j => if j = 5 then .slice ao' (n + 1) cap' else f j)) ∧ Fr (fun k => k = C ∨ (Value.slice ao n cap).ownBlock = some k) w (w1.setCell ⟨C, 5, none⟩ (.slice ao' (n + 1) cap'))) :=
    ⟨fun f hf => (((hf.alloc _).alloc _).of_block (hgrow.block C (by simp; omega) (fun h => hne h.symm))).set 5 _,
      ((((Fr.refl _ w).alloc _).alloc _).grown (c := w1) ⟨hgrow.os, hgrow.tape, hgrow.output, hgrow.size, hgrow.block⟩ (fun k hk => Or.inl (Or.inr hk))).setCell _ _ (Or.inl (Or.inl rfl))⟩
  clear hown' hgrow hown hne
  go_enter Ybaf.func43, Ybaf.ntmps43
  go_wp2_with fail
  go_region_law (refine step_app rfl (.tmp 44) (.tmp 46) 52 rfl _ _ _ _ rfl rfl hr ?_)
  all_goals
    go_wp2_with fail
    go_ret
    obtain ⟨xs', ho⟩ := HO.out
    exact ⟨by go_num, _, xs', ho, HG.out⟩
end Go.Proofs.YbulkqjiFmt
