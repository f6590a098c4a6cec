/-
  DERIVED. kvcache's grow in a pool that caches: the loop that takes one record after the other.
-/
import Derived.Test.YbulkqjiFmtFree
namespace Go.Proofs.YbulkqjiFmt
open Go.RowKit
set_option linter.unusedVariables false

/-- Nothing has turned but the blocks in S, rows of records (from base on), and new blocks. -/
def Fz (S : Nat → Prop) (base : Nat) (w w' : World) : Prop := Fr (fun k => S k ∨ (base ≤ k ∧ ∃ c fz, w.heap[k]? = some (.cells c 73 fz))) w w'
theorem Fz.refl (S : Nat → Prop) (base : Nat) (w : World) : Fz S base w w := Fr.refl _ w
theorem Fz.trans {S : Nat → Prop} {base : Nat} {a b c : World} (h : Fz S base a b) (k : Fz S base b c) : Fz S base a c :=
  ⟨k.os.trans h.os, k.tape.trans h.tape, k.output.trans h.output, Nat.le_trans h.size k.size, fun i hi hn => by
    have e := h.block i hi hn
    rw [← e]
    refine k.block i (Nat.lt_of_lt_of_le hi h.size) (fun hx => hn ?_)
    rcases hx with hx | ⟨hb, cc, fz, hx⟩
    · exact Or.inl hx
    · exact Or.inr ⟨hb, cc, fz, by rw [← e]; exact hx⟩⟩
theorem Fz.mono {S S' : Nat → Prop} {base : Nat} {a b : World} (h : Fz S base a b) (hs : ∀ k, S k → S' k) : Fz S' base a b := Fr.mono h fun k _ hk => hk.imp_left (hs k)
theorem Fz.sm {S : Nat → Prop} {base : Nat} {a b c : World} (h : Fz S base a b) (k : Sm c b) : Fz S base a c := Fr.sm h k
theorem Fz.pre {S : Nat → Prop} {base : Nat} {a b c : World} (h : Fz S base a b) (k : Sm a c) : Fz S base c b := by
  refine ⟨h.os.trans k.os, h.tape.trans k.tape, h.output.trans k.output, by rw [← k.heap]; exact h.size, fun i hi hn => ?_⟩
  rw [← k.heap] at hi hn ⊢
  exact h.block i hi hn
theorem Fz.alloc {S : Nat → Prop} {base : Nat} {a b : World} (h : Fz S base a b) (o : Obj) : Fz S base a (b.alloc o) := Fr.alloc h o
theorem Fz.setCell {S : Nat → Prop} {base : Nat} {a b : World} (h : Fz S base a b) (x : Addr) (v : Value) (hx : S x.block ∨ a.heap.size ≤ x.block) : Fz S base a (b.setCell x v) :=
  Fr.setCell h x v (hx.imp_left Or.inl)
theorem Fz.grown {S : Nat → Prop} {base : Nat} {a b c : World} (h : Fz S base a b) {row : Option Nat} (g : b.grownBy c row) (hr : ∀ k, row = some k → S k ∨ a.heap.size ≤ k) : Fz S base a c :=
  Fr.grown h g (fun k hk => (hr k hk).imp_left Or.inl)
theorem Fz.row {S : Nat → Prop} {base : Nat} {a b : World} (h : Fz S base a b) {k n : Nat} {t : TypeId} {f : Nat → Value} (hr : a.rowIs k t n f) (hn : ¬ S k) (ht : t ≠ 73 ∨ k < base) : b.rowIs k t n f :=
  Fr.row h hr (fun hx => by
    rcases hx with hx | ⟨hb, c, fz, hx⟩
    · exact hn hx
    · obtain ⟨c', hc', _, _⟩ := hr
      rcases ht with ht | ht
      · rw [hc'] at hx
        cases hx
        exact ht rfl
      · omega)
theorem Fz.cellLow {S : Nat → Prop} {base : Nat} {a b : World} (h : Fz S base a b) {k : Nat} (hk : k < a.heap.size) (hb : k < base) (hn : ¬ S k) (o : Nat) : b.cell? ⟨k, o, none⟩ = a.cell? ⟨k, o, none⟩ :=
  Fr.cell h hk (fun hx => by rcases hx with hx | ⟨h1, _⟩; exact hn hx; omega) o
theorem Fz.below {S : Nat → Prop} {base : Nat} {a b : World} (h : Fz S base a b) {B : Nat} (hB : B ≤ a.heap.size) (hb : B ≤ base) (hn : ∀ k, k < B → ¬ S k) : Below B a b :=
  Fr.below h hB (fun k hk hx => by rcases hx with hx | ⟨h1, _⟩; exact hn k hk hx; omega)

/-- The loop's state behind k rounds. -/
structure GR (w : World) (C G E T base : Nat) (tot r : Int) (n k : Nat) (f g t : Nat → Value) (wr : World) : Prop where
  ex : ∃ (f' : Nat → Value) (v' : Value) (xs' : List Value) (u : Value) (ys : List Value), wr.rowIs C 65 25 f' ∧ (∀ j, j ≠ 5 → j ≠ 8 → j ≠ 9 → f' j = f j) ∧ f' 5 = v' ∧ wr.ownsRow base 73 6 v' (n + k) xs' ∧ FL wr C E f' tot (r - k) ∧
    wr.rowIs T 40 9 (fun j => if j = 5 then u else t j) ∧ wr.ownsRow w.heap.size 21 1 u k ys
  rowG : wr.rowIs G 25 2 g
  gap : wr.cell? ⟨0, 0, none⟩ = some (.int .i32 (-1))
  fr : Fz (fun j => j = C ∨ (0 < tot ∧ j = E) ∨ j = T) base w wr

theorem info21 : (Ybaf.prog.info? 21).map (fun i => (i.zero, i.size, i.bytes)) = some (some (.int .i32 0), 1, 4) := by kernel_rfl

/-- What stays put: where the blocks lie. -/
structure Lay (w : World) (C G E T base : Nat) (tot : Int) : Prop where
  c0 : 0 < C
  g0 : 0 < G
  cb : C < base
  gb : G < base
  cg : C ≠ G
  e : 0 < tot → E < base ∧ E ≠ C ∧ E ≠ G ∧ 0 < E
  tb : base ≤ T
  tw : T < w.heap.size

theorem gr_step {w : World} {C G E T base : Nat} {tot r : Int} {n k : Nat} {f g t : Nat → Value} {wr : World} (L : Lay w C G E T base tot) (H : GR w C G E T base tot r n k f g t wr)
    (h1 : f 1 = .int .i64 tot) (h6 : f 6 = .slice none 0 0) (hr : tot = 0 ∨ 0 < r - k) (r1 : r ≤ 1000) (hn : n + k ≤ 1000000) :
    ∃ ao cap, wr.cell? ⟨T, 5, none⟩ = some (.slice ao k cap) ∧
    Calls Ybaf.prog 40 #[.pointer (some ⟨C, 0, none⟩)] wr.drew fun e w1 => e = .returned (.int .i32 ((n + k : Nat) : Int)) ∧ w1.cell? ⟨T, 5, none⟩ = some (.slice ao k cap) ∧ T < w1.heap.size ∧
      ∃ (ao' : Option Addr) (cap' : Nat) (w2 : World), (Builtin.append_ #[38, 38] 38 #[.slice ao k cap, .slice (some ⟨w1.heap.size, 0, none⟩) 1 1]).run Ybaf.prog (w1.alloc (.cells #[.int .i32 ((n + k : Nat) : Int)] 21)) = .ok (.slice ao' (k + 1) cap') w2 ∧
        w2.cell? ⟨T, 5, none⟩ = some (.slice ao k cap) ∧ w2.frozen? ⟨T, 5, none⟩ = false ∧ GR w C G E T base tot r n (k + 1) f g t (w2.setCell ⟨T, 5, none⟩ (.slice ao' (k + 1) cap')) := by
  obtain ⟨⟨f', v', xs', u, ys, hC, hfe, h5, hv, hfl, hT, hu⟩, hG, hgap, hfr⟩ := H
  obtain ⟨ao, cap, rfl⟩ := owns_slice hu
  have hws := hfr.size
  have hTC : T ≠ C := fun e => by have := L.cb; have := L.tb; omega
  have hTG : T ≠ G := fun e => by have := L.gb; have := L.tb; omega
  have hTE : ¬ (0 < tot ∧ T = E) := fun h => by have := (L.e h.1).1; have := L.tb; omega
  have hbase : base ≤ wr.heap.size := by have := L.tb; have := L.tw; omega
  have cT := hT.cell (i := 5) (by omega)
  simp only [if_pos] at cT
  refine ⟨ao, cap, cT, ?_⟩
  refine (take_any C E (n + k) base v' xs' f' tot (r - k) wr.drew hC.drew (by rw [hfe 1 (by omega) (by omega) (by omega)]; exact h1) h5 (by rw [hfe 6 (by omega) (by omega) (by omega)]; exact h6) hfl hr (by omega) hgap (by have := L.c0; omega) (fun h => ⟨(L.e h).1, (L.e h).2.1⟩) (owns_block hv fun _ _ => rfl) hn hbase L.cb).mono ?_
  rintro e w1 ⟨he, f2, v2, xs2, hC2, hfe2, h52, hv2, hfl2, hfr2⟩
  -- the frame of take
  have hz : Fz (fun j => j = C ∨ (0 < tot ∧ j = E) ∨ j = T) base wr w1 := by
    refine ⟨hfr2.os, hfr2.tape, hfr2.output, hfr2.size, fun i hi hn => hfr2.block i hi (fun hx => hn ?_)⟩
    rcases hx with hx | hx | hx
    · exact Or.inl (Or.inl hx)
    · refine Or.inr ?_
      rcases hv.2 with ⟨rfl, _⟩ | ⟨gg, cp, cur, rfl, hb, hg, _⟩
      · simp [Value.ownBlock] at hx
      · simp only [Value.ownBlock, Option.some.injEq] at hx
        subst hx
        exact ⟨hb, cur, _, hg⟩
    · exact Or.inl (Or.inr (Or.inl hx))
  have hvT : ∀ (W : World) (vv : Value) (nn : Nat) (zs : List Value), W.ownsRow base 73 6 vv nn zs → W.rowIs T 40 9 (fun j => if j = 5 then .slice ao k cap else t j) → vv.ownBlock ≠ some T := by
    intro W vv nn zs ho hrT hx
    rcases ho.2 with ⟨rfl, _⟩ | ⟨gg, cp, cur, rfl, hb, hg, _⟩
    · simp [Value.ownBlock] at hx
    · simp only [Value.ownBlock, Option.some.injEq] at hx
      subst hx
      obtain ⟨c', hc', _, _⟩ := hrT
      rw [hc'] at hg
      cases hg
  have hT1 : w1.rowIs T 40 9 (fun j => if j = 5 then .slice ao k cap else t j) := by
    refine hfr2.row hT.drew (fun hx => ?_)
    rcases hx with hx | hx | hx
    · exact hTC hx
    · exact hvT wr v' _ _ hv hT hx
    · exact hTE hx
  have c1 := hT1.cell (i := 5) (by omega)
  simp only [if_pos] at c1
  refine ⟨he, c1, hT1.lt, ?_⟩
  -- the append to t.ids
  obtain ⟨i0, hi, hzz⟩ := Option.map_eq_some_iff.1 info21
  simp only [Prod.mk.injEq] at hzz
  obtain ⟨hz0, hz1, hz2⟩ := hzz
  have hsz1 : wr.heap.size ≤ w1.heap.size := hfr2.size
  have hune : ∀ (W : World) (nn : Nat) (zs : List Value), W.ownsRow w.heap.size 21 1 (.slice ao nn cap) nn zs → ∀ j, j < w.heap.size → (Value.slice ao nn cap).ownBlock ≠ some j := fun W nn zs ho j hj => owns_ne ho hj
  have hu1 : w1.ownsRow w.heap.size 21 1 (.slice ao k cap) k ys := owns_block hu fun gg hgg => by
    rcases hu.2 with ⟨e0, _⟩ | ⟨g2, cp, cur, e0, hb, hg, _⟩
    · rw [e0] at hgg; simp [Value.ownBlock] at hgg
    · rw [e0] at hgg
      simp only [Value.ownBlock, Option.some.injEq] at hgg
      subst hgg
      refine hfr2.block g2 (Array.getElem?_eq_some_iff.1 hg).1 (fun hx => ?_)
      rcases hx with hx | hx | hx
      · have := L.cb; have := L.tb; have := L.tw; omega
      · rcases hv.2 with ⟨rfl, _⟩ | ⟨gg, cp', cur', rfl, hb', hg', _⟩
        · simp [Value.ownBlock] at hx
        · simp only [Value.ownBlock, Option.some.injEq] at hx
          subst hx
          rw [hg] at hg'
          cases hg'
      · have := (L.e hx.1).1; have := L.tb; have := L.tw; omega
  obtain ⟨u', w2, hrun, hu2, hgr, _⟩ := run_append_own (P := Ybaf.prog) (w1.alloc (.cells #[.int .i32 ((n + k : Nat) : Int)] 21)) w.heap.size 38 38 21 i0 _ 1 4 Ybaf.underlying38 hi hz0 hz1 hz2 (by rfl) (by omega) (.slice ao k cap) k ys (hu1.alloc _)
    ⟨w1.heap.size, 0, none⟩ 1 1 [.int .i32 ((n + k : Nat) : Int)] (by rfl) (fun j x hj => by
      match j, hj with
      | 0, hj => simp at hj; subst hj; simp [Addr.add]) (by intro x hx; simp at hx; subst hx; rfl) (by unfold maxLen; omega) (by omega) (by simp; omega)
  obtain ⟨ao', cap', rfl⟩ := owns_slice hu2
  have hlow : ∀ j, j < w.heap.size → (Value.slice ao k cap).ownBlock ≠ some j := fun j hj => owns_ne hu hj
  have hTlow := hlow T L.tw
  have hT2 : w2.rowIs T 40 9 (fun j => if j = 5 then .slice ao k cap else t j) := (hT1.alloc _).of_block (hgr.block T (by have := L.tw; simp; omega) (fun h => hTlow h.symm))
  have c2 := hT2.cell (i := 5) (by omega)
  simp only [if_pos] at c2
  refine ⟨ao', cap', w2, hrun, c2, hT2.frozen 5, ?_⟩
  have hClow := hlow C (by have := L.cb; have := L.tb; have := L.tw; omega)
  have hGlow := hlow G (by have := L.gb; have := L.tb; have := L.tw; omega)
  have h0low := hlow 0 (by have := L.c0; have := L.cb; have := L.tb; have := L.tw; omega)
  have hz2' : Fz (fun j => j = C ∨ (0 < tot ∧ j = E) ∨ j = T) base w (w2.setCell ⟨T, 5, none⟩ (.slice ao' (k + 1) cap')) := by
    refine ((((hfr.trans hz).alloc _).grown hgr (fun j hj => Or.inr ?_)).setCell _ _ (Or.inl (Or.inr (Or.inr rfl))))
    rcases Nat.lt_or_ge j w.heap.size with h | h
    · exact absurd hj (hlow j h)
    · exact h
  have hv3 : (w2.setCell ⟨T, 5, none⟩ (.slice ao' (k + 1) cap')).ownsRow base 73 6 v2 (n + k + 1) xs2 := owns_block hv2 fun gg hgg => by
    have hgT : gg ≠ T := fun e => hvT w1 v2 _ _ hv2 hT1 (by rw [hgg, e])
    rw [Go.Deep.blk_setCell_other _ _ _ _ hgT]
    rcases hv2.2 with ⟨rfl, _⟩ | ⟨g2, cp, cur, rfl, hb, hg, _⟩
    · simp [Value.ownBlock] at hgg
    · simp only [Value.ownBlock, Option.some.injEq] at hgg
      subst hgg
      have hlt := (Array.getElem?_eq_some_iff.1 hg).1
      rw [hgr.block g2 (by simp; omega) (fun h => ?_)]
      · exact Go.Deep.blk_alloc_lt _ _ _ hlt
      · rcases hu1.2 with ⟨e0, _⟩ | ⟨g3, cp', cur', e0, hb', hg', _⟩
        · rw [e0] at h; simp [Value.ownBlock] at h
        · rw [e0] at h
          simp only [Value.ownBlock, Option.some.injEq] at h
          subst h
          rw [hg] at hg'
          cases hg'
  refine ⟨⟨f2, v2, xs2, .slice ao' (k + 1) cap', ys ++ [.int .i32 ((n + k : Nat) : Int)], ?_, fun j a b c => (hfe2 j a b c).trans (hfe j a b c), h52, ?_, ?_, ?_, ?_⟩, ?_, ?_, hz2'⟩
  · exact ((hC2.alloc _).of_block (hgr.block C (by have := L.cb; have := L.tb; have := L.tw; simp; omega) (fun h => hClow h.symm))).setOther (fun e => hTC e.symm) _
  · rw [← Nat.add_assoc]; exact hv3
  · rcases hfl2 with h | ⟨a1, a2, a3⟩
    · exact Or.inl h
    · refine Or.inr ⟨a1, a2, ?_⟩
      rcases a3 with ⟨b1, b2, b3, b4⟩ | ⟨b1, b2, b3⟩
      · refine Or.inl ⟨by omega, b2, b3, ?_⟩
        have hEl := L.e a1
        have := ((b4.alloc (.cells #[.int .i32 ((n + k : Nat) : Int)] 21)).of_block (hgr.block E (by have := L.tb; have := L.tw; simp; omega) (fun h => hlow E (by have := L.tb; have := L.tw; omega) h.symm))).setOther (a := ⟨T, 5, none⟩) (fun e => hTE ⟨a1, e.symm⟩) (.slice ao' (k + 1) cap')
        exact this.congr fun j hj => by rw [show (-1 - (r - (k : Int) - 1)) = -1 - (r - ((k + 1 : Nat) : Int)) by omega]
      · exact Or.inr ⟨by omega, b2, b3⟩
  · exact (hT2.set 5 _).congr fun j hj => by by_cases e5 : j = 5 <;> simp [e5]
  · refine owns_block hu2 fun gg hgg => Go.Deep.blk_setCell_other _ _ _ _ (fun e => ?_)
    exact owns_ne hu2 L.tw (by rw [hgg, e])
  · have hG1 : w1.rowIs G 25 2 g := hz.row hG (fun hx => by
      rcases hx with hx | hx | hx
      · exact L.cg hx.symm
      · exact (L.e hx.1).2.2.1 hx.2.symm
      · exact hTG hx.symm) (Or.inl (by decide))
    exact ((hG1.alloc _).of_block (hgr.block G (by have := L.gb; have := L.tb; have := L.tw; simp; omega) (fun h => hGlow h.symm))).setOther (fun e => hTG e.symm) _
  · have g1 : w1.cell? ⟨0, 0, none⟩ = some (.int .i32 (-1)) := by
      rw [hz.cellLow (by have := L.c0; have := L.cb; omega) (by have := L.c0; have := L.cb; omega) (fun hx => ?_)]
      · exact hgap
      · rcases hx with hx | hx | hx
        · have := L.c0; omega
        · have := (L.e hx.1).2.2.2; omega
        · have := L.tb; have := L.cb; omega
    have hs0 : 0 < w1.heap.size := by have := L.tw; omega
    rw [World.cell?_setCell_other _ _ _ _ (by intro h; cases h), grown_cell hgr (by simp) h0low, World.cell?_alloc_past _ _ _ hs0]
    exact g1
end Go.Proofs.YbulkqjiFmt
