/-
  DERIVED. The state of the law's own search (eval.LawS0846BReach, loops 6 and 7), and its stores.
-/
import Derived.Test.YbulkqmoVis
namespace Go.Proofs.Ybulkqmo
open Go.RowKit
set_option linter.unusedVariables false

structure OS (d : Dat) (b : Bl) (base J A V Cn Ba Re : Nat) (w0 : World) (S1 : Bfs.S) (k1 : Nat) (s : Bfs.S) (bf rf : Nat → Bool) (ov : Value) (wr : World) : Prop where
  ri : RI d b base J A S1 k1 wr wr
  v : wr.rowIs V 4 d.n (fun i => .bool (decide (i ∈ s.1)))
  o : wr.ownsRow base 3 1 ov s.1.length (s.1.map fun q : Nat => Value.int .i64 (q : Int))
  c : wr.rowIs Cn 21 d.n (fun i => .int .i32 (s.2 i : Nat))
  ba : wr.rowIs Ba 4 d.n (fun i => .bool (bf i))
  re : wr.rowIs Re 4 d.n (fun i => .bool (rf i))
  vb : V ≠ Ba
  vr : V ≠ Re
  br : Ba ≠ Re
  ca : Cn ≠ A
  be : Below w0.heap.size w0 wr
  bb : w0.heap.size ≤ base
  hV : base ≤ V
  hC : base ≤ Cn
  hB : base ≤ Ba
  hR : base ≤ Re
  ok : Bfs.Ok d.n s

/-- A store into one of the law's own rows. -/
theorem os_store {d : Dat} {b : Bl} {base J A : Nat} {w0 : World} {S1 : Bfs.S} {k1 : Nat} {wr : World} {X j : Nat} {t : TypeId} {n : Nat} {f : Nat → Value} (H : RI d b base J A S1 k1 wr wr) (hX : wr.rowIs X t n f) (ht : t ≠ 87) (hJ : t ≠ 82) (hA : X ≠ A) (hb : base ≤ X) (be : Below w0.heap.size w0 wr) (bb : w0.heap.size ≤ base) (u : Value) :
    RI d b base J A S1 k1 (wr.setCell ⟨X, j, none⟩ u) (wr.setCell ⟨X, j, none⟩ u) ∧ Below w0.heap.size w0 (wr.setCell ⟨X, j, none⟩ u) := by
  obtain ⟨⟨fj, hJr⟩, ⟨fa, hAr⟩⟩ := H.types
  have hf : Fr (fun x => x = X) wr (wr.setCell ⟨X, j, none⟩ u) := (Fr.refl _ wr).setCell _ _ (Or.inl rfl)
  refine ⟨H.other hf fun x e => ?_, be.trans (hf.below (B := w0.heap.size) be.size fun k hk e => by omega)⟩
  subst e
  exact ⟨hb, row_ne hX hJr hJ, hA, row_not87 hX ht⟩

section
variable {d : Dat} {b : Bl} {base J A V Cn Ba Re : Nat} {w0 : World} {S1 : Bfs.S} {k1 : Nat} {s : Bfs.S} {bf rf : Nat → Bool} {ov : Value} {wr : World}

theorem OS.va (H : OS d b base J A V Cn Ba Re w0 S1 k1 s bf rf ov wr) : V ≠ A ∧ Ba ≠ A ∧ Re ≠ A ∧ V ≠ Cn ∧ Ba ≠ Cn ∧ Re ≠ Cn := by
  obtain ⟨_, ⟨fa, hAr⟩⟩ := H.ri.types
  exact ⟨row_ne H.v hAr (by decide), row_ne H.ba hAr (by decide), row_ne H.re hAr (by decide), row_ne H.v H.c (by decide), row_ne H.ba H.c (by decide), row_ne H.re H.c (by decide)⟩

theorem owns_set {w : World} {base e size n : Nat} {v : Value} {xs : List Value} (h : w.ownsRow base e size v n xs) {X t m : Nat} {f : Nat → Value} (hX : w.rowIs X t m f) (ht : t ≠ e) (j : Nat) (u : Value) : (w.setCell ⟨X, j, none⟩ u).ownsRow base e size v n xs :=
  owns_block h fun g hg => Go.Deep.blk_setCell_other _ _ _ _ (fun e' => owns_ne_row h hX ht (by rw [hg, e']))

theorem OS.setBa (H : OS d b base J A V Cn Ba Re w0 S1 k1 s bf rf ov wr) (q : Nat) (x : Bool) : OS d b base J A V Cn Ba Re w0 S1 k1 s (fun i => if i = q then x else bf i) rf ov (wr.setCell ⟨Ba, q, none⟩ (.bool x)) := by
  obtain ⟨va, ba, ra, vc, bc, rc⟩ := H.va
  obtain ⟨h1, h2⟩ := os_store (j := q) H.ri H.ba (by decide) (by decide) ba H.hB H.be H.bb (.bool x)
  exact ⟨h1, H.v.setOther H.vb _, owns_set H.o H.ba (by decide) _ _, H.c.setOther (fun e => bc e.symm) _, (H.ba.set q _).congr fun i _ => by by_cases h : i = q <;> simp [h], H.re.setOther (fun e => H.br e.symm) _, H.vb, H.vr, H.br, H.ca, h2, H.bb, H.hV, H.hC, H.hB, H.hR, H.ok⟩
theorem OS.setRe (H : OS d b base J A V Cn Ba Re w0 S1 k1 s bf rf ov wr) (q : Nat) (x : Bool) : OS d b base J A V Cn Ba Re w0 S1 k1 s bf (fun i => if i = q then x else rf i) ov (wr.setCell ⟨Re, q, none⟩ (.bool x)) := by
  obtain ⟨va, ba, ra, vc, bc, rc⟩ := H.va
  obtain ⟨h1, h2⟩ := os_store (j := q) H.ri H.re (by decide) (by decide) ra H.hR H.be H.bb (.bool x)
  exact ⟨h1, H.v.setOther H.vr _, owns_set H.o H.re (by decide) _ _, H.c.setOther (fun e => rc e.symm) _, H.ba.setOther H.br _, (H.re.set q _).congr fun i _ => by by_cases h : i = q <;> simp [h], H.vb, H.vr, H.br, H.ca, h2, H.bb, H.hV, H.hC, H.hB, H.hR, H.ok⟩
theorem OS.new {w' : World} (H : OS d b base J A V Cn Ba Re w0 S1 k1 s bf rf ov wr) (hf : New wr w') : OS d b base J A V Cn Ba Re w0 S1 k1 s bf rf ov w' :=
  ⟨(H.ri.new hf).reset, hf.row H.v (fun h => h), owns_fr H.o hf (fun _ _ h => h), hf.row H.c (fun h => h), hf.row H.ba (fun h => h), hf.row H.re (fun h => h), H.vb, H.vr, H.br, H.ca, H.be.trans (hf.below (B := w0.heap.size) H.be.size fun _ _ h => h), H.bb, H.hV, H.hC, H.hB, H.hR, H.ok⟩

/-- The count of one role. -/
theorem OS.count (H : OS d b base J A V Cn Ba Re w0 S1 k1 s bf rf ov wr) {t : Nat} (ht : t ∈ s.1) : OS d b base J A V Cn Ba Re w0 S1 k1 (s.1, fun u => if u = t then s.2 u + 1 else s.2 u) bf rf ov (wr.setCell ⟨Cn, t, none⟩ (.int .i32 ((s.2 t : Int) + 1))) := by
  obtain ⟨va, ba, ra, vc, bc, rc⟩ := H.va
  obtain ⟨h1, h2⟩ := os_store (j := t) H.ri H.c (by decide) (by decide) H.ca H.hC H.be H.bb (.int .i32 ((s.2 t : Int) + 1))
  exact ⟨h1, H.v.setOther vc _, owns_set H.o H.c (by decide) _ _, (H.c.set t _).congr fun i _ => by by_cases h : i = t <;> simp [h], H.ba.setOther bc _, H.re.setOther rc _, H.vb, H.vr, H.br, H.ca, h2, H.bb, H.hV, H.hC, H.hB, H.hR,
    ⟨H.ok.nodup, H.ok.lt, fun q hq => by have : q ≠ t := fun e => hq (by rw [e]; exact ht); simp [this, H.ok.zero q hq]⟩⟩

/-- One role more. -/
theorem OS.push (H : OS d b base J A V Cn Ba Re w0 S1 k1 s bf rf ov wr) (hd : d.Good) {t : Nat} (ht : t < d.n) (hts : t ∉ s.1) :
    ∃ v1 w1, (Builtin.append_ #[83, 83] 83 #[ov, .slice (some ⟨wr.heap.size, 0, none⟩) 1 1]).run Yba.prog ((wr.setCell ⟨V, t, none⟩ (.bool true)).alloc (.cells #[.int .i64 (t : Int)] 3)) = .ok v1 w1 ∧ OS d b base J A V Cn Ba Re w0 S1 k1 (s.1 ++ [t], s.2) bf rf v1 w1 := by
  obtain ⟨va, ba, ra, vc, bc, rc⟩ := H.va
  obtain ⟨h1, h2⟩ := os_store (j := t) H.ri H.v (by decide) (by decide) va H.hV H.be H.bb (.bool true)
  have hlen := Bfs.length_le H.ok.nodup H.ok.lt
  have hn1 := hd.n1
  have hoa := owns_set H.o H.v (by decide) t (.bool true)
  have esz : (wr.setCell ⟨V, t, none⟩ (.bool true)).heap.size = wr.heap.size := by simp
  obtain ⟨v1, w1, happ, ho1, hf1⟩ := pushN base s.1.length 1 8 83 3 _ ov _ [.int .i64 (t : Int)] (wr.setCell ⟨V, t, none⟩ (.bool true)) _ Yba.underlying83 info3 (by rfl) (by omega) (by intro u hu; simp at hu; subst hu; rfl) hoa (by rfl) (by omega) (by omega) h1.2.1.bw (Sm.refl _)
  rw [esz] at happ
  have hv := (H.v.set t (.bool true))
  have hc := H.c.setOther (a := ⟨V, t, none⟩) (fun e => vc e.symm) (.bool true)
  have hb := H.ba.setOther (a := ⟨V, t, none⟩) (fun e => H.vb e.symm) (.bool true)
  have hr := H.re.setOther (a := ⟨V, t, none⟩) (fun e => H.vr e.symm) (.bool true)
  obtain ⟨⟨fj', hJ'⟩, ⟨fa', hA'⟩⟩ := h1.types
  refine ⟨v1, w1, happ, ⟨h1.other hf1 fun x hx => ⟨(hoa.lt x hx).1, fun e => owns_ne_row hoa hJ' (by decide) (by rw [hx, e]), fun e => owns_ne_row hoa hA' (by decide) (by rw [hx, e]), owns_not87 hoa (by decide) hx⟩,
    (hf1.row hv (owns_ne_row hoa hv (by decide))).congr fun i _ => by by_cases h : i = t <;> simp [h], by rw [List.length_append, List.map_append]; exact ho1, hf1.row hc (owns_ne_row hoa hc (by decide)), hf1.row hb (owns_ne_row hoa hb (by decide)), hf1.row hr (owns_ne_row hoa hr (by decide)),
    H.vb, H.vr, H.br, H.ca, h2.trans (hf1.below (B := w0.heap.size) h2.size fun k hk hx => by have := (hoa.lt k hx).1; have := H.bb; omega), H.bb, H.hV, H.hC, H.hB, H.hR, ⟨?_, ?_, ?_⟩⟩⟩
  · rw [List.nodup_append]
    exact ⟨H.ok.nodup, by simp, fun a ha b hb => by simp at hb; subst hb; exact fun e => hts (e ▸ ha)⟩
  · intro q hq
    simp at hq
    rcases hq with hq | rfl
    · exact H.ok.lt q hq
    · exact ht
  · intro q hq
    simp at hq
    exact H.ok.zero q hq.1
theorem OS.start {w8 : World} {ord : List Nat} (H : VS d b base J A V w0 ord ov wr) (hri : RI d b base J A S1 k1 wr w8) : OS d b base J A V w8.heap.size (w8.heap.size + 1) (w8.heap.size + 1 + 1) w0 S1 k1 (ord, fun _ => 0) (fun _ => false) (fun _ => false) ov (((w8.alloc (.cells (madeCells #[.int .i32 0] d.n) 21)).alloc (.cells (madeCells #[.bool false] d.n) 4)).alloc (.cells (madeCells #[.bool false] d.n) 4)) := by
  obtain ⟨⟨fj, hJ⟩, ⟨fa, hA⟩⟩ := H.ri.types
  have e1 : (w8.alloc (.cells (madeCells #[.int .i32 0] d.n) 21)).heap.size = w8.heap.size + 1 := by simp
  have e2 : ((w8.alloc (.cells (madeCells #[.int .i32 0] d.n) 21)).alloc (.cells (madeCells #[.bool false] d.n) 4)).heap.size = w8.heap.size + 1 + 1 := by simp
  have hv := hri.2.2.2.row H.v (row_ne H.v hJ (by decide)) (row_ne H.v hA (by decide)) (by decide)
  have ho := hri.2.2.2.owns H.o (owns_ne_row H.o hJ (by decide)) (owns_ne_row H.o hA (by decide)) (by decide)
  have hn : New w8 (((w8.alloc (.cells (madeCells #[.int .i32 0] d.n) 21)).alloc (.cells (madeCells #[.bool false] d.n) 4)).alloc (.cells (madeCells #[.bool false] d.n) 4)) := (((Fr.refl _ w8).alloc _).alloc _).alloc _
  have hc := World.rowIs_made w8 (.int .i32 0) d.n 21
  have hb := World.rowIs_made (w8.alloc (.cells (madeCells #[.int .i32 0] d.n) 21)) (.bool false) d.n 4
  have hr := World.rowIs_made ((w8.alloc (.cells (madeCells #[.int .i32 0] d.n) 21)).alloc (.cells (madeCells #[.bool false] d.n) 4)) (.bool false) d.n 4
  rw [e1] at hb
  rw [e2] at hr
  have hvl := hv.lt
  obtain ⟨_, ⟨fa8, hA8⟩⟩ := hri.types
  have hAl := hA8.lt
  have hbw := hri.2.1.bw
  have hbe : Below w0.heap.size w0 w8 := H.be.trans (hri.2.2.1.below (B := w0.heap.size) H.be.size fun k hk h => by have := H.bb; omega)
  exact ⟨(hri.new hn).reset, hn.row hv (fun h => h), owns_fr ho hn (fun _ _ h => h), ((hc.alloc _).alloc _).congr (fun i _ => by simp), hb.alloc _, hr, by omega, by omega, by omega, by omega, hbe.trans (hn.below (B := w0.heap.size) hbe.size fun _ _ h => h), H.bb, H.vb, by omega, by omega, by omega, H.ri.jcells.2.2.2⟩
end

/-- The end of one role's round. -/
theorem own_end {d : Dat} {so : Bfs.S} {k q : Nat} {bf rf bf1 rf1 : Nat → Bool} (hqk : so.1[k]? = some q) (hok : Bfs.Ok d.n (d.inner q (d.len q) so)) (hdone : ∀ i q', i < k → so.1[i]? = some q' → bf q' = d.bareF q' (d.len q') ∧ rf q' = d.readF q' (d.len q')) (hrf : ∀ q', q' ∉ so.1.take k → rf q' = false)
    (h1 : bf1 q = d.bareF q (d.len q)) (h2 : rf1 q = d.readF q (d.len q)) (h3 : ∀ q', q' ≠ q → bf1 q' = bf q' ∧ rf1 q' = rf q') :
    (∀ i q', i < k + 1 → (d.inner q (d.len q) so).1[i]? = some q' → bf1 q' = d.bareF q' (d.len q') ∧ rf1 q' = d.readF q' (d.len q')) ∧ (∀ q', q' ∉ (d.inner q (d.len q) so).1.take (k + 1) → rf1 q' = false) := by
  obtain ⟨r, hr⟩ := Bfs.inner_pre (K := d.K) (T := d.T) (X := d.X) q (d.len q) so
  have hr' : (d.inner q (d.len q) so).1 = so.1 ++ r := hr
  have hkl := (List.getElem?_eq_some_iff.1 hqk).1
  have hnd := hok.nodup
  have hkq : (d.inner q (d.len q) so).1[k]? = some q := by rw [hr', List.getElem?_append_left hkl]; exact hqk
  constructor
  · intro i q' hi hq'
    by_cases hik : i = k
    · subst hik
      rw [hkq] at hq'
      cases hq'
      exact ⟨h1, h2⟩
    · have hne : q' ≠ q := fun e => by
        subst e
        obtain ⟨l1, e1⟩ := List.getElem?_eq_some_iff.1 hq'
        obtain ⟨l2, e2⟩ := List.getElem?_eq_some_iff.1 hkq
        exact hik ((List.getElem_inj hnd).1 (e1.trans e2.symm))
      rw [(h3 q' hne).1, (h3 q' hne).2]
      refine hdone i q' (by omega) ?_
      rw [hr', List.getElem?_append_left (by omega)] at hq'
      exact hq'
  · intro q' hq'
    have hne : q' ≠ q := fun e => hq' (by
      subst e
      refine List.mem_of_getElem? (i := k) ?_
      rw [List.getElem?_take, if_pos (by omega)]
      exact hkq)
    rw [(h3 q' hne).2]
    refine hrf q' fun hm => hq' ?_
    obtain ⟨i, hi⟩ := List.getElem?_of_mem hm
    rw [List.getElem?_take] at hi
    split at hi
    · rename_i hik
      refine List.mem_of_getElem? (i := i) ?_
      rw [List.getElem?_take, if_pos (by omega), hr', List.getElem?_append_left (by omega)]
      exact hi
    · cases hi
/-- What is read of a role that is not done yet. -/
theorem own_fresh {n : Nat} {so : Bfs.S} {k q : Nat} (hok : Bfs.Ok n so) (hqk : so.1[k]? = some q) : q ∉ so.1.take k := fun hm => by
  obtain ⟨i, hi⟩ := List.getElem?_of_mem hm
  rw [List.getElem?_take] at hi
  split at hi
  · rename_i hik
    obtain ⟨l1, e1⟩ := List.getElem?_eq_some_iff.1 hi
    obtain ⟨l2, e2⟩ := List.getElem?_eq_some_iff.1 hqk
    have := (List.getElem_inj hok.nodup).1 (e1.trans e2.symm)
    omega
  · cases hi
end Go.Proofs.Ybulkqmo
