/-
  DERIVED. (*parser).enter of cli at a command whose New is the law's closure.
-/
import Derived.Test.YbulkqncEnter
namespace Go.Proofs.Ybulkqnc
open Go.RowKit
set_option linter.unusedVariables false

theorem Fr.trans' {S S' : Nat → Prop} {a b c : World} (h : Fr S a b) (k : Fr S' b c) (hs : ∀ i, i < a.heap.size → S' i → S i) : Fr S a c := ⟨k.os.trans h.os, k.tape.trans h.tape, k.output.trans h.output, Nat.le_trans h.size k.size, fun i hi hn => (k.block i (Nat.lt_of_lt_of_le hi h.size) (fun x => hn (hs i hi x))).trans (h.block i hi hn)⟩
theorem owns_le {w : World} {b1 b2 e size n : Nat} {v : Value} {xs : List Value} (h : w.ownsRow b1 e size v n xs) (hb : b2 ≤ b1) : w.ownsRow b2 e size v n xs := by
  refine ⟨h.1, ?_⟩
  rcases h.2 with h0 | ⟨g, cap, cur, h1, h2, h3⟩
  · exact Or.inl h0
  · exact Or.inr ⟨g, cap, cur, h1, Nat.le_trans hb h2, h3⟩
theorem Sm.owns {a b : World} (h : Sm a b) {base e size n : Nat} {v : Value} {xs : List Value} (k : b.ownsRow base e size v n xs) : a.ownsRow base e size v n xs := owns_block k fun g _ => by rw [h.heap]

/-- What lies there when Flags is called. -/
structure EX (PA C NW LF base n np : Nat) (pv pv' flv cv nv : Value) (xs ys : List Value) (f : Nat → Value) (SE : Nat) (w X : World) : Prop where
  p : X.rowIs PA 45 8 (fun j => if j = 1 then pv' else if j = 2 then cv else if j = 3 then .iface 46 (ptr LF) else if j = 4 then ptr SE else f j)
  o : X.ownsRow base 24 1 pv' (n + 1) (xs ++ [ptr C])
  fl : X.ownsRow base 30 1 flv np ys
  lf : X.rowIs LF 48 2 (fun j => if j = 0 then nv else .int .i64 0)
  se : X.rowIs SE 38 2 (fun _ => .slice none 0 0)
  nw : X.rowIs NW 3 1 (fun _ => .int .i64 1)
  fr : Fr (fun k => k = PA ∨ k = NW ∨ pv.ownBlock = some k) w X
  hse : w.heap.size ≤ SE
  hb : base ≤ w.heap.size

/-- What enter leaves. -/
structure EP (PA C NW LF SE base n np nl : Nat) (pv pv' flv flv' fv cv nv : Value) (xs ys : List Value) (nm : Nat → ByteArray) (fs : List Nat) (f : Nat → Value) (w w' : World) : Prop where
  p : w'.rowIs PA 45 8 (fun j => if j = 1 then pv' else if j = 2 then cv else if j = 3 then .iface 46 (ptr LF) else if j = 4 then ptr SE else if j = 6 then flv' else f j)
  o : w'.ownsRow base 24 1 pv' (n + 1) (xs ++ [ptr C])
  fl : w'.ownsRow base 30 1 flv' (np + nl) (ys ++ fs.map ptr)
  lf : w'.rowIs LF 48 2 (fun j => if j = 0 then nv else .int .i64 1)
  se : w'.rowIs SE 38 2 (fun j => if j = 0 then fv else .slice none 0 0)
  sf : w'.ownsRow base 30 1 fv nl (fs.map ptr)
  nm : ∀ j g, fs[j]? = some g → w'.cell? ⟨g, 0, none⟩ = some (.string (nm j))
  nw : w'.rowIs NW 3 1 (fun _ => .int .i64 1)
  len : fs.length = nl
  hse : w.heap.size ≤ SE
  fr : Fr (fun k => k = PA ∨ k = NW ∨ k = LF ∨ pv.ownBlock = some k ∨ flv.ownBlock = some k) w w'

theorem EX.app {PA C NW LF base n np nl SE : Nat} {pv pv' flv cv nv fv : Value} {xs ys : List Value} {nm : Nat → ByteArray} {fs : List Nat} {f : Nat → Value} {w X W w5 : World} (H : EX PA C NW LF base n np pv pv' flv cv nv xs ys f SE w X) (hf6 : f 6 = flv) (hnp : np ≤ 1024) (hnl : nl ≤ 1024) (hW : Sm W X) (H5 : FS LF SE nv nm W nl fs fv w5) :
    w5.cell? ⟨PA, 6, none⟩ = some flv ∧ w5.cell? ⟨PA, 4, none⟩ = some (ptr SE) ∧ w5.cell? ⟨SE, 0, none⟩ = some fv ∧
    ∀ W6, Sm W6 w5 → ∃ flv' w6, (Builtin.append_ #[29, 29] 29 #[flv, fv]).run Yba.prog W6 = .ok flv' w6 ∧ ((∃ a c, flv' = .slice a (np + nl) c) ∧ w6.cell? ⟨PA, 6, none⟩ = some flv ∧ w6.frozen? ⟨PA, 6, none⟩ = false ∧
      EP PA C NW LF SE base n np nl pv pv' flv flv' fv cv nv xs ys nm fs f w (w6.setCell ⟨PA, 6, none⟩ flv')) := by
  have hPL : PA ≠ LF := row_ne H.p H.lf (by decide)
  have hPS : PA ≠ SE := row_ne H.p H.se (by decide)
  have hNL : NW ≠ LF := row_ne H.nw H.lf (by decide)
  have hNS : NW ≠ SE := row_ne H.nw H.se (by decide)
  have hPN : NW ≠ PA := row_ne H.nw H.p (by decide)
  have nS : ∀ {k}, k ≠ LF → k ≠ SE → ¬ (k = LF ∨ k = SE) := fun a b h => h.elim a b
  have p5 := H5.fr.row (hW.row H.p) (nS hPL hPS)
  have nw5 := H5.fr.row (hW.row H.nw) (nS hNL hNS)
  have lfW := hW.row H.lf
  have seW := hW.row H.se
  have oW := hW.owns H.o
  have flW := hW.owns H.fl
  have o5 := owns_fr oW H5.fr (fun g hg h => h.elim (fun e => owns_ne_row oW lfW (by decide) (by rw [hg, e])) (fun e => owns_ne_row oW seW (by decide) (by rw [hg, e])))
  have fl5 := owns_fr flW H5.fr (fun g hg h => h.elim (fun e => owns_ne_row flW lfW (by decide) (by rw [hg, e])) (fun e => owns_ne_row flW seW (by decide) (by rw [hg, e])))
  have hWs : W.heap.size = X.heap.size := by rw [hW.heap]
  have hXs := H.fr.size
  have hbW : base ≤ W.heap.size := by have := H.hb; omega
  have sf5 := owns_le H5.o hbW
  have c6 : w5.cell? ⟨PA, 6, none⟩ = some flv := by rw [p5.cell (i := 6) (by omega)]; simp [hf6]
  have c4 : w5.cell? ⟨PA, 4, none⟩ = some (ptr SE) := by rw [p5.cell (i := 4) (by omega)]; simp
  have s0 : w5.cell? ⟨SE, 0, none⟩ = some fv := by rw [H5.se.cell (i := 0) (by omega)]; simp
  refine ⟨c6, c4, s0, fun W6 hW6 => ?_⟩
  have apart : ∀ g, fv.ownBlock = some g → flv.ownBlock ≠ some g := fun g hg hx => by
    have h1 := (H5.o.lt g hg).1
    have h2 := (flW.lt g hx).2
    omega
  have fin : ∀ flv' w6, w6.ownsRow base 30 1 flv' (np + nl) (ys ++ fs.map ptr) → Fr (fun k => flv.ownBlock = some k) w5 w6 → (∃ a c, flv' = .slice a (np + nl) c) ∧ w6.cell? ⟨PA, 6, none⟩ = some flv ∧ w6.frozen? ⟨PA, 6, none⟩ = false ∧
      EP PA C NW LF SE base n np nl pv pv' flv flv' fv cv nv xs ys nm fs f w (w6.setCell ⟨PA, 6, none⟩ flv') := by
    intro flv' w6 ho hg
    have p6 := hg.row p5 (owns_ne_row fl5 p5 (by decide))
    have nw6 := hg.row nw5 (owns_ne_row fl5 nw5 (by decide))
    have lf6 := hg.row H5.lf (owns_ne_row fl5 H5.lf (by decide))
    have se6 := hg.row H5.se (owns_ne_row fl5 H5.se (by decide))
    have o6 := owns_fr o5 hg (fun g h1 h2 => owns_ne_owns o5 fl5 (by decide) h1 h2)
    have sf6 := owns_fr sf5 hg (fun g h1 h2 => apart g h1 h2)
    refine ⟨owns_slice ho, by rw [p6.cell (i := 6) (by omega)]; simp [hf6], p6.frozen 6, ?_⟩
    refine ⟨(p6.set 6 flv').congr fun j hj => ?_, owns_set o6 p6 (by decide) _ _, owns_set ho p6 (by decide) _ _, lf6.setOther (fun e => hPL e.symm) _, se6.setOther (fun e => hPS e.symm) _, owns_set sf6 p6 (by decide) _ _, fun j g hj => ?_, nw6.setOther hPN _, H5.len, H.hse, ?_⟩
    · by_cases h6 : j = 6
      · subst h6; simp
      · by_cases h1 : j = 1 <;> by_cases h2 : j = 2 <;> by_cases h3 : j = 3 <;> by_cases h4 : j = 4 <;> simp [h1, h2, h3, h4, h6]
    · obtain ⟨h1, _⟩ := H5.nm j g hj
      have h2 := hg.row h1 (owns_ne_row fl5 h1 (by decide))
      have h3 := h2.setOther (a := ⟨PA, 6, none⟩) (row_ne h2 p6 (by decide)) flv'
      exact h3.cell (i := 0) (by omega)
    · have a1 : Fr (fun k => k = PA ∨ k = NW ∨ k = LF ∨ pv.ownBlock = some k ∨ flv.ownBlock = some k) w W := Fr.sm (H.fr.mono fun k _ h => by rcases h with h | h | h <;> simp [h]) hW
      have a2 := a1.trans' H5.fr (fun i hi h => by
        rcases h with h | h
        · exact Or.inr (Or.inr (Or.inl h))
        · have := H.hse; omega)
      have a3 := a2.trans' hg (fun i hi h => Or.inr (Or.inr (Or.inr (Or.inr h))))
      exact a3.setCell ⟨PA, 6, none⟩ _ (Or.inl (Or.inl rfl))
  rcases H5.o.2 with ⟨hv, h0⟩ | ⟨g, cap, cur, hv, _⟩
  · have hfs : fs = [] := List.length_eq_zero_iff.1 (H5.len.trans h0)
    obtain ⟨i0, hi, _⟩ := Option.map_eq_some_iff.1 info30
    refine ⟨flv, W6, ?_, fin flv W6 ?_ (Fr.sm (Fr.refl _ w5) hW6)⟩
    · rw [hv]
      exact run_append_owned_none (P := Yba.prog) W6 base 29 29 30 i0 1 Yba.underlying29 hi flv np ys (hW6.owns fl5)
    · rw [h0, hfs]
      simpa using hW6.owns fl5
  · obtain ⟨i0, hi, hzz⟩ := Option.map_eq_some_iff.1 info30
    simp only [Prod.mk.injEq] at hzz
    obtain ⟨hz', hs, hb⟩ := hzz
    have sfo := H5.o
    rw [hv] at sfo
    obtain ⟨flv', w6, hr, ho, hg, _⟩ := run_append_own (P := Yba.prog) W6 base 29 29 30 i0 _ 1 8 Yba.underlying29 hi hz' hs hb (by rfl) (by omega) flv np ys (hW6.owns fl5) ⟨g, 0, none⟩ nl cap (fs.map ptr) (by simp [H5.len]) (fun j u hj => by
        have hjl := (List.getElem?_eq_some_iff.1 hj).1
        simp [H5.len] at hjl
        have := (hW6.owns sfo).cellAt j (by omega)
        have e : (⟨g, 0, none⟩ : Addr).add j = ⟨g, j, none⟩ := by
          by_cases h : j = 0 <;> simp [Addr.add, h]
        rw [e, this]
        exact hj) (by intro u hu; obtain ⟨x, _, rfl⟩ := List.mem_map.1 hu; rfl) (by unfold maxLen; omega) (by omega) (by rw [hW6.heap]; have := H5.fr.size; omega)
    refine ⟨flv', w6, by rw [hv]; exact hr, fin flv' w6 ho ((Fr.sm (Fr.refl _ w5) hW6).grown hg fun k hk => Or.inl hk)⟩

theorem nil_ahead (a : Addr) (w : World) : (nilAhead 188 46 (.pointer (some a)) "Flags").run Yba.prog w = .ok (some false) w := by kernel_rfl
theorem method_flags (a : Addr) (w : World) : (method 188 46 (.pointer (some a)) "Flags").run Yba.prog w = .ok (26, .pointer (some a)) w := by kernel_rfl

set_option maxHeartbeats 2000000 in
set_option maxRecDepth 100000 in
theorem enter_new (PA C NW LV LF base n np nl : Nat) (pv flv : Value) (ca na : Option Addr) (cl cc nc : Nat) (xs ys : List Value) (f g : Nat → Value) (nm : Nat → ByteArray) (nd : Nat → Addr) (w : World)
    (hP : w.rowIs PA 45 8 f) (hf1 : f 1 = pv) (hf6 : f 6 = flv) (hC : w.rowIs C 28 4 g) (hg2 : g 2 = .slice ca cl cc) (hg3 : g 3 = .func (.func 4) #[] #[ptr NW, ptr LV])
    (hNW : w.rowIs NW 3 1 (fun _ => .int .i64 0)) (hLV : w.rowIs LV 46 1 (fun _ => ptr LF)) (hLF : w.rowIs LF 48 2 (fun j => if j = 0 then .slice na nl nc else .int .i64 0))
    (hown : w.ownsRow base 24 1 pv n xs) (hfl : w.ownsRow base 30 1 flv np ys) (hn : n ≤ 7) (hnp : np ≤ 1024) (hnl : nl ≤ 1024) (hbase : base ≤ w.heap.size)
    (hix : Hid (∀ (j : Nat) (W : World), j < nl → (Instr.indexAt 22 (.slice na nl nc) (.int .i64 (j : Int))).run Yba.prog W = .ok (.pointer (some (nd j))) W))
    (hc : Hid (∀ j, j < nl → w.cell? (nd j) = some (.string (nm j)) ∧ (nd j).block < base)) (hbP : base ≤ PA) (hbN : base ≤ NW) (hbL : base ≤ LF) :
    Calls Yba.prog 5 #[ptr PA, ptr C] w fun e w' => e = .returned (.tuple #[]) ∧ ∃ SE pv' flv' fv fs, EP PA C NW LF SE base n np nl pv pv' flv flv' fv (.slice ca cl cc) (.slice na nl nc) xs ys nm fs f w w' := by
  obtain ⟨pv', w1, hr', ho, hf⟩ := pushN base n 1 8 23 24 _ pv xs [ptr C] w (w.alloc (.cells #[ptr C] 24)) Yba.underlying23 info24 (by rfl) (by omega) (by intro u hu; simp at hu; subst hu; rfl) hown (by rfl) (by omega) (by omega) hbase (Sm.refl _)
  have hPC := row_ne hP hC (by decide)
  have hPN := row_ne hP hNW (by decide)
  have hPV := row_ne hP hLV (by decide)
  have hPL := row_ne hP hLF (by decide)
  have hCN := row_ne hC hNW (by decide)
  have hNV := row_ne hLV hNW (by decide)
  have hNL := row_ne hLF hNW (by decide)
  have p1 := hP.cell (i := 1) (by omega)
  rw [hf1] at p1
  have hP1 := hf.row hP (owns_ne_row hown hP (by decide))
  have hC1 := hf.row hC (owns_ne_row hown hC (by decide))
  have hN1 := hf.row hNW (owns_ne_row hown hNW (by decide))
  have hV1 := hf.row hLV (owns_ne_row hown hLV (by decide))
  have hL1 := hf.row hLF (owns_ne_row hown hLF (by decide))
  have hfl1 := owns_fr hfl hf (fun g h1 h2 => owns_ne_owns hown hfl (by decide) h2 h1)
  obtain ⟨pa, pc, rfl⟩ := owns_slice hown
  obtain ⟨pa', pc', rfl⟩ := owns_slice ho
  obtain ⟨fa, fc, rfl⟩ := owns_slice hfl
  have q1 := hP1.cell (i := 1) (by omega)
  have q2 := hP1.cell (i := 2) (by omega)
  have q3 := hP1.cell (i := 3) (by omega)
  have q4 := hP1.cell (i := 4) (by omega)
  have fz := hP1.frozen 1
  have fz2 := hP1.frozen 2
  have fz3 := hP1.frozen 3
  have fz4 := hP1.frozen 4
  have c2 := hC1.cell (i := 2) (by omega)
  have c3 := hC1.cell (i := 3) (by omega)
  rw [hg2] at c2
  rw [hg3] at c3
  have hCP : C ≠ PA := fun e => hPC e.symm
  have hPw := hP.lt
  have hPw1 := hP1.lt
  have hNw1 := hN1.lt
  have hr : Hid _ := hr'
  have hP3 := ((((hP1.set 1 (.slice pa' (n + 1) pc')).set 2 (.slice ca cl cc)).setOther (a := ⟨NW, 0, none⟩) hPN (.int .i64 1)).set 3 (.iface 46 (ptr LF))).set 4 (ptr w1.heap.size)
  have HX : Hid (EX PA C NW LF base n np (.slice pa n pc) (.slice pa' (n + 1) pc') (.slice fa np fc) (.slice ca cl cc) (.slice na nl nc) xs ys f w1.heap.size w
      ((((((w1.setCell ⟨PA, 1, none⟩ (.slice pa' (n + 1) pc')).setCell ⟨PA, 2, none⟩ (.slice ca cl cc)).setCell ⟨NW, 0, none⟩ (.int .i64 1)).setCell ⟨PA, 3, none⟩ (.iface 46 (ptr LF))).setCell ⟨PA, 4, none⟩ (ptr w1.heap.size)).alloc (.cells #[.slice none 0 0, .slice none 0 0] 38))) := by
    have hN2 := (hN1.setOther (a := ⟨PA, 1, none⟩) (fun e => hPN e.symm) (.slice pa' (n + 1) pc')).setOther (a := ⟨PA, 2, none⟩) (fun e => hPN e.symm) (.slice ca cl cc)
    have hP2 := ((hP1.set 1 (.slice pa' (n + 1) pc')).set 2 (.slice ca cl cc))
    have o2 := owns_set (owns_set ho hP1 (by decide) 1 (.slice pa' (n + 1) pc')) (hP1.set 1 (.slice pa' (n + 1) pc')) (by decide) 2 (.slice ca cl cc)
    have f2 := owns_set (owns_set hfl1 hP1 (by decide) 1 (.slice pa' (n + 1) pc')) (hP1.set 1 (.slice pa' (n + 1) pc')) (by decide) 2 (.slice ca cl cc)
    have hPn := hP2.setOther (a := ⟨NW, 0, none⟩) hPN (.int .i64 1)
    have hPm := hPn.set 3 (.iface 46 (ptr LF))
    have hL2 := ((((hL1.setOther (a := ⟨PA, 1, none⟩) (fun e => hPL e.symm) (.slice pa' (n + 1) pc')).setOther (a := ⟨PA, 2, none⟩) (fun e => hPL e.symm) (.slice ca cl cc)).setOther (a := ⟨NW, 0, none⟩) hNL (.int .i64 1)).setOther (a := ⟨PA, 3, none⟩) (fun e => hPL e.symm) (.iface 46 (ptr LF))).setOther (a := ⟨PA, 4, none⟩) (fun e => hPL e.symm) (ptr w1.heap.size)
    have hN3 := ((hN2.set 0 (.int .i64 1)).setOther (a := ⟨PA, 3, none⟩) (fun e => hPN e.symm) (.iface 46 (ptr LF))).setOther (a := ⟨PA, 4, none⟩) (fun e => hPN e.symm) (ptr w1.heap.size)
    refine ⟨(hP3.alloc _).congr fun j hj => ?_, (owns_set (owns_set (owns_set o2 hN2 (by decide) 0 _) hPn (by decide) 3 _) hPm (by decide) 4 _).alloc _, (owns_set (owns_set (owns_set f2 hN2 (by decide) 0 _) hPn (by decide) 3 _) hPm (by decide) 4 _).alloc _, hL2.alloc _, ?_, (hN3.alloc _).congr fun j hj => by simp [show j = 0 by omega], ?_, ?_, hbase⟩
    · by_cases h1 : j = 1 <;> by_cases h2 : j = 2 <;> by_cases h3 : j = 3 <;> by_cases h4 : j = 4 <;> simp [h1, h2, h3, h4] <;> omega
    · have := World.rowIs_alloc ((((((w1.setCell ⟨PA, 1, none⟩ (.slice pa' (n + 1) pc')).setCell ⟨PA, 2, none⟩ (.slice ca cl cc)).setCell ⟨NW, 0, none⟩ (.int .i64 1)).setCell ⟨PA, 3, none⟩ (.iface 46 (ptr LF))).setCell ⟨PA, 4, none⟩ (ptr w1.heap.size))) #[.slice none 0 0, .slice none 0 0] 38 (fun _ => .slice none 0 0) (fun j hj => by
        have : j = 0 ∨ j = 1 := by simp at hj; omega
        rcases this with rfl | rfl <;> rfl)
      simpa using this
    · exact ((((((hf.mono (S' := fun k => k = PA ∨ k = NW ∨ (Value.slice pa n pc).ownBlock = some k) fun k _ h => Or.inr (Or.inr h)).setCell ⟨PA, 1, none⟩ _ (Or.inl (Or.inl rfl))).setCell ⟨PA, 2, none⟩ _ (Or.inl (Or.inl rfl))).setCell ⟨NW, 0, none⟩ _ (Or.inl (Or.inr (Or.inl rfl)))).setCell ⟨PA, 3, none⟩ _ (Or.inl (Or.inl rfl))).setCell ⟨PA, 4, none⟩ _ (Or.inl (Or.inl rfl))).alloc _
    · exact hf.size
  have HNew : Hid (Calls Yba.prog 4 #[ptr NW, ptr LV] ((w1.setCell ⟨PA, 1, none⟩ (.slice pa' (n + 1) pc')).setCell ⟨PA, 2, none⟩ (.slice ca cl cc)) fun e w' => e = .returned (.iface 46 (ptr LF)) ∧ w' = ((w1.setCell ⟨PA, 1, none⟩ (.slice pa' (n + 1) pc')).setCell ⟨PA, 2, none⟩ (.slice ca cl cc)).setCell ⟨NW, 0, none⟩ (.int .i64 1)) := by
    have hN2 := (hN1.setOther (a := ⟨PA, 1, none⟩) (fun e => hPN e.symm) (.slice pa' (n + 1) pc')).setOther (a := ⟨PA, 2, none⟩) (fun e => hPN e.symm) (.slice ca cl cc)
    have hV2 := (hV1.setOther (a := ⟨PA, 1, none⟩) (fun e => hPV e.symm) (.slice pa' (n + 1) pc')).setOther (a := ⟨PA, 2, none⟩) (fun e => hPV e.symm) (.slice ca cl cc)
    exact new_any NW LV LF _ (hN2.cell (i := 0) (by omega)) (hN2.frozen 0) (hV2.cell (i := 0) (by omega)) hNV
  have HFl : Hid (∀ W, Sm W ((((((w1.setCell ⟨PA, 1, none⟩ (.slice pa' (n + 1) pc')).setCell ⟨PA, 2, none⟩ (.slice ca cl cc)).setCell ⟨NW, 0, none⟩ (.int .i64 1)).setCell ⟨PA, 3, none⟩ (.iface 46 (ptr LF))).setCell ⟨PA, 4, none⟩ (ptr w1.heap.size)).alloc (.cells #[.slice none 0 0, .slice none 0 0] 38)) →
      Calls Yba.prog 26 #[ptr LF, ptr w1.heap.size] W fun e w' => e = .returned (.tuple #[]) ∧ ∃ fs fv, FS LF w1.heap.size (.slice na nl nc) nm W nl fs fv w') := fun W hW =>
    flags_any LF w1.heap.size na nl nc nm nd W hnl (hW.row HX.out.lf) (hW.row HX.out.se) hix (fun j hj => by
      obtain ⟨h1, h2⟩ := hc.out j hj
      have hb := World.block_lt_of_cell? _ _ h1
      refine ⟨?_, by omega, by have := hf.size; omega⟩
      have hblk := HX.out.fr.block (nd j).block hb (fun h => by
        rcases h with h | h | h
        · omega
        · omega
        · have := (hown.lt _ h).1
          omega)
      rw [← h1]
      simp only [World.cell?, hW.heap, hblk])
  have hnn := neq_fun
  have hna := nil_ahead
  have hme := method_flags
  clear hr' ho hf hP hC hP1 hC1 hown hPC hfl hfl1 hNW hLV hLF hN1 hV1 hL1 hP3
  go_enter Yba.func5, Yba.ntmps5
  go_wp2_with (at_builtin; refine list_app rfl _ _ _ rfl _ _ _ _ rfl rfl hr.out ?_)
  refine HNew.out.mono ?_
  rintro e w2 ⟨rfl, rfl⟩
  go_wp2_with fail
  go_region_with (go_at_call 26; refine (HFl.out _ ?_).mono ?_; exact Sm.drew _; rintro e w5 ⟨rfl, fs, fv, H5⟩)
  all_goals
    obtain ⟨e6, e4, s0, hap⟩ := HX.out.app hf6 hnp hnl (Sm.drew _) H5
    obtain ⟨ga, gc, rfl⟩ := owns_slice H5.o
    have HP : Hid _ := hap
    clear hap H5
    go_wp2_with fail
    go_region_law (refine step_app' rfl (.tmp 54) (.tmp 61) 29 rfl _ _ rfl rfl HP.out ⟨rfl, rfl, rfl, rfl⟩ ?_; rintro v6 w6 ⟨⟨a6, b6, rfl⟩, hs1, hs2, HN⟩)
    all_goals
      go_wp2_with fail
      go_end0
      exact ⟨rfl, _, _, _, _, _, HN⟩
end Go.Proofs.Ybulkqnc
