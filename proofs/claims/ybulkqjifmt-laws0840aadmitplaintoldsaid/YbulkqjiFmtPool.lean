/-
  DERIVED. A pool that caches: what Admit with an empty Hit does to it.
-/
import Derived.Test.YbulkqjiFmtGrowW
import Derived.Test.YbulkqjiFmtAdmit
namespace Go.Proofs.YbulkqjiFmt
open Go.RowKit
set_option linter.unusedVariables false

/-- The pool's state. -/
structure PS (w : World) (C G E base : Nat) (bs tot used peak : Int) (n : Nat) : Prop where
  row : ∃ (f : Nat → Value) (v : Value) (xs : List Value) (fr : Int), w.rowIs C 65 25 f ∧ f 0 = .int .i64 bs ∧ f 1 = .int .i64 tot ∧ f 2 = .int .i64 used ∧ f 3 = .pointer (some ⟨G, 0, none⟩) ∧ f 4 = .bool true ∧ f 5 = v ∧ f 6 = .slice none 0 0 ∧
    f 17 = .int .i64 0 ∧ f 22 = .int .i64 0 ∧ f 23 = .int .i64 fr ∧ f 24 = .pointer none ∧ FL w C E f tot (tot - used) ∧ w.ownsRow base 73 6 v n xs
  rowG : ∃ g : Nat → Value, w.rowIs G 25 2 g ∧ g 0 = .int .i64 used ∧ g 1 = .int .i64 peak
  gap : w.cell? ⟨0, 0, none⟩ = some (.int .i32 (-1))

/-- Where the pool's blocks lie. -/
structure Lay0 (w : World) (C G E base B : Nat) (tot : Int) : Prop where
  b0 : 0 < B
  bc : B ≤ C
  bg : B ≤ G
  cb : C < base
  gb : G < base
  cg : C ≠ G
  e : 0 < tot → B ≤ E ∧ E < base ∧ E ≠ C ∧ E ≠ G
  bw : base ≤ w.heap.size

/-- A new table's cells. -/
def T0 : Nat → Value := fun j => if j = 3 ∨ j = 5 ∨ j = 7 then .slice none 0 0 else .int .i64 0

theorem PS.sm {w w' : World} {C G E base : Nat} {bs tot used peak : Int} {n : Nat} (H : PS w C G E base bs tot used peak n) (h : Sm w' w) : PS w' C G E base bs tot used peak n := by
  obtain ⟨⟨f, v, xs, fr, hC, f0, f1, f2, f3, f4, f5, f6, f17, f22, f23, f24, hfl, hv⟩, ⟨g, hG, g0, g1⟩, hgap⟩ := H
  exact ⟨⟨f, v, xs, fr, h.row hC, f0, f1, f2, f3, f4, f5, f6, f17, f22, f23, f24, hfl.sm h, owns_block hv fun _ _ => by rw [h.heap]⟩, ⟨g, h.row hG, g0, g1⟩, by rw [h.cell]; exact hgap⟩

/-- What an admission leaves in the table and outside. -/
def Adm (w : World) (T B m : Nat) (w' : World) : Prop :=
  (∃ ao cap, w'.cell? ⟨T, 4, none⟩ = some (.int .i64 m) ∧ w'.cell? ⟨T, 5, none⟩ = some (.slice ao m cap) ∧ w'.cell? ⟨T, 6, none⟩ = some (.int .i64 0)) ∧ Below B w w'

theorem own_ne_row {w : World} {base n k : Nat} {v : Value} {xs : List Value} (h : w.ownsRow base 73 6 v n xs) {t : TypeId} {f : Nat → Value} {c : Nat} (hr : w.rowIs c t k f) (ht : t ≠ 73) : v.ownBlock ≠ some c := fun hx => by
  rcases h.2 with ⟨rfl, _⟩ | ⟨gg, cp, cur, rfl, hb, hg, _⟩
  · simp [Value.ownBlock] at hx
  · simp only [Value.ownBlock, Option.some.injEq] at hx
    subst hx
    obtain ⟨c', hc', _, _⟩ := hr
    rw [hc'] at hg
    cases hg
    exact ht rfl

set_option maxHeartbeats 1000000 in
/-- Reserve at a table that holds nothing: grow does it all. -/
theorem reserve_gen (C T : Nat) (bs tokens : Int) (w : World) (Post : World → Prop) (h0 : w.cell? ⟨C, 0, none⟩ = some (.int .i64 bs)) (t4 : w.cell? ⟨T, 4, none⟩ = some (.int .i64 0)) (k0 : 0 < tokens)
    (HG : Hid (∀ q : Nat, Calls Ybaf.prog 28 #[.pointer (some ⟨C, 0, none⟩), .pointer (some ⟨T, 0, none⟩), .int .i64 tokens] (w.drewN q) fun e w' => e = .returned (.tuple #[.bool true, .nilIface]) ∧ Post w')) :
    Calls Ybaf.prog 18 #[.pointer (some ⟨C, 0, none⟩), .pointer (some ⟨T, 0, none⟩), .int .i64 tokens] w fun e w' => e = .returned (.tuple #[.bool true, .nilIface]) ∧ Post w' := by
  have hz : (0 : Int) * bs = 0 := by simp
  go_enter Ybaf.func18, Ybaf.ntmps18
  go_wp2_with fail
  go_quiet (fail)
  go_wp2_with fail
  refine (HG.out _).mono ?_
  rintro e w' ⟨rfl, hs⟩
  go_wp2_with fail
  go_ret2
  exact ⟨rfl, hs⟩

theorem Lay0.sm {w w' : World} {C G E base B : Nat} {tot : Int} (L : Lay0 w C G E base B tot) (h : Sm w' w) : Lay0 w' C G E base B tot := ⟨L.b0, L.bc, L.bg, L.cb, L.gb, L.cg, L.e, by rw [h.heap]; exact L.bw⟩

/-- Reserve, for the new table, at the world in which Admit calls it. -/
theorem reserve_c (C G E T base B n m : Nat) (bs tot used peak tokens : Int) (W : World) (L : Lay0 W C G E base B tot) (H : PS W C G E base bs tot used peak n) (hT : W.rowIs T 40 9 T0) (tb : base ≤ T)
    (b0 : 1 ≤ bs) (b1 : bs ≤ 16) (k0 : 0 ≤ tokens) (k1 : tokens ≤ 199) (hm : (tokens + bs - 1) / bs = m) (m1 : (m : Int) ≤ 1000) (t0 : 0 ≤ tot) (t1 : tot ≤ 1000) (u0 : 0 ≤ used) (u1 : used ≤ 900000) (hn : n ≤ 900000) (hup : used ≤ peak)
    (hroom : tot = 0 ∨ (m : Int) ≤ tot - used) :
    Calls Ybaf.prog 18 #[.pointer (some ⟨C, 0, none⟩), .pointer (some ⟨T, 0, none⟩), .int .i64 tokens] W fun e w' => e = .returned (.tuple #[.bool true, .nilIface]) ∧ PS w' C G E base bs tot (used + m) (max peak (used + m)) (n + m) ∧ Adm W T B m w' := by
  obtain ⟨⟨f, v, xs, fr, hC, f0, f1, f2, f3, f4, f5, f6, f17, f22, f23, f24, hfl, hv⟩, ⟨g, hG, g0, g1⟩, hgap⟩ := H
  have c0 := hC.cell (i := 0) (by omega); rw [f0] at c0
  have d4 := hT.cell (i := 4) (by omega)
  have d4' : W.cell? ⟨T, 4, none⟩ = some (.int .i64 0) := by simpa [T0] using d4
  have hTC : T ≠ C := fun e => by have := L.cb; omega
  have hTG : T ≠ G := fun e => by have := L.gb; omega
  by_cases hk : tokens = 0
  · subst hk
    have hm0 : m = 0 := by
      have : (0 + bs - 1) / bs = 0 := Int.ediv_eq_zero_of_lt (by omega) (by omega)
      omega
    subst hm0
    refine (reserve_none C T bs W c0 d4').mono ?_
    rintro e w' ⟨he, hs⟩
    refine ⟨he, ?_, ⟨none, 0, ?_, ?_, ?_⟩, hs.below (Below.refl _ _)⟩
    · have hmax : max peak (used + ((0 : Nat) : Int)) = peak := by omega
      rw [hmax, show used + ((0 : Nat) : Int) = used by omega]
      exact PS.sm ⟨⟨f, v, xs, fr, hC, f0, f1, f2, f3, f4, f5, f6, f17, f22, f23, f24, hfl, hv⟩, ⟨g, hG, g0, g1⟩, hgap⟩ hs
    · rw [hs.cell]; exact d4'
    · rw [hs.cell]; simpa [T0] using hT.cell (i := 5) (by omega)
    · rw [hs.cell]; simpa [T0] using hT.cell (i := 6) (by omega)
  · refine reserve_gen C T bs tokens W _ c0 d4' (by omega) (fun q => ?_)
    have hS := Sm.drewN W q
    have L' : Lay (W.drewN q) C G E T base tot := ⟨by have := L.b0; have := L.bc; omega, by have := L.b0; have := L.bg; omega, L.cb, L.gb, L.cg, fun h => ⟨(L.e h).2.1, (L.e h).2.2.1, (L.e h).2.2.2, by have := (L.e h).1; have := L.b0; omega⟩, tb, hT.lt⟩
    have hGR : GR (W.drewN q) C G E T base tot (tot - used) n 0 f g T0 (W.drewN q) := by
      refine ⟨⟨f, v, xs, .slice none 0 0, [], hS.row hC, fun j _ _ _ => rfl, f5, owns_block hv fun _ _ => rfl, ?_, ?_, World.ownsRow_nil _ _ _ _⟩, hS.row hG, hgap, Fz.refl _ _ _⟩
      · have := hfl.sm hS
        simpa using this
      · exact (hS.row hT).congr fun j hj => by
          by_cases e5 : j = 5
          · subst e5; simp [T0]
          · simp [e5]
    refine (grow_c C G E T base n m bs tot used peak (max peak (used + m)) tokens (tot - used) f g T0 (W.drewN q) L' hGR f0 f1 f2 f3 f4 f6 g0 g1 (by simp [T0]) b0 b1 k0 k1 hm m1 t0 t1 u0 u1 hn (by omega) (Or.inr rfl) hroom rfl).mono ?_
    rintro e w' ⟨he, wr, HR, hs⟩
    obtain ⟨⟨f', v', xs', u, ys, hC2, hfe, h5', hv2, hfl2, hT2, hu2⟩, hG2, hgap2, hfr2⟩ := HR
    obtain ⟨ao, cap, rfl⟩ := owns_slice hu2
    have hsz := hfr2.size
    have hvT := own_ne_row hv2 hT2 (by decide)
    have hvC := own_ne_row hv2 hC2 (by decide)
    have hvG := own_ne_row hv2 hG2 (by decide)
    refine ⟨he, ?_, ⟨ao, cap, ?_, ?_, ?_⟩, ?_⟩
    · refine PS.sm ⟨⟨fun j => if j = 2 then .int .i64 (used + m) else f' j, v', xs', fr, ?_, ?_, ?_, rfl, ?_, ?_, ?_, ?_, ?_, ?_, ?_, ?_, ?_, ?_⟩, ⟨fun j => if j = 1 then .int .i64 (max peak (used + m)) else if j = 0 then .int .i64 (used + m) else g j, ?_, rfl, rfl⟩, ?_⟩ hs
      · exact (((hC2.setOther (a := ⟨T, 4, none⟩) (fun e => hTC e.symm) _).set 2 (.int .i64 (used + m))).setOther (a := ⟨G, 0, none⟩) L.cg _).setOther (a := ⟨G, 1, none⟩) L.cg _
      · simp [hfe, f0]
      · simp [hfe, f1]
      · simp [hfe, f3]
      · simp [hfe, f4]
      · simp [h5']
      · simp [hfe, f6]
      · simp [hfe, f17]
      · simp [hfe, f22]
      · simp [hfe, f23]
      · simp [hfe, f24]
      · rcases hfl2 with ⟨a1, a2, a3, a4⟩ | ⟨a1, a2, a3⟩
        · exact Or.inl ⟨a1, by simp [a2], by simp [a3], by simp [a4]⟩
        · refine Or.inr ⟨a1, by simp [a2], ?_⟩
          rcases a3 with ⟨b1, b2, b3, b4⟩ | ⟨b1, b2, b3⟩
          · refine Or.inl ⟨by omega, by simp [b2], by simp [b3], ?_⟩
            have hEl := L.e a1
            have := (((b4.setOther (a := ⟨T, 4, none⟩) (fun e => by have : E = T := e; omega) (.int .i64 m)).setOther (a := ⟨C, 2, none⟩) (fun e => hEl.2.2.1 e) (.int .i64 (used + m))).setOther (a := ⟨G, 0, none⟩) (fun e => hEl.2.2.2 e) (.int .i64 (used + m))).setOther (a := ⟨G, 1, none⟩) (fun e => hEl.2.2.2 e) (.int .i64 (max peak (used + m)))
            exact this.congr fun j hj => by rw [show (-1 - (tot - used - (m : Int))) = -1 - (tot - (used + (m : Int))) by omega]
          · exact Or.inr ⟨by omega, by simp [b2], by simp [b3]⟩
      · refine owns_block hv2 fun gg hgg => ?_
        have e1 : gg ≠ T := fun e => hvT (by rw [hgg, e])
        have e2 : gg ≠ C := fun e => hvC (by rw [hgg, e])
        have e3 : gg ≠ G := fun e => hvG (by rw [hgg, e])
        rw [Go.Deep.blk_setCell_other _ _ _ _ e3, Go.Deep.blk_setCell_other _ _ _ _ e3, Go.Deep.blk_setCell_other _ _ _ _ e2, Go.Deep.blk_setCell_other _ _ _ _ e1]
      · exact (((hG2.setOther (a := ⟨T, 4, none⟩) (fun e => hTG e.symm) _).setOther (a := ⟨C, 2, none⟩) (fun e => L.cg e.symm) _).set 0 (.int .i64 (used + m))).set 1 (.int .i64 (max peak (used + m)))
      · have z1 : (⟨G, 1, none⟩ : Addr) ≠ ⟨0, 0, none⟩ := by intro h; cases h
        have z2 : (⟨G, 0, none⟩ : Addr) ≠ ⟨0, 0, none⟩ := by intro h; simp at h; have := L.b0; have := L.bg; omega
        have z3 : (⟨C, 2, none⟩ : Addr) ≠ ⟨0, 0, none⟩ := by intro h; cases h
        have z4 : (⟨T, 4, none⟩ : Addr) ≠ ⟨0, 0, none⟩ := by intro h; cases h
        rw [World.cell?_setCell_other _ _ _ _ z1, World.cell?_setCell_other _ _ _ _ z2, World.cell?_setCell_other _ _ _ _ z3, World.cell?_setCell_other _ _ _ _ z4]
        exact hgap2
    · rw [hs.cell]
      have := ((((hT2.set 4 (.int .i64 m)).setOther (a := ⟨C, 2, none⟩) hTC (.int .i64 (used + m))).setOther (a := ⟨G, 0, none⟩) hTG (.int .i64 (used + m))).setOther (a := ⟨G, 1, none⟩) hTG (.int .i64 (max peak (used + m)))).cell (i := 4) (by omega)
      simpa using this
    · rw [hs.cell]
      have := ((((hT2.set 4 (.int .i64 m)).setOther (a := ⟨C, 2, none⟩) hTC (.int .i64 (used + m))).setOther (a := ⟨G, 0, none⟩) hTG (.int .i64 (used + m))).setOther (a := ⟨G, 1, none⟩) hTG (.int .i64 (max peak (used + m)))).cell (i := 5) (by omega)
      simpa using this
    · rw [hs.cell]
      have := ((((hT2.set 4 (.int .i64 m)).setOther (a := ⟨C, 2, none⟩) hTC (.int .i64 (used + m))).setOther (a := ⟨G, 0, none⟩) hTG (.int .i64 (used + m))).setOther (a := ⟨G, 1, none⟩) hTG (.int .i64 (max peak (used + m)))).cell (i := 6) (by omega)
      simpa [T0] using this
    · have hb2 : Below B W wr := by
        have hbb : Below B (W.drewN q) wr := hfr2.below (by have := L.bc; have := L.cb; have := L.bw; show B ≤ W.heap.size; omega) (by have := L.bc; have := L.cb; omega) (fun k hk hx => by
          rcases hx with hx | hx | hx
          · have := L.bc; omega
          · have := (L.e hx.1).1; omega
          · have := L.bc; have := L.cb; omega)
        exact ⟨hbb.os, hbb.tape, hbb.output, hbb.size, hbb.block⟩
      exact hs.below ((((hb2.setCell (by have := L.bc; have := L.cb; simp; omega) _).setCell (by exact L.bc) _).setCell (by exact L.bg) _).setCell (by exact L.bg) _)
end Go.Proofs.YbulkqjiFmt
