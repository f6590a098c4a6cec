/-
  DERIVED. WHAT THE ROW's CONDITION ('laid') GIVES THE WALKS: the map's cell, and what every look-up answers; the witness starts in the heap that the door's own run leaves.
-/
import Derived.Test.YbulkqigFmtRows
import Derived.Test.YbulkqigFmtRaw
import Derived.ProofKit
import Derived.LaidMore
import Derived.OpenShut
import Derived.Stop.Joined
namespace Go.Proofs.YbulkqigFmt
open Go.ChangeShapes Go.WideShapes Go.ChangeAt Go.WideMaps Go.WideElems Go.RowKit

abbrev vName : String := Rows.lawS0838BTableSpec.vars.headD ""
theorem own : ownKnob Ybaf.prog.godebug = none := by kernel_rfl
theorem gTypes : Ybaf.prog.globalNamed vName = some 0 := by kernel_rfl
theorem tTypes : (Ybaf.prog.globals[0]?).map (·.type) = some 46 := by kernel_rfl
theorem keyLaw : KeyLaw Ybaf.prog 33 := string_law Ybaf.underlying33

theorem door_met (os : Os) (args : Array Value) : laidMetH Ybaf.prog Rows.lawS0838BTableRow.laid ((World.doorLaid Ybaf.prog 400 os).forCall (fun _ _ => 0) ⟨#[], args, []⟩).memory :=
  laidMetH_of_parts3 (fuel := 8) (laidMet_of_run' 8 (by kernel_rfl) (by kernel_rfl)) (by kernel_rfl) (by kernel_rfl)

/-- An element of the table, read. -/
theorem elemAt_four {H : Type} {enc : TypeId × Value → H} {W : World} {base : Nat} {sp : Nat → Bool} {held : Bool} {n : Nat} {v : Value} {z : DataW H × List MemPlace} (h : elemAt enc Ybaf.prog W base sp held n 38 v = some z) :
    ∃ x0 x1 x2 x3 : ByteArray, v = T4 x0 x1 x2 x3 ∧ z.1 = .agg [.lit (.string x0.data.toList), .lit (.string x1.data.toList), .lit (.string x2.data.toList), .lit (.string x3.data.toList)] := by
  have c37 : Ybaf.prog.cellsOf 37 = 1 := by kernel_rfl
  have c38 : Ybaf.prog.cellsOf 38 = 4 := by kernel_rfl
  unfold elemAt at h
  split at h
  · rename_i hf
    obtain ⟨xs, m1, rfl, hx1, hlen, hn, hel⟩ := DataW.trod_array Ybaf.underlying38 h
    have h0 := hel 0 (by decide)
    have h1 := hel 1 (by decide)
    have h2 := hel 2 (by decide)
    have h3 := hel 3 (by decide)
    cases v <;> simp [Value.formed, Ybaf.underlying38, c38] at hf
    rename_i cs
    obtain ⟨l⟩ := cs
    rw [c37] at h0 h1 h2 h3
    simp only [List.size_toArray] at hf
    match l, hf, xs, hn, hx1, h0, h1, h2, h3 with
    | [a, b, c, d], _, [y0, y1, y2, y3], _, hx1, h0, h1, h2, h3 =>
      simp [Value.cells] at h0 h1 h2 h3
      obtain ⟨x0, e0, e0', _⟩ := DataW.trod_string Ybaf.underlying37 h0
      obtain ⟨x1, e1, e1', _⟩ := DataW.trod_string Ybaf.underlying37 h1
      obtain ⟨x2, e2, e2', _⟩ := DataW.trod_string Ybaf.underlying37 h2
      obtain ⟨x3, e3, e3', _⟩ := DataW.trod_string Ybaf.underlying37 h3
      simp at e0 e1 e2 e3
      subst e0 e1 e2 e3 e0' e1' e2' e3'
      exact ⟨x0, x1, x2, x3, rfl, by rw [hx1]; rfl⟩
  · cases h

theorem bytes_eq {s : ByteArray} {l : List UInt8} (h : s.data.toList = l) : s = ⟨l.toArray⟩ := by
  obtain ⟨⟨d⟩⟩ := s
  simp at h
  rw [h]

/-- WHAT THE CONDITION GIVES THE WALKS. -/
theorem of_laid {W : World} (h : laidMetH Ybaf.prog Rows.lawS0838BTableRow.laid W) : ∃ bm, bm < W.heap.size ∧ 0 < W.heap.size ∧ W.cell? ⟨0, 0, none⟩ = some (.map (some bm)) ∧
    ∀ (W' : World) (d : ByteArray), d.size ≤ maxLen → W'.heap[bm]? = W.heap[bm]? → (Instr.lookup 46 (.map (some bm)) (.string d) true).run Ybaf.prog W' = .ok (looked d) W' := by
  rw [MakeChecks.laidMetH_plain _ _ _ (by kernel_rfl)] at h
  obtain ⟨ps, ⟨g0, t0, cs0, f0, p0, q0, hg0, ht0, hv0, hd0, _⟩, _, _⟩ := h
  obtain rfl := Option.some.inj (gTypes.symm.trans hg0)
  obtain rfl := Option.some.inj (tTypes.symm.trans ht0)
  rcases open_map Ybaf.underlying46 hd0 with ⟨_, hx⟩ | ⟨bm, es, clock, m, rfl, hcs, hb, _, F, hx⟩
  · simp [Rows.laid_example_com_kurzpost_kurzpost_tpdu_typesByMTI] at hx
  simp only [Prod.mk.injEq] at hx
  have hcell : W.cell? ⟨0, 0, none⟩ = some (.map (some bm)) := by
    have := World.var?_cell hg0 hv0 0
    rw [Array.eq_one_of_toList hcs] at this
    simpa using this
  have hbm : bm < W.heap.size := (Array.getElem?_eq_some_iff.1 hb).1
  refine ⟨bm, hbm, by omega, hcell, ?_⟩
  intro W' d hd hsame
  have zero : (zeroValue 38).run Ybaf.prog W' = .ok (T4 sNone sNone sNone sNone) W' := by kernel_rfl
  have hb' : W'.heap[bm]? = some (.map es clock) := by rw [hsame]; exact hb
  have hl : d.toList = d.data.toList := ByteArray.toList_eq d
  rcases fit_lookup_ok (w := W') keyLaw Ybaf.underlying46 zero hb' F (keyOf_string_mk (s := d) Ybaf.underlying33 hd) with ⟨hrun, hat⟩ | ⟨v, y, hrun, hRv, hat, _⟩
  · have hn := hat .nil
    rw [← hx.1] at hn
    have e : looked d = .tuple #[T4 sNone sNone sNone sNone, .bool false] := by
      unfold looked
      rw [hl]
      by_cases d1 : d.data.toList = [97, 117, 116, 111]
      · rw [d1] at hn; exact absurd hn (by intro e; cases e)
      by_cases d2 : d.data.toList = [109, 111]
      · rw [d2] at hn; exact absurd hn (by intro e; cases e)
      by_cases d3 : d.data.toList = [109, 116]
      · rw [d3] at hn; exact absurd hn (by intro e; cases e)
      rw [if_neg d1, if_neg d2, if_neg d3]
    rw [e]
    exact hrun
  · obtain ⟨x0, x1, x2, x3, rfl, hy⟩ := elemAt_four hRv
    have hn := hat .nil
    rw [← hx.1, hy] at hn
    have e : looked d = .tuple #[T4 x0 x1 x2 x3, .bool true] := by
      unfold looked
      rw [hl]
      by_cases d1 : d.data.toList = [97, 117, 116, 111]
      · rw [if_pos d1]
        rw [d1] at hn
        have hz : (DataW.agg [.lit (.string sDeliver.data.toList), .lit (.string sSubmit.data.toList), .lit (.string sStatus.data.toList), .lit (.string sDeliver.data.toList)] : DataW Unit) = _ := hn
        simp only [DataW.agg.injEq, List.cons.injEq, DataW.lit.injEq, Lit.string.injEq, and_true] at hz
        obtain ⟨z0, z1, z2, z3⟩ := hz
        rw [bytes_eq z0.symm, bytes_eq z1.symm, bytes_eq z2.symm, bytes_eq z3.symm]
      rw [if_neg d1]
      by_cases d2 : d.data.toList = [109, 111]
      · rw [if_pos d2]
        rw [d2] at hn
        have hz : (DataW.agg [.lit (.string sDeliverR.data.toList), .lit (.string sSubmit.data.toList), .lit (.string sCommand.data.toList), .lit (.string sNone.data.toList)] : DataW Unit) = _ := hn
        simp only [DataW.agg.injEq, List.cons.injEq, DataW.lit.injEq, Lit.string.injEq, and_true] at hz
        obtain ⟨z0, z1, z2, z3⟩ := hz
        rw [bytes_eq z0.symm, bytes_eq z1.symm, bytes_eq z2.symm, bytes_eq z3.symm]
      rw [if_neg d2]
      by_cases d3 : d.data.toList = [109, 116]
      · rw [if_pos d3]
        rw [d3] at hn
        have hz : (DataW.agg [.lit (.string sDeliver.data.toList), .lit (.string sSubmitR.data.toList), .lit (.string sStatus.data.toList), .lit (.string sDeliver.data.toList)] : DataW Unit) = _ := hn
        simp only [DataW.agg.injEq, List.cons.injEq, DataW.lit.injEq, Lit.string.injEq, and_true] at hz
        obtain ⟨z0, z1, z2, z3⟩ := hz
        rw [bytes_eq z0.symm, bytes_eq z1.symm, bytes_eq z2.symm, bytes_eq z3.symm]
      have c1 : ([97, 117, 116, 111] == d.data.toList) = false := by simp [Ne.symm d1]
      have c2 : ([109, 111] == d.data.toList) = false := by simp [Ne.symm d2]
      have c3 : ([109, 116] == d.data.toList) = false := by simp [Ne.symm d3]
      have hz : (Rows.laid_example_com_kurzpost_kurzpost_tpdu_typesByMTI : DataW Unit).atKey (.string d.data.toList) .nil = .nil := by
        simp [Rows.laid_example_com_kurzpost_kurzpost_tpdu_typesByMTI, DataW.atKey, Lit.sameKey, c1, c2, c3]
      rw [hz] at hn
      cases hn
    rw [e]
    exact hrun
end Go.Proofs.YbulkqigFmt
