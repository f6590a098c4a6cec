/-
  DERIVED. THE WALK of tpdu.LawS0838BRawStrings, out of the contracts of typesIn and of the law's own table.
-/
import Derived.Test.YbulkqigFmtTypes
namespace Go.Proofs.YbulkqigFmt
open Go.RowKit Go.Extern.Stop Go.Stop Go.Extern

abbrev T4 (x0 x1 x2 x3 : ByteArray) : Value := .agg #[.string x0, .string x1, .string x2, .string x3]

theorem hid {p : Prop} (h : p) : Hid p := h

theorem box4 {W w2 : World} {x0 x1 x2 x3 : ByteArray} (hb2 : Below (W.alloc (.cells #[.string x0, .string x1, .string x2, .string x3] 38)).heap.size (W.alloc (.cells #[.string x0, .string x1, .string x2, .string x3] 38)) w2) :
    W.heap.size < w2.heap.size ∧ w2.cell? ⟨W.heap.size, 0, none⟩ = some (.string x0) ∧ w2.cell? ⟨W.heap.size, 1, none⟩ = some (.string x1) ∧ w2.cell? ⟨W.heap.size, 2, none⟩ = some (.string x2) ∧ w2.cell? ⟨W.heap.size, 3, none⟩ = some (.string x3) :=
  ⟨by have := hb2.size; simp at this; omega, by rw [hb2.cell (p := ⟨W.heap.size, 0, none⟩) (by simp)]; simp, by rw [hb2.cell (p := ⟨W.heap.size, 1, none⟩) (by simp)]; simp, by rw [hb2.cell (p := ⟨W.heap.size, 2, none⟩) (by simp)]; simp, by rw [hb2.cell (p := ⟨W.heap.size, 3, none⟩) (by simp)]; simp⟩

theorem boxBelow {w w1 w2 : World} {o o' : Obj} (hb1 : Below w.heap.size w w1) (hb2 : Below (w1.alloc o).heap.size (w1.alloc o) w2) : Below w.heap.size w (w2.alloc o') := by
  have hz1 := hb1.size
  have hz2 := hb2.size
  exact ((hb1.alloc hz1 _).trans (hb2.mono (by simp; omega))).alloc (by simp at hz2; omega) _

set_option maxHeartbeats 1000000 in
/-- An unknown direction: typesIn gives an error, and the law's own table says so. -/
theorem raw_dir (ds fs x0 x1 x2 x3 : ByteArray) (w : World)
    (ht : Hid (Calls Ybaf.prog 12 #[.string ds, .string fs] w fun e w' => ∃ a, e = .returned (.tuple #[T4 x0 x1 x2 x3, .iface 50 (.pointer (some a))]) ∧ Below w.heap.size w w'))
    (hv : Hid (∀ W : World, Calls Ybaf.prog 13 #[.string ds] W fun e w' => e = .returned (.tuple #[T4 x0 x1 x2 x3, .bool false]) ∧ Below W.heap.size W w'))
    (hne : ∀ W : World, (binOp .neq 38 (T4 x0 x1 x2 x3) (T4 x0 x1 x2 x3)).run Ybaf.prog W = .ok (.bool false) W) :
    Calls Ybaf.prog 6 #[.string ds, .string fs] w fun e w' => e = .returned (.bool true) ∧ Below w.heap.size w w' := by
  go_enter Ybaf.func6, Ybaf.ntmps6
  go_wp2_with fail
  refine ht.out.mono ?_
  rintro e w1 ⟨a, rfl, hb1⟩
  go_wp2_with fail
  refine (hv.out _).mono ?_
  rintro e w2 ⟨rfl, hb2⟩
  obtain ⟨hz2, k0, k1, k2, k3⟩ := box4 hb2
  go_wp2_with fail
  all_goals
    go_ret
    exact ⟨rfl, boxBelow hb1 hb2⟩

set_option maxHeartbeats 1000000 in
/-- A known direction, an unknown form. -/
theorem raw_form (ds fs x0 x1 x2 x3 : ByteArray) (w : World)
    (ht : Hid (Calls Ybaf.prog 12 #[.string ds, .string fs] w fun e w' => ∃ a, e = .returned (.tuple #[T4 x0 x1 x2 x3, .iface 50 (.pointer (some a))]) ∧ Below w.heap.size w w'))
    (hv : Hid (∀ W : World, Calls Ybaf.prog 13 #[.string ds] W fun e w' => e = .returned (.tuple #[T4 x0 x1 x2 x3, .bool true]) ∧ Below W.heap.size W w'))
    (hne : ∀ W : World, (binOp .neq 38 (T4 x0 x1 x2 x3) (T4 x0 x1 x2 x3)).run Ybaf.prog W = .ok (.bool false) W)
    (g1 : fs.toList.isEmpty = false) (g2 : (fs.toList == [97, 99, 107]) = false) (g3 : (fs.toList == [101, 114, 114, 111, 114]) = false) :
    Calls Ybaf.prog 6 #[.string ds, .string fs] w fun e w' => e = .returned (.bool true) ∧ Below w.heap.size w w' := by
  go_enter Ybaf.func6, Ybaf.ntmps6
  go_wp2_with fail
  refine ht.out.mono ?_
  rintro e w1 ⟨a, rfl, hb1⟩
  go_wp2_with fail
  refine (hv.out _).mono ?_
  rintro e w2 ⟨rfl, hb2⟩
  obtain ⟨hz2, k0, k1, k2, k3⟩ := box4 hb2
  go_wp2_with fail
  all_goals
    go_ret
    exact ⟨rfl, boxBelow hb1 hb2⟩

set_option maxHeartbeats 1000000 in
/-- A known direction, a known form. -/
theorem raw_ok (ds fs x0 x1 x2 x3 : ByteArray) (w : World)
    (ht : Hid (Calls Ybaf.prog 12 #[.string ds, .string fs] w fun e w' => e = .returned (.tuple #[T4 x0 x1 x2 x3, .nilIface]) ∧ Below w.heap.size w w'))
    (hv : Hid (∀ W : World, Calls Ybaf.prog 13 #[.string ds] W fun e w' => e = .returned (.tuple #[T4 x0 x1 x2 x3, .bool true]) ∧ Below W.heap.size W w'))
    (hne : ∀ W : World, (binOp .neq 38 (T4 x0 x1 x2 x3) (T4 x0 x1 x2 x3)).run Ybaf.prog W = .ok (.bool false) W)
    (g : fs = sNone ∨ fs = ⟨#[97, 99, 107]⟩ ∨ fs = ⟨#[101, 114, 114, 111, 114]⟩) :
    Calls Ybaf.prog 6 #[.string ds, .string fs] w fun e w' => e = .returned (.bool true) ∧ Below w.heap.size w w' := by
  rcases g with rfl | rfl | rfl
  all_goals
    go_enter Ybaf.func6, Ybaf.ntmps6
    go_wp2_with fail
    refine ht.out.mono ?_
    rintro e w1 ⟨rfl, hb1⟩
    go_wp2_with fail
    refine (hv.out _).mono ?_
    rintro e w2 ⟨rfl, hb2⟩
    obtain ⟨hz2, k0, k1, k2, k3⟩ := box4 hb2
    go_wp2_with fail
    go_ret
    exact ⟨rfl, boxBelow hb1 hb2⟩

theorem list_eq {f : ByteArray} {l : List UInt8} (h : f.toList = l) : f = ⟨l.toArray⟩ := by
  rw [ByteArray.toList_eq] at h
  obtain ⟨⟨d⟩⟩ := f
  simp at h
  rw [h]

/-- What the look-up of a direction in the laid table gives. -/
def looked (d : ByteArray) : Value :=
  if d.toList = [97, 117, 116, 111] then .tuple #[T4 sDeliver sSubmit sStatus sDeliver, .bool true]
  else if d.toList = [109, 111] then .tuple #[T4 sDeliverR sSubmit sCommand sNone, .bool true]
  else if d.toList = [109, 116] then .tuple #[T4 sDeliver sSubmitR sStatus sDeliver, .bool true]
  else .tuple #[T4 sNone sNone sNone sNone, .bool false]

theorem raw_any (F : Interp) (ds fs : ByteArray) (bm : Nat) (w : World) (hF : F.answers w.tape) (h0 : 0 < w.heap.size) (hc : w.cell? ⟨0, 0, none⟩ = some (.map (some bm)))
    (hrun : (Instr.lookup 46 (.map (some bm)) (.string ds) true).run Ybaf.prog (w.alloc Z38) = .ok (looked ds) (w.alloc Z38)) :
    Calls Ybaf.prog 6 #[.string ds, .string fs] w fun e w' => e = .returned (.bool true) ∧ Below w.heap.size w w' := by
  have key : ∀ x0 x1 x2 x3, looked ds = .tuple #[T4 x0 x1 x2 x3, .bool true] → (∀ W : World, Calls Ybaf.prog 13 #[.string ds] W fun e w' => e = .returned (.tuple #[T4 x0 x1 x2 x3, .bool true]) ∧ Below W.heap.size W w') →
      (∀ W : World, (binOp .neq 38 (T4 x0 x1 x2 x3) (T4 x0 x1 x2 x3)).run Ybaf.prog W = .ok (.bool false) W) →
      Calls Ybaf.prog 6 #[.string ds, .string fs] w fun e w' => e = .returned (.bool true) ∧ Below w.heap.size w w' := by
    intro x0 x1 x2 x3 hl hw hne
    rw [hl] at hrun
    by_cases f1 : fs.toList = []
    · exact raw_ok ds fs x0 x1 x2 x3 w (hid (types_ok ds fs x0 x1 x2 x3 bm w h0 hc hrun (Or.inl (list_eq f1)))) (hid hw) hne (Or.inl (list_eq f1))
    by_cases f2 : fs.toList = [97, 99, 107]
    · exact raw_ok ds fs x0 x1 x2 x3 w (hid (types_ok ds fs x0 x1 x2 x3 bm w h0 hc hrun (Or.inr (Or.inl (list_eq f2))))) (hid hw) hne (Or.inr (Or.inl (list_eq f2)))
    by_cases f3 : fs.toList = [101, 114, 114, 111, 114]
    · exact raw_ok ds fs x0 x1 x2 x3 w (hid (types_ok ds fs x0 x1 x2 x3 bm w h0 hc hrun (Or.inr (Or.inr (list_eq f3))))) (hid hw) hne (Or.inr (Or.inr (list_eq f3)))
    have g1 : fs.toList.isEmpty = false := by cases h : fs.toList with | nil => exact absurd h f1 | cons _ _ => rfl
    have g2 : (fs.toList == [97, 99, 107]) = false := by simp [f2]
    have g3 : (fs.toList == [101, 114, 114, 111, 114]) = false := by simp [f3]
    exact raw_form ds fs x0 x1 x2 x3 w (hid (types_form F ds fs x0 x1 x2 x3 bm w hF h0 hc hrun g1 g2 g3)) (hid hw) hne g1 g2 g3
  by_cases d1 : ds.toList = [97, 117, 116, 111]
  · obtain rfl := list_eq d1
    exact key _ _ _ _ (by simp [looked, d1]) want_auto (fun _ => by kernel_rfl)
  by_cases d2 : ds.toList = [109, 111]
  · obtain rfl := list_eq d2
    exact key _ _ _ _ (by simp [looked, d2]) want_mo (fun _ => by kernel_rfl)
  by_cases d3 : ds.toList = [109, 116]
  · obtain rfl := list_eq d3
    exact key _ _ _ _ (by simp [looked, d3]) want_mt (fun _ => by kernel_rfl)
  have hl : looked ds = .tuple #[T4 sNone sNone sNone sNone, .bool false] := by simp [looked, d1, d2, d3]
  rw [hl] at hrun
  exact raw_dir ds fs _ _ _ _ w (hid (types_dir F ds fs bm w hF h0 hc hrun)) (hid (fun W => want_none ds W (by simp [d1]) (by simp [d2]) (by simp [d3]))) (fun _ => by kernel_rfl)
end Go.Proofs.YbulkqigFmt
