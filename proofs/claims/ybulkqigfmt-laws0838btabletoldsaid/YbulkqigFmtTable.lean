/-
  DERIVED. THE WALK of tpdu.LawS0838BTable, out of the contracts of typesIn, of the law's own table and of its two pickers.
-/
import Derived.Test.YbulkqigFmtRaw
namespace Go.Proofs.YbulkqigFmt
open Go.RowKit Go.Extern.Stop Go.Stop Go.Extern

/-- What the law's pickers pick. -/
def pickD (sel : Int) (raw : ByteArray) : ByteArray := if sel % 4 = 0 then sAuto else if sel % 4 = 1 then sMo else if sel % 4 = 2 then sMt else raw
def pickF (sel : Int) (raw : ByteArray) : ByteArray := if sel % 4 = 0 then sNone else if sel % 4 = 1 then ⟨#[97, 99, 107]⟩ else if sel % 4 = 2 then ⟨#[101, 114, 114, 111, 114]⟩ else raw

set_option maxHeartbeats 400000 in
theorem pickdir (sel : Int) (raw : ByteArray) (w : World) (h0 : 0 ≤ sel) (h1 : sel ≤ 255) :
    Calls Ybaf.prog 10 #[.int .u8 sel, .string raw] w fun e w' => e = .returned (.string (pickD sel raw)) ∧ w' = w := by
  by_cases c0 : (sel % 4 == 0) = true
  · have e : Hid (pickD sel raw = sAuto) := by unfold pickD; rw [if_pos (by simpa using c0)]; rfl
    go_enter Ybaf.func10, Ybaf.ntmps10
    go_wp2
    go_ret
    rw [e.out]
    exact ⟨rfl, rfl⟩
  have c0' : (sel % 4 == 0) = false := by simpa using c0
  by_cases c1 : (sel % 4 == 1) = true
  · have e : Hid (pickD sel raw = sMo) := by unfold pickD; rw [if_neg (by simpa using c0), if_pos (by simpa using c1)]; rfl
    clear c0
    go_enter Ybaf.func10, Ybaf.ntmps10
    go_wp2
    go_ret
    rw [e.out]
    exact ⟨rfl, rfl⟩
  have c1' : (sel % 4 == 1) = false := by simpa using c1
  by_cases c2 : (sel % 4 == 2) = true
  · have e : Hid (pickD sel raw = sMt) := by unfold pickD; rw [if_neg (by simpa using c0), if_neg (by simpa using c1), if_pos (by simpa using c2)]; rfl
    clear c0 c1
    go_enter Ybaf.func10, Ybaf.ntmps10
    go_wp2
    go_ret
    rw [e.out]
    exact ⟨rfl, rfl⟩
  have c2' : (sel % 4 == 2) = false := by simpa using c2
  have e : Hid (pickD sel raw = raw) := by unfold pickD; rw [if_neg (by simpa using c0), if_neg (by simpa using c1), if_neg (by simpa using c2)]; rfl
  clear c0 c1 c2
  go_enter Ybaf.func10, Ybaf.ntmps10
  go_wp2
  go_ret
  rw [e.out]
  exact ⟨rfl, rfl⟩

set_option maxHeartbeats 400000 in
theorem pickform (sel : Int) (raw : ByteArray) (w : World) (h0 : 0 ≤ sel) (h1 : sel ≤ 255) :
    Calls Ybaf.prog 11 #[.int .u8 sel, .string raw] w fun e w' => e = .returned (.string (pickF sel raw)) ∧ w' = w := by
  by_cases c0 : (sel % 4 == 0) = true
  · have e : Hid (pickF sel raw = sNone) := by unfold pickF; rw [if_pos (by simpa using c0)]; rfl
    go_enter Ybaf.func11, Ybaf.ntmps11
    go_wp2
    go_ret
    rw [e.out]
    exact ⟨rfl, rfl⟩
  have c0' : (sel % 4 == 0) = false := by simpa using c0
  by_cases c1 : (sel % 4 == 1) = true
  · have e : Hid (pickF sel raw = ⟨#[97, 99, 107]⟩) := by unfold pickF; rw [if_neg (by simpa using c0), if_pos (by simpa using c1)]; rfl
    clear c0
    go_enter Ybaf.func11, Ybaf.ntmps11
    go_wp2
    go_ret
    rw [e.out]
    exact ⟨rfl, rfl⟩
  have c1' : (sel % 4 == 1) = false := by simpa using c1
  by_cases c2 : (sel % 4 == 2) = true
  · have e : Hid (pickF sel raw = ⟨#[101, 114, 114, 111, 114]⟩) := by unfold pickF; rw [if_neg (by simpa using c0), if_neg (by simpa using c1), if_pos (by simpa using c2)]; rfl
    clear c0 c1
    go_enter Ybaf.func11, Ybaf.ntmps11
    go_wp2
    go_ret
    rw [e.out]
    exact ⟨rfl, rfl⟩
  have c2' : (sel % 4 == 2) = false := by simpa using c2
  have e : Hid (pickF sel raw = raw) := by unfold pickF; rw [if_neg (by simpa using c0), if_neg (by simpa using c1), if_neg (by simpa using c2)]; rfl
  clear c0 c1 c2
  go_enter Ybaf.func11, Ybaf.ntmps11
  go_wp2
  go_ret
  rw [e.out]
  exact ⟨rfl, rfl⟩

set_option maxHeartbeats 1000000 in
/-- An unknown direction. -/
theorem table_dir (a b : Int) (x y ds fs x0 x1 x2 x3 : ByteArray) (w : World)
    (hp : Hid (∀ W : World, Calls Ybaf.prog 10 #[.int .u8 a, .string x] W fun e w' => e = .returned (.string ds) ∧ W = w'))
    (hq : Hid (∀ W : World, Calls Ybaf.prog 11 #[.int .u8 b, .string y] W fun e w' => e = .returned (.string fs) ∧ W = w'))
    (ht : Hid (Calls Ybaf.prog 12 #[.string ds, .string fs] w fun e w' => ∃ a0, e = .returned (.tuple #[T4 x0 x1 x2 x3, .iface 50 (.pointer (some a0))]) ∧ Below w.heap.size w w'))
    (hv : Hid (∀ W : World, Calls Ybaf.prog 13 #[.string ds] W fun e w' => e = .returned (.tuple #[T4 x0 x1 x2 x3, .bool false]) ∧ Below W.heap.size W w'))
    (hne : ∀ W : World, (binOp .neq 38 (T4 x0 x1 x2 x3) (T4 x0 x1 x2 x3)).run Ybaf.prog W = .ok (.bool false) W) :
    Calls Ybaf.prog 5 #[.int .u8 a, .string x, .int .u8 b, .string y] w fun e w' => e = .returned (.bool true) ∧ Below w.heap.size w w' := by
  go_enter Ybaf.func5, Ybaf.ntmps5
  go_wp2_with fail
  refine (hp.out _).mono ?_
  rintro e w' ⟨rfl, rfl⟩
  go_wp2_with fail
  refine (hq.out _).mono ?_
  rintro e w' ⟨rfl, rfl⟩
  go_wp2_with fail
  refine ht.out.mono ?_
  rintro e w1 ⟨a0, rfl, hb1⟩
  go_wp2_with fail
  refine (hv.out _).mono ?_
  rintro e w2 ⟨rfl, hb2⟩
  obtain ⟨hz2, k0, k1, k2, k3⟩ := box4 hb2
  go_wp2_with fail
  all_goals
    go_ret
    exact ⟨rfl, boxBelow hb1 hb2⟩

set_option maxHeartbeats 1000000 in
/-- A known direction, an unknown form. -/
theorem table_form (a b : Int) (x y ds fs x0 x1 x2 x3 : ByteArray) (w : World)
    (hp : Hid (∀ W : World, Calls Ybaf.prog 10 #[.int .u8 a, .string x] W fun e w' => e = .returned (.string ds) ∧ W = w'))
    (hq : Hid (∀ W : World, Calls Ybaf.prog 11 #[.int .u8 b, .string y] W fun e w' => e = .returned (.string fs) ∧ W = w'))
    (ht : Hid (Calls Ybaf.prog 12 #[.string ds, .string fs] w fun e w' => ∃ a0, e = .returned (.tuple #[T4 x0 x1 x2 x3, .iface 50 (.pointer (some a0))]) ∧ Below w.heap.size w w'))
    (hv : Hid (∀ W : World, Calls Ybaf.prog 13 #[.string ds] W fun e w' => e = .returned (.tuple #[T4 x0 x1 x2 x3, .bool true]) ∧ Below W.heap.size W w'))
    (hne : ∀ W : World, (binOp .neq 38 (T4 x0 x1 x2 x3) (T4 x0 x1 x2 x3)).run Ybaf.prog W = .ok (.bool false) W)
    (g1 : fs.toList.isEmpty = false) (g2 : (fs.toList == [97, 99, 107]) = false) (g3 : (fs.toList == [101, 114, 114, 111, 114]) = false) :
    Calls Ybaf.prog 5 #[.int .u8 a, .string x, .int .u8 b, .string y] w fun e w' => e = .returned (.bool true) ∧ Below w.heap.size w w' := by
  go_enter Ybaf.func5, Ybaf.ntmps5
  go_wp2_with fail
  refine (hp.out _).mono ?_
  rintro e w' ⟨rfl, rfl⟩
  go_wp2_with fail
  refine (hq.out _).mono ?_
  rintro e w' ⟨rfl, rfl⟩
  go_wp2_with fail
  refine ht.out.mono ?_
  rintro e w1 ⟨a0, rfl, hb1⟩
  go_wp2_with fail
  refine (hv.out _).mono ?_
  rintro e w2 ⟨rfl, hb2⟩
  obtain ⟨hz2, k0, k1, k2, k3⟩ := box4 hb2
  go_wp2_with fail
  all_goals
    go_ret
    exact ⟨rfl, boxBelow hb1 hb2⟩

set_option maxHeartbeats 1000000 in
/-- A known direction, a known form. -/
theorem table_ok (a b : Int) (x y ds fs x0 x1 x2 x3 : ByteArray) (w : World)
    (hp : Hid (∀ W : World, Calls Ybaf.prog 10 #[.int .u8 a, .string x] W fun e w' => e = .returned (.string ds) ∧ W = w'))
    (hq : Hid (∀ W : World, Calls Ybaf.prog 11 #[.int .u8 b, .string y] W fun e w' => e = .returned (.string fs) ∧ W = w'))
    (ht : Hid (Calls Ybaf.prog 12 #[.string ds, .string fs] w fun e w' => e = .returned (.tuple #[T4 x0 x1 x2 x3, .nilIface]) ∧ Below w.heap.size w w'))
    (hv : Hid (∀ W : World, Calls Ybaf.prog 13 #[.string ds] W fun e w' => e = .returned (.tuple #[T4 x0 x1 x2 x3, .bool true]) ∧ Below W.heap.size W w'))
    (hne : ∀ W : World, (binOp .neq 38 (T4 x0 x1 x2 x3) (T4 x0 x1 x2 x3)).run Ybaf.prog W = .ok (.bool false) W)
    (g : fs = sNone ∨ fs = ⟨#[97, 99, 107]⟩ ∨ fs = ⟨#[101, 114, 114, 111, 114]⟩) :
    Calls Ybaf.prog 5 #[.int .u8 a, .string x, .int .u8 b, .string y] w fun e w' => e = .returned (.bool true) ∧ Below w.heap.size w w' := by
  rcases g with rfl | rfl | rfl
  all_goals
    go_enter Ybaf.func5, Ybaf.ntmps5
    go_wp2_with fail
    refine (hp.out _).mono ?_
    rintro e w' ⟨rfl, rfl⟩
    go_wp2_with fail
    refine (hq.out _).mono ?_
    rintro e w' ⟨rfl, rfl⟩
    go_wp2_with fail
    refine ht.out.mono ?_
    rintro e w1 ⟨rfl, hb1⟩
    go_wp2_with fail
    refine (hv.out _).mono ?_
    rintro e w2 ⟨rfl, hb2⟩
    obtain ⟨hz2, k0, k1, k2, k3⟩ := box4 hb2
    go_wp2_with fail
    all_goals
      go_ret
      exact ⟨rfl, boxBelow hb1 hb2⟩

theorem table_core (F : Interp) (a b : Int) (x y ds fs : ByteArray) (bm : Nat) (w : World) (hF : F.answers w.tape) (h0 : 0 < w.heap.size) (hc : w.cell? ⟨0, 0, none⟩ = some (.map (some bm)))
    (hp : Hid (∀ W : World, Calls Ybaf.prog 10 #[.int .u8 a, .string x] W fun e w' => e = .returned (.string ds) ∧ W = w'))
    (hq : Hid (∀ W : World, Calls Ybaf.prog 11 #[.int .u8 b, .string y] W fun e w' => e = .returned (.string fs) ∧ W = w'))
    (hrun : (Instr.lookup 46 (.map (some bm)) (.string ds) true).run Ybaf.prog (w.alloc Z38) = .ok (looked ds) (w.alloc Z38)) :
    Calls Ybaf.prog 5 #[.int .u8 a, .string x, .int .u8 b, .string y] w fun e w' => e = .returned (.bool true) ∧ Below w.heap.size w w' := by
  have key : ∀ x0 x1 x2 x3, looked ds = .tuple #[T4 x0 x1 x2 x3, .bool true] → (∀ W : World, Calls Ybaf.prog 13 #[.string ds] W fun e w' => e = .returned (.tuple #[T4 x0 x1 x2 x3, .bool true]) ∧ Below W.heap.size W w') →
      (∀ W : World, (binOp .neq 38 (T4 x0 x1 x2 x3) (T4 x0 x1 x2 x3)).run Ybaf.prog W = .ok (.bool false) W) →
      Calls Ybaf.prog 5 #[.int .u8 a, .string x, .int .u8 b, .string y] w fun e w' => e = .returned (.bool true) ∧ Below w.heap.size w w' := by
    intro x0 x1 x2 x3 hl hw hne
    rw [hl] at hrun
    by_cases f1 : fs.toList = []
    · exact table_ok a b x y ds fs x0 x1 x2 x3 w hp hq (hid (types_ok ds fs x0 x1 x2 x3 bm w h0 hc hrun (Or.inl (list_eq f1)))) (hid hw) hne (Or.inl (list_eq f1))
    by_cases f2 : fs.toList = [97, 99, 107]
    · exact table_ok a b x y ds fs x0 x1 x2 x3 w hp hq (hid (types_ok ds fs x0 x1 x2 x3 bm w h0 hc hrun (Or.inr (Or.inl (list_eq f2))))) (hid hw) hne (Or.inr (Or.inl (list_eq f2)))
    by_cases f3 : fs.toList = [101, 114, 114, 111, 114]
    · exact table_ok a b x y ds fs x0 x1 x2 x3 w hp hq (hid (types_ok ds fs x0 x1 x2 x3 bm w h0 hc hrun (Or.inr (Or.inr (list_eq f3))))) (hid hw) hne (Or.inr (Or.inr (list_eq f3)))
    have g1 : fs.toList.isEmpty = false := by cases h : fs.toList with | nil => exact absurd h f1 | cons _ _ => rfl
    have g2 : (fs.toList == [97, 99, 107]) = false := by simp [f2]
    have g3 : (fs.toList == [101, 114, 114, 111, 114]) = false := by simp [f3]
    exact table_form a b x y ds fs x0 x1 x2 x3 w hp hq (hid (types_form F ds fs x0 x1 x2 x3 bm w hF h0 hc hrun g1 g2 g3)) (hid hw) hne g1 g2 g3
  by_cases d1 : ds.toList = [97, 117, 116, 111]
  · have ed := list_eq d1
    exact key sDeliver sSubmit sStatus sDeliver (by simp [looked, d1]) (fun W => by rw [ed]; exact want_auto W) (fun _ => by kernel_rfl)
  by_cases d2 : ds.toList = [109, 111]
  · have ed := list_eq d2
    exact key sDeliverR sSubmit sCommand sNone (by simp [looked, d2]) (fun W => by rw [ed]; exact want_mo W) (fun _ => by kernel_rfl)
  by_cases d3 : ds.toList = [109, 116]
  · have ed := list_eq d3
    exact key sDeliver sSubmitR sStatus sDeliver (by simp [looked, d3]) (fun W => by rw [ed]; exact want_mt W) (fun _ => by kernel_rfl)
  have hl : looked ds = .tuple #[T4 sNone sNone sNone sNone, .bool false] := by simp [looked, d1, d2, d3]
  rw [hl] at hrun
  exact table_dir a b x y ds fs _ _ _ _ w hp hq (hid (types_dir F ds fs bm w hF h0 hc hrun)) (hid (fun W => want_none ds W (by simp [d1]) (by simp [d2]) (by simp [d3]))) (fun _ => by kernel_rfl)

theorem table_any (F : Interp) (a b : Int) (x y : ByteArray) (bm : Nat) (w : World) (ha0 : 0 ≤ a) (ha1 : a ≤ 255) (hb0 : 0 ≤ b) (hb1 : b ≤ 255) (hF : F.answers w.tape) (h0 : 0 < w.heap.size) (hc : w.cell? ⟨0, 0, none⟩ = some (.map (some bm)))
    (hrun : (Instr.lookup 46 (.map (some bm)) (.string (pickD a x)) true).run Ybaf.prog (w.alloc Z38) = .ok (looked (pickD a x)) (w.alloc Z38)) :
    Calls Ybaf.prog 5 #[.int .u8 a, .string x, .int .u8 b, .string y] w fun e w' => e = .returned (.bool true) ∧ Below w.heap.size w w' :=
  table_core F a b x y (pickD a x) (pickF b y) bm w hF h0 hc (hid fun W => (pickdir a x W ha0 ha1).mono fun _ _ h => ⟨h.1, h.2.symm⟩) (hid fun W => (pickform b y W hb0 hb1).mono fun _ _ h => ⟨h.1, h.2.symm⟩) hrun

theorem pickD_size (a : Int) (x : ByteArray) (h : x.size ≤ maxLen) : (pickD a x).size ≤ maxLen := by
  unfold pickD
  split
  · decide
  split
  · decide
  split
  · decide
  · exact h
end Go.Proofs.YbulkqigFmt
