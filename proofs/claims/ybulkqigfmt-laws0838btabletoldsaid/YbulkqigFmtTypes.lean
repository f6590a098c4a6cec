/-
  DERIVED. THE WALKS of tpdu.typesIn and of the law's own table (zzs0838bwant).
-/
import Derived.Test.YbulkqigFmtStops
import Derived.Deep.RegionWith
namespace Go.Proofs.YbulkqigFmt
open Go.RowKit Go.Extern.Stop Go.Stop Go.Extern

abbrev sAuto : ByteArray := ⟨#[97, 117, 116, 111]⟩
abbrev sMo : ByteArray := ⟨#[109, 111]⟩
abbrev sMt : ByteArray := ⟨#[109, 116]⟩
abbrev sDeliver : ByteArray := ⟨#[83, 77, 83, 45, 68, 69, 76, 73, 86, 69, 82]⟩
abbrev sSubmit : ByteArray := ⟨#[83, 77, 83, 45, 83, 85, 66, 77, 73, 84]⟩
abbrev sStatus : ByteArray := ⟨#[83, 77, 83, 45, 83, 84, 65, 84, 85, 83, 45, 82, 69, 80, 79, 82, 84]⟩
abbrev sDeliverR : ByteArray := ⟨#[83, 77, 83, 45, 68, 69, 76, 73, 86, 69, 82, 45, 82, 69, 80, 79, 82, 84]⟩
abbrev sSubmitR : ByteArray := ⟨#[83, 77, 83, 45, 83, 85, 66, 77, 73, 84, 45, 82, 69, 80, 79, 82, 84]⟩
abbrev sCommand : ByteArray := ⟨#[83, 77, 83, 45, 67, 79, 77, 77, 65, 78, 68]⟩
abbrev sNone : ByteArray := ⟨#[]⟩

theorem bcell {W w1 : World} (hb : Below W.heap.size W w1) : (∀ b o, b < W.heap.size → w1.cell? ⟨b, o, none⟩ = W.cell? ⟨b, o, none⟩) ∧ (∀ b o, b < W.heap.size → w1.frozen? ⟨b, o, none⟩ = W.frozen? ⟨b, o, none⟩) :=
  ⟨fun b o h => hb.cell (p := ⟨b, o, none⟩) h, fun b o h => hb.frozen (p := ⟨b, o, none⟩) h⟩

set_option maxHeartbeats 400000 in
theorem want_auto (w : World) :
    Calls Ybaf.prog 13 #[.string sAuto] w fun e w' => e = .returned (.tuple #[.agg #[.string sDeliver, .string sSubmit, .string sStatus, .string sDeliver], .bool true]) ∧ Below w.heap.size w w' := by
  go_enter Ybaf.func13, Ybaf.ntmps13
  go_wp2
  refine bodyPost_ret (v := .tuple #[.agg #[.string sDeliver, .string sSubmit, .string sStatus, .string sDeliver], .bool true]) (by simp [results, Ybaf.results13, go_sem]) rfl ⟨rfl, ?_⟩
  exact (((Below.refl _ _).alloc (Nat.le_refl _) _).alloc (by simp) _)
set_option maxHeartbeats 400000 in
theorem want_mo (w : World) :
    Calls Ybaf.prog 13 #[.string sMo] w fun e w' => e = .returned (.tuple #[.agg #[.string sDeliverR, .string sSubmit, .string sCommand, .string sNone], .bool true]) ∧ Below w.heap.size w w' := by
  go_enter Ybaf.func13, Ybaf.ntmps13
  go_wp2
  refine bodyPost_ret (v := .tuple #[.agg #[.string sDeliverR, .string sSubmit, .string sCommand, .string sNone], .bool true]) (by simp [results, Ybaf.results13, go_sem]) rfl ⟨rfl, ?_⟩
  exact (((Below.refl _ _).alloc (Nat.le_refl _) _).alloc (by simp) _)
set_option maxHeartbeats 400000 in
theorem want_mt (w : World) :
    Calls Ybaf.prog 13 #[.string sMt] w fun e w' => e = .returned (.tuple #[.agg #[.string sDeliver, .string sSubmitR, .string sStatus, .string sDeliver], .bool true]) ∧ Below w.heap.size w w' := by
  go_enter Ybaf.func13, Ybaf.ntmps13
  go_wp2
  refine bodyPost_ret (v := .tuple #[.agg #[.string sDeliver, .string sSubmitR, .string sStatus, .string sDeliver], .bool true]) (by simp [results, Ybaf.results13, go_sem]) rfl ⟨rfl, ?_⟩
  exact (((Below.refl _ _).alloc (Nat.le_refl _) _).alloc (by simp) _)
set_option maxHeartbeats 400000 in
theorem want_none (d : ByteArray) (w : World) (h1 : (d.toList == [97, 117, 116, 111]) = false) (h2 : (d.toList == [109, 111]) = false) (h3 : (d.toList == [109, 116]) = false) :
    Calls Ybaf.prog 13 #[.string d] w fun e w' => e = .returned (.tuple #[.agg #[.string sNone, .string sNone, .string sNone, .string sNone], .bool false]) ∧ Below w.heap.size w w' := by
  go_enter Ybaf.func13, Ybaf.ntmps13
  go_wp2
  refine bodyPost_ret (v := .tuple #[.agg #[.string sNone, .string sNone, .string sNone, .string sNone], .bool false]) (by simp [results, Ybaf.results13, go_sem]) rfl ⟨rfl, ?_⟩
  exact (((Below.refl _ _).alloc (Nat.le_refl _) _).alloc (by simp) _)

abbrev Z38 : Obj := .cells #[.string sNone, .string sNone, .string sNone, .string sNone] 38


set_option maxHeartbeats 1000000 in
/-- An unknown direction: the zero table and an error. -/
theorem types_dir (F : Interp) (d f : ByteArray) (bm : Nat) (w : World) (hF : F.answers w.tape) (h0 : 0 < w.heap.size) (hc : w.cell? ⟨0, 0, none⟩ = some (.map (some bm)))
    (hrun : (Instr.lookup 46 (.map (some bm)) (.string d) true).run Ybaf.prog (w.alloc Z38) = .ok (.tuple #[.agg #[.string sNone, .string sNone, .string sNone, .string sNone], .bool false]) (w.alloc Z38)) :
    Calls Ybaf.prog 12 #[.string d, .string f] w fun e w' => ∃ a, e = .returned (.tuple #[.agg #[.string sNone, .string sNone, .string sNone, .string sNone], .iface 50 (.pointer (some a))]) ∧ Below w.heap.size w w' := by
  go_enter Ybaf.func12, Ybaf.ntmps12
  go_wp2_with fail
  go_region_with (go_at_call 15; refine (errorfC F d _ _ ?_ ?_).mono ?_; exact hF; go_simp; rintro e w' ⟨s, rfl, rfl⟩)
  all_goals
    go_wp2
    refine bodyPost_ret (v := .tuple #[.agg #[.string sNone, .string sNone, .string sNone, .string sNone], .iface 50 (.pointer (some ⟨w.heap.size + 1 + 1 + 1, 0, none⟩))]) (by simp [results, Ybaf.results12, go_sem]) rfl ⟨_, rfl, ?_⟩
    exact ((((((Below.refl _ _).alloc (Nat.le_refl _) _).alloc (by simp) _).alloc (by simp; omega) _).alloc (by simp; omega) _).drew).drew

set_option maxHeartbeats 1000000 in
/-- A known direction, an unknown form: the table and an error. -/
theorem types_form (F : Interp) (d f x0 x1 x2 x3 : ByteArray) (bm : Nat) (w : World) (hF : F.answers w.tape) (h0 : 0 < w.heap.size) (hc : w.cell? ⟨0, 0, none⟩ = some (.map (some bm)))
    (hrun : (Instr.lookup 46 (.map (some bm)) (.string d) true).run Ybaf.prog (w.alloc Z38) = .ok (.tuple #[.agg #[.string x0, .string x1, .string x2, .string x3], .bool true]) (w.alloc Z38))
    (g1 : f.toList.isEmpty = false) (g2 : (f.toList == [97, 99, 107]) = false) (g3 : (f.toList == [101, 114, 114, 111, 114]) = false) :
    Calls Ybaf.prog 12 #[.string d, .string f] w fun e w' => ∃ a, e = .returned (.tuple #[.agg #[.string x0, .string x1, .string x2, .string x3], .iface 50 (.pointer (some a))]) ∧ Below w.heap.size w w' := by
  go_enter Ybaf.func12, Ybaf.ntmps12
  go_wp2_with fail
  go_region_with (go_at_call 15; refine (errorfD F f _ _ ?_ ?_).mono ?_; exact hF; go_simp; rintro e w' ⟨s, rfl, rfl⟩)
  all_goals
    go_wp2
    refine bodyPost_ret (v := .tuple #[.agg #[.string x0, .string x1, .string x2, .string x3], .iface 50 (.pointer (some ⟨w.heap.size + 1 + 1 + 1, 0, none⟩))]) (by simp [results, Ybaf.results12, go_sem]) rfl ⟨_, rfl, ?_⟩
    exact ((((((Below.refl _ _).alloc (Nat.le_refl _) _).alloc (by simp) _).alloc (by simp; omega) _).alloc (by simp; omega) _).drew).drew

set_option maxHeartbeats 1000000 in
/-- A known direction, a known form: the table, no error. -/
theorem types_ok (d f x0 x1 x2 x3 : ByteArray) (bm : Nat) (w : World) (h0 : 0 < w.heap.size) (hc : w.cell? ⟨0, 0, none⟩ = some (.map (some bm)))
    (hrun : (Instr.lookup 46 (.map (some bm)) (.string d) true).run Ybaf.prog (w.alloc Z38) = .ok (.tuple #[.agg #[.string x0, .string x1, .string x2, .string x3], .bool true]) (w.alloc Z38))
    (g : f = sNone ∨ f = ⟨#[97, 99, 107]⟩ ∨ f = ⟨#[101, 114, 114, 111, 114]⟩) :
    Calls Ybaf.prog 12 #[.string d, .string f] w fun e w' => e = .returned (.tuple #[.agg #[.string x0, .string x1, .string x2, .string x3], .nilIface]) ∧ Below w.heap.size w w' := by
  rcases g with rfl | rfl | rfl
  all_goals
    go_enter Ybaf.func12, Ybaf.ntmps12
    go_wp2_with fail
    refine bodyPost_ret (v := .tuple #[.agg #[.string x0, .string x1, .string x2, .string x3], .nilIface]) (by simp [results, Ybaf.results12, go_sem]) rfl ⟨rfl, ?_⟩
    exact ((Below.refl _ _).alloc (Nat.le_refl _) _).alloc (by simp) _
end Go.Proofs.YbulkqigFmt
