/-
  DERIVED. THE WALKS of the small methods of kvcache: end, room, live, stored, Used, run.
-/
import Derived.Test.YbulkqjiFmtProg
import Derived.WalkKit
import Derived.WalkSpells
import Derived.WalkLawsBesides
import Derived.Deep.QuietTactic
import Derived.BigQuiet
import Derived.Deep.OwnRows
namespace Go.Proofs.YbulkqjiFmt
open Go.RowKit

set_option maxHeartbeats 400000 in
theorem end_any (C n cp : Nat) (a : Option Addr) (first head : Int) (w : World) (h7 : w.cell? ⟨C, 7, none⟩ = some (.slice a n cp)) (h8 : w.cell? ⟨C, 8, none⟩ = some (.int .i64 first)) (h9 : w.cell? ⟨C, 9, none⟩ = some (.int .i64 head))
    (_b1 : (n : Int) ≤ 1000000000) (_b2 : 0 ≤ first) (_b3 : first ≤ 1000000000) (_b4 : 0 ≤ head) (_b5 : head ≤ 1000000000) :
    Calls Ybaf.prog 12 #[.pointer (some ⟨C, 7, none⟩)] w fun e w' => e = .returned (.int .i64 (head + ((n : Int) - first))) ∧ ∃ q, w' = w.drewN q := by
  go_enter Ybaf.func12, Ybaf.ntmps12
  go_wp2_with fail
  go_quiet (fail)
  go_wp2_with fail
  go_ret
  exact ⟨rfl, _, rfl⟩

set_option maxHeartbeats 400000 in
theorem used_any (C : Nat) (used : Int) (w : World) (h2 : w.cell? ⟨C, 2, none⟩ = some (.int .i64 used)) :
    Calls Ybaf.prog 7 #[.pointer (some ⟨C, 0, none⟩)] w fun e w' => e = .returned (.int .i64 used) ∧ w = w' := by
  go_enter Ybaf.func7, Ybaf.ntmps7
  go_wp2_with fail
  go_ret
  exact ⟨rfl, rfl⟩

set_option maxHeartbeats 400000 in
theorem stored_any (C : Nat) (w : World) (h24 : w.cell? ⟨C, 24, none⟩ = some (.pointer none)) :
    Calls Ybaf.prog 15 #[.pointer (some ⟨C, 0, none⟩)] w fun e w' => e = .returned (.int .i64 0) ∧ w = w' := by
  go_enter Ybaf.func15, Ybaf.ntmps15
  go_wp2_with fail
  go_ret
  exact ⟨rfl, rfl⟩

set_option maxHeartbeats 400000 in
theorem run_any (n : Int) (w : World) (h0 : 0 ≤ n) (h1 : n ≤ 1000000) :
    Calls Ybaf.prog 10 #[.int .i64 n] w fun e w' => e = .returned (.int .i32 (-1 - n)) ∧ w = w' := by
  go_enter Ybaf.func10, Ybaf.ntmps10
  go_wp2_with fail
  go_ret
  exact ⟨by go_num, rfl⟩

set_option maxHeartbeats 400000 in
/-- A limited pool has room for as many blocks as it has free. -/
theorem room_lim (C : Nat) (tot used need fresh : Int) (w : World) (h1 : w.cell? ⟨C, 1, none⟩ = some (.int .i64 tot)) (h2 : w.cell? ⟨C, 2, none⟩ = some (.int .i64 used))
    (t0 : 0 < tot) (_t1 : tot ≤ 1000000) (_u0 : -1000000 ≤ used) (_u1 : used ≤ 1000000) :
    Calls Ybaf.prog 14 #[.pointer (some ⟨C, 0, none⟩), .int .i64 need, .int .i64 fresh] w fun e w' => e = .returned (.tuple #[.bool (decide (need ≤ tot - used)), .nilIface]) ∧ ∃ q, w' = w.drewN q := by
  go_enter Ybaf.func14, Ybaf.ntmps14
  go_wp2_with fail
  go_quiet (fail)
  go_wp2_with fail
  go_ret2
  exact ⟨rfl, _, rfl⟩

set_option maxHeartbeats 400000 in
/-- An unlimited pool that does not cache. -/
theorem room_unl (C : Nat) (used need fresh : Int) (w : World) (h1 : w.cell? ⟨C, 1, none⟩ = some (.int .i64 0)) (h2 : w.cell? ⟨C, 2, none⟩ = some (.int .i64 used)) (h4 : w.cell? ⟨C, 4, none⟩ = some (.bool false))
    (_u0 : -1000000 ≤ used) (_u1 : used ≤ 1000000) (_n1 : need ≤ 1000000) :
    Calls Ybaf.prog 14 #[.pointer (some ⟨C, 0, none⟩), .int .i64 need, .int .i64 fresh] w fun e w' => e = .returned (.tuple #[.bool true, .nilIface]) ∧ ∃ q, w' = w.drewN q := by
  go_enter Ybaf.func14, Ybaf.ntmps14
  go_wp2_with fail
  go_ret2
  exact ⟨rfl, 0, rfl⟩

set_option maxHeartbeats 400000 in
theorem live_any (C n cp : Nat) (a : Option Addr) (w : World) (h5 : w.cell? ⟨C, 5, none⟩ = some (.slice a n cp)) (h6 : w.cell? ⟨C, 6, none⟩ = some (.slice none 0 0)) (_b1 : (n : Int) ≤ 1000000000) :
    Calls Ybaf.prog 21 #[.pointer (some ⟨C, 5, none⟩)] w fun e w' => e = .returned (.int .i64 (n : Int)) ∧ ∃ q, w' = w.drewN q := by
  go_enter Ybaf.func21, Ybaf.ntmps21
  go_wp2_with fail
  go_quiet (fail)
  go_wp2_with fail
  go_ret
  exact ⟨by go_num, _, rfl⟩

set_option maxHeartbeats 400000 in
/-- An unlimited pool that caches. -/
theorem room_unlc (C n cp : Nat) (a : Option Addr) (used need fresh : Int) (w : World) (h1 : w.cell? ⟨C, 1, none⟩ = some (.int .i64 0)) (h2 : w.cell? ⟨C, 2, none⟩ = some (.int .i64 used)) (h4 : w.cell? ⟨C, 4, none⟩ = some (.bool true))
    (h5 : w.cell? ⟨C, 5, none⟩ = some (.slice a n cp)) (h6 : w.cell? ⟨C, 6, none⟩ = some (.slice none 0 0)) (_b1 : (n : Int) ≤ 1000000) (_n1 : fresh ≤ 1000000) :
    Calls Ybaf.prog 14 #[.pointer (some ⟨C, 0, none⟩), .int .i64 need, .int .i64 fresh] w fun e w' => e = .returned (.tuple #[.bool true, .nilIface]) ∧ ∃ q, w' = w.drewN q := by
  go_enter Ybaf.func14, Ybaf.ntmps14
  go_wp2_with fail
  refine (live_any C n cp a _ h5 h6 (by omega)).mono ?_
  rintro e w' ⟨rfl, q, rfl⟩
  go_wp2_with fail
  go_ret2
  exact ⟨rfl, _, rfl⟩
end Go.Proofs.YbulkqjiFmt
