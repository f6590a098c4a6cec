/-
  DERIVED. THE WALK of kvcache's Admit with an empty Hit, whatever the pool: out of the contracts of room and Reserve.
-/
import Derived.Test.YbulkqjiFmtGrow
import Derived.Deep.RegionHeld
namespace Go.Proofs.YbulkqjiFmt
open Go.RowKit
set_option linter.unusedVariables false

/-- The empty Hit, boxed. -/
abbrev Hit0 : Obj := .cells #[.slice none 0 0, .slice none 0 0, .int .i64 0] 47

set_option maxHeartbeats 1000000 in
set_option maxRecDepth 100000 in
theorem admit_ok (C T n cp : Nat) (en : Option Addr) (bs m tokens first head : Int) (w : World) (Post : World → Prop) (ct : C ≠ T) (hC : C < w.heap.size) (hT : T < w.heap.size)
    (h0 : w.cell? ⟨C, 0, none⟩ = some (.int .i64 bs)) (h7 : w.cell? ⟨C, 7, none⟩ = some (.slice en n cp)) (h8 : w.cell? ⟨C, 8, none⟩ = some (.int .i64 first)) (h9 : w.cell? ⟨C, 9, none⟩ = some (.int .i64 head))
    (h17 : w.cell? ⟨C, 17, none⟩ = some (.int .i64 0)) (h24 : w.cell? ⟨C, 24, none⟩ = some (.pointer none))
    (t4 : w.cell? ⟨T, 4, none⟩ = some (.int .i64 0)) (t5 : w.cell? ⟨T, 5, none⟩ = some (.slice none 0 0)) (t6 : w.cell? ⟨T, 6, none⟩ = some (.int .i64 0)) (t7 : w.cell? ⟨T, 7, none⟩ = some (.slice none 0 0))
    (ft4 : w.frozen? ⟨T, 4, none⟩ = false) (ft5 : w.frozen? ⟨T, 5, none⟩ = false) (ft6 : w.frozen? ⟨T, 6, none⟩ = false) (ft7 : w.frozen? ⟨T, 7, none⟩ = false)
    (b0 : 1 ≤ bs) (b1 : bs ≤ 16) (k0 : 0 ≤ tokens) (k1 : tokens ≤ 199) (hm : (tokens + bs - 1) / bs = m) (m0 : 0 ≤ m) (m1 : m ≤ 1000)
    (e1 : (n : Int) ≤ 1000000) (e2 : 0 ≤ first) (e3 : first ≤ 1000000) (e4 : 0 ≤ head) (e5 : head ≤ 1000000)
    (HR : Hid (∀ W : World, Sm W (w.alloc Hit0) → Calls Ybaf.prog 14 #[.pointer (some ⟨C, 0, none⟩), .int .i64 m, .int .i64 m] W fun e w' => e = .returned (.tuple #[.bool true, .nilIface]) ∧ ∃ q, w' = W.drewN q))
    (HV : Hid (∀ W : World, Sm W ((((w.alloc Hit0).setCell ⟨T, 5, none⟩ (.slice none 0 0)).setCell ⟨T, 4, none⟩ (.int .i64 0)).setCell ⟨T, 6, none⟩ (.int .i64 0) |>.setCell ⟨T, 7, none⟩ (.slice none 0 0)) →
      Calls Ybaf.prog 18 #[.pointer (some ⟨C, 0, none⟩), .pointer (some ⟨T, 0, none⟩), .int .i64 tokens] W fun e w' => e = .returned (.tuple #[.bool true, .nilIface]) ∧ Post w')) :
    Calls Ybaf.prog 8 #[.pointer (some ⟨C, 0, none⟩), .pointer (some ⟨T, 0, none⟩), .agg #[.slice none 0 0, .slice none 0 0, .int .i64 0], .int .i64 tokens] w fun e w' => e = .returned (.tuple #[.bool true, .nilIface]) ∧ Post w' := by
  go_enter Ybaf.func8, Ybaf.ntmps8
  go_wp2_with fail
  go_quiet (fail)
  go_wp2_with fail
  go_quiet (fail)
  go_wp2_with fail
  refine (end_any C n cp en first head _ ?_ ?_ ?_ (by omega) (by omega) (by omega) (by omega) (by omega)).mono ?_
  · go_simp
  · go_simp
  · go_simp
  rintro e w' ⟨rfl, q1, rfl⟩
  go_wp2_with fail
  refine wp_loop_rounds 1 ?_
  rw [rounds_succ]
  go_wp2_with fail
  refine (HR.out _ ?_).mono ?_
  · exact ⟨rfl, rfl, rfl, rfl⟩
  rintro e w' ⟨rfl, q2, rfl⟩
  go_wp2_with fail
  refine wp_loop_rounds 1 ?_
  rw [rounds_succ]
  go_wp2_with fail
  go_region
  go_wp2_with fail
  go_region
  all_goals
    go_wp2_with fail
    refine (HV.out _ ?_).mono ?_
    · exact ⟨rfl, rfl, rfl, rfl⟩
    rintro e w' ⟨rfl, hp⟩
    go_wp2_with fail
    go_ret2
    exact ⟨rfl, hp⟩

set_option maxHeartbeats 1000000 in
set_option maxRecDepth 100000 in
theorem admit_no (C T n cp : Nat) (en : Option Addr) (bs tot used m tokens first head fr : Int) (w : World) (ct : C ≠ T) (hC : C < w.heap.size) (hT : T < w.heap.size)
    (h0 : w.cell? ⟨C, 0, none⟩ = some (.int .i64 bs)) (h1 : w.cell? ⟨C, 1, none⟩ = some (.int .i64 tot)) (h2 : w.cell? ⟨C, 2, none⟩ = some (.int .i64 used))
    (h7 : w.cell? ⟨C, 7, none⟩ = some (.slice en n cp)) (h8 : w.cell? ⟨C, 8, none⟩ = some (.int .i64 first)) (h9 : w.cell? ⟨C, 9, none⟩ = some (.int .i64 head))
    (h17 : w.cell? ⟨C, 17, none⟩ = some (.int .i64 0)) (h22 : w.cell? ⟨C, 22, none⟩ = some (.int .i64 0)) (h23 : w.cell? ⟨C, 23, none⟩ = some (.int .i64 fr)) (h24 : w.cell? ⟨C, 24, none⟩ = some (.pointer none))
    (c18 : (w.cell? ⟨C, 18, none⟩).isSome = true) (c19 : (w.cell? ⟨C, 19, none⟩).isSome = true) (c20 : (w.cell? ⟨C, 20, none⟩).isSome = true) (c21 : (w.cell? ⟨C, 21, none⟩).isSome = true)
    (hf : ∀ i, w.frozen? ⟨C, i, none⟩ = false)
    (b0 : 1 ≤ bs) (b1 : bs ≤ 16) (k0 : 0 ≤ tokens) (k1 : tokens ≤ 199) (hm : (tokens + bs - 1) / bs = m) (m0 : 0 ≤ m) (m1 : m ≤ 1000)
    (e1 : (n : Int) ≤ 1000000) (e2 : 0 ≤ first) (e3 : first ≤ 1000000) (e4 : 0 ≤ head) (e5 : head ≤ 1000000) (t0 : 0 < tot) (t1 : tot ≤ 1000000) (u0 : -1000000 ≤ used) (u1 : used ≤ 1000000)
    (hno : ¬ m ≤ tot - used) :
    Calls Ybaf.prog 8 #[.pointer (some ⟨C, 0, none⟩), .pointer (some ⟨T, 0, none⟩), .agg #[.slice none 0 0, .slice none 0 0, .int .i64 0], .int .i64 tokens] w fun e w' => e = .returned (.tuple #[.bool false, .nilIface]) ∧
      ∃ b r, Sm w' ((((((w.alloc Hit0).setCell ⟨C, 17, none⟩ (.int .i64 0)).setCell ⟨C, 18, none⟩ (.int .i64 b)).setCell ⟨C, 19, none⟩ (.int .i64 r)).setCell ⟨C, 20, none⟩ (.int .i64 fr)).setCell ⟨C, 21, none⟩ (.int .i64 0)) := by
  obtain ⟨v18, h18⟩ := Option.isSome_iff_exists.1 c18
  obtain ⟨v19, h19⟩ := Option.isSome_iff_exists.1 c19
  obtain ⟨v20, h20⟩ := Option.isSome_iff_exists.1 c20
  obtain ⟨v21, h21⟩ := Option.isSome_iff_exists.1 c21
  clear c18 c19 c20 c21
  have hd : decide (m ≤ tot - used) = false := by simpa using hno
  have HS : Hid (∀ k, Calls Ybaf.prog 15 #[.pointer (some ⟨C, 0, none⟩)] ((w.alloc Hit0).drewN k) fun e w' => e = .returned (.int .i64 0) ∧ (w.alloc Hit0).drewN k = w') := fun k => stored_any C _ (by go_simp)
  go_enter Ybaf.func8, Ybaf.ntmps8
  go_wp2_with fail
  go_quiet (fail)
  go_wp2_with fail
  go_quiet (fail)
  go_wp2_with fail
  refine (end_any C n cp en first head _ ?_ ?_ ?_ (by omega) (by omega) (by omega) (by omega) (by omega)).mono ?_
  · go_simp
  · go_simp
  · go_simp
  rintro e w' ⟨rfl, q1, rfl⟩
  go_wp2_with fail
  refine wp_loop_rounds 1 ?_
  rw [rounds_succ]
  go_wp2_with fail
  refine (room_lim C tot used m m _ ?_ ?_ t0 t1 u0 u1).mono ?_
  · go_simp
  · go_simp
  rintro e w' ⟨rfl, q2, rfl⟩
  go_wp2_with fail
  go_region_held (fun w' => w'.cell? ⟨C, 22, none⟩ = some (.int .i64 0) ∧ w'.cell? ⟨C, 1, none⟩ = some (.int .i64 tot) ∧ w'.cell? ⟨C, 2, none⟩ = some (.int .i64 used) ∧ w'.cell? ⟨C, 23, none⟩ = some (.int .i64 fr) ∧ w'.cell? ⟨C, 24, none⟩ = some (.pointer none)) (go_simp) (first | (go_at_call 15; refine (HS.out _).mono ?_; rintro e w' ⟨rfl, rfl⟩))
  go_wp2_with fail
  go_ret2
  exact ⟨rfl, _, _, rfl, rfl, rfl, rfl⟩
end Go.Proofs.YbulkqjiFmt
