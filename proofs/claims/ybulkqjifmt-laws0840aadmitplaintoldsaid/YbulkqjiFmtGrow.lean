/-
  DERIVED. THE WALK of kvcache's grow and Reserve in a pool that does not cache.
-/
import Derived.Test.YbulkqjiFmtCells
import Derived.BigRegion
namespace Go.Proofs.YbulkqjiFmt
open Go.RowKit
set_option linter.unusedVariables false

/-- Two worlds that part in what has been drawn alone. -/
structure Sm (a b : World) : Prop where
  heap : a.heap = b.heap
  os : a.os = b.os
  output : a.output = b.output
  tape : a.tape = b.tape
theorem Sm.cell {a b : World} (h : Sm a b) (x : Addr) : a.cell? x = b.cell? x := by simp [World.cell?, h.heap]
theorem Sm.frozen {a b : World} (h : Sm a b) (x : Addr) : a.frozen? x = b.frozen? x := by simp [World.frozen?, h.heap]
theorem Sm.setCell {a b : World} (h : Sm a b) (x : Addr) (v : Value) : Sm (a.setCell x v) (b.setCell x v) := ⟨by simp [World.setCell, h.heap], h.os, h.output, h.tape⟩
theorem Sm.alloc {a b : World} (h : Sm a b) (o : Obj) : Sm (a.alloc o) (b.alloc o) := ⟨by show a.heap.push o = b.heap.push o; rw [h.heap], h.os, h.output, h.tape⟩
theorem Sm.refl (a : World) : Sm a a := ⟨rfl, rfl, rfl, rfl⟩
theorem Sm.trans {a b c : World} (h : Sm a b) (k : Sm b c) : Sm a c := ⟨h.heap.trans k.heap, h.os.trans k.os, h.output.trans k.output, h.tape.trans k.tape⟩
theorem Sm.drewN (a : World) (q : Nat) : Sm (a.drewN q) a := ⟨rfl, rfl, rfl, rfl⟩
theorem Sm.drew (a : World) : Sm a.drew a := ⟨rfl, rfl, rfl, rfl⟩
theorem Sm.row {a b : World} (h : Sm a b) {k n : Nat} {t : TypeId} {f : Nat → Value} (hr : b.rowIs k t n f) : a.rowIs k t n f := hr.of_block (by rw [h.heap])
theorem Sm.below {a b w : World} {B : Nat} (h : Sm a b) (hb : Below B w b) : Below B w a := ⟨h.os.trans hb.os, h.tape.trans hb.tape, h.output.trans hb.output, by rw [h.heap]; exact hb.size, fun k hk => by rw [h.heap]; exact hb.block k hk⟩

set_option maxHeartbeats 1000000 in
theorem grow_plain (C G T : Nat) (bs tot used peak m pk tokens : Int) (w : World) (cg : C ≠ G) (ct : C ≠ T) (gt : G ≠ T)
    (h0 : w.cell? ⟨C, 0, none⟩ = some (.int .i64 bs)) (h1 : w.cell? ⟨C, 1, none⟩ = some (.int .i64 tot)) (h2 : w.cell? ⟨C, 2, none⟩ = some (.int .i64 used)) (h3 : w.cell? ⟨C, 3, none⟩ = some (.pointer (some ⟨G, 0, none⟩))) (h4 : w.cell? ⟨C, 4, none⟩ = some (.bool false))
    (g0 : w.cell? ⟨G, 0, none⟩ = some (.int .i64 used)) (g1 : w.cell? ⟨G, 1, none⟩ = some (.int .i64 peak)) (t4 : w.cell? ⟨T, 4, none⟩ = some (.int .i64 0))
    (f2 : w.frozen? ⟨C, 2, none⟩ = false) (fg0 : w.frozen? ⟨G, 0, none⟩ = false) (fg1 : w.frozen? ⟨G, 1, none⟩ = false) (ft : w.frozen? ⟨T, 4, none⟩ = false)
    (b0 : 1 ≤ bs) (b1 : bs ≤ 16) (k0 : 0 ≤ tokens) (k1 : tokens ≤ 199) (hm : (tokens + bs - 1) / bs = m) (m0 : 0 ≤ m) (m1 : m ≤ 1000) (t0 : 0 ≤ tot) (t1 : tot ≤ 1000000) (u0 : -1000000 ≤ used) (u1 : used ≤ 900000)
    (hroom : tot = 0 ∨ m ≤ tot - used) (hpk : Hid (pk = max peak (used + m))) :
    Calls Ybaf.prog 28 #[.pointer (some ⟨C, 0, none⟩), .pointer (some ⟨T, 0, none⟩), .int .i64 tokens] w fun e w' => e = .returned (.tuple #[.bool true, .nilIface]) ∧
      Sm w' ((((w.setCell ⟨T, 4, none⟩ (.int .i64 m)).setCell ⟨C, 2, none⟩ (.int .i64 (used + m))).setCell ⟨G, 0, none⟩ (.int .i64 (used + m))).setCell ⟨G, 1, none⟩ (.int .i64 pk)) := by
  have hp : (peak < used + m ∧ pk = used + m) ∨ (used + m ≤ peak ∧ pk = peak) := by have := hpk.out; omega
  rcases hp with ⟨hp, rfl⟩ | ⟨hp, rfl⟩
  all_goals
    go_enter Ybaf.func28, Ybaf.ntmps28
    go_wp2_with fail
    go_quiet (fail)
    have hroomc : ∀ W : World, (∀ a, W.cell? a = w.cell? a) → Calls Ybaf.prog 14 #[.pointer (some ⟨C, 0, none⟩), .int .i64 m, .int .i64 m] W fun e w' => e = .returned (.tuple #[.bool true, .nilIface]) ∧ ∃ q, w' = W.drewN q := by
      intro W hW
      by_cases hz : tot = 0
      · subst hz
        exact room_unl C used m m W (by rw [hW]; exact h1) (by rw [hW]; exact h2) (by rw [hW]; exact h4) u0 (by omega) (by omega)
      · refine (room_lim C tot used m m W (by rw [hW]; exact h1) (by rw [hW]; exact h2) (by omega) t1 u0 (by omega)).mono ?_
        rintro e w' ⟨rfl, hq⟩
        rw [show decide (m ≤ tot - used) = true by simp; omega]
        exact ⟨rfl, hq⟩
    have HR : Hid (∀ W : World, (∀ a, W.cell? a = w.cell? a) → Calls Ybaf.prog 14 #[.pointer (some ⟨C, 0, none⟩), .int .i64 m, .int .i64 m] W fun e w' => e = .returned (.tuple #[.bool true, .nilIface]) ∧ ∃ q, w' = W.drewN q) := hroomc
    clear hroomc hroom
    go_wp2_with fail
    refine (HR.out _ (fun a => by simp)).mono ?_
    rintro e w' ⟨rfl, q, rfl⟩
    go_wp2_with fail
    go_region
    all_goals
      go_wp2_with fail
      go_ret2
      exact ⟨rfl, rfl, rfl, rfl, rfl⟩

set_option maxHeartbeats 1000000 in
theorem reserve_plain (C G T : Nat) (bs tot used peak m pk tokens : Int) (w : World) (cg : C ≠ G) (ct : C ≠ T) (gt : G ≠ T)
    (h0 : w.cell? ⟨C, 0, none⟩ = some (.int .i64 bs)) (h1 : w.cell? ⟨C, 1, none⟩ = some (.int .i64 tot)) (h2 : w.cell? ⟨C, 2, none⟩ = some (.int .i64 used)) (h3 : w.cell? ⟨C, 3, none⟩ = some (.pointer (some ⟨G, 0, none⟩))) (h4 : w.cell? ⟨C, 4, none⟩ = some (.bool false))
    (g0 : w.cell? ⟨G, 0, none⟩ = some (.int .i64 used)) (g1 : w.cell? ⟨G, 1, none⟩ = some (.int .i64 peak)) (t4 : w.cell? ⟨T, 4, none⟩ = some (.int .i64 0))
    (f2 : w.frozen? ⟨C, 2, none⟩ = false) (fg0 : w.frozen? ⟨G, 0, none⟩ = false) (fg1 : w.frozen? ⟨G, 1, none⟩ = false) (ft : w.frozen? ⟨T, 4, none⟩ = false)
    (b0 : 1 ≤ bs) (b1 : bs ≤ 16) (k0 : 0 < tokens) (k1 : tokens ≤ 199) (hm : (tokens + bs - 1) / bs = m) (m0 : 0 ≤ m) (m1 : m ≤ 1000) (t0 : 0 ≤ tot) (t1 : tot ≤ 1000000) (u0 : -1000000 ≤ used) (u1 : used ≤ 900000)
    (hroom : tot = 0 ∨ m ≤ tot - used) (hpk : Hid (pk = max peak (used + m))) :
    Calls Ybaf.prog 18 #[.pointer (some ⟨C, 0, none⟩), .pointer (some ⟨T, 0, none⟩), .int .i64 tokens] w fun e w' => e = .returned (.tuple #[.bool true, .nilIface]) ∧
      Sm w' ((((w.setCell ⟨T, 4, none⟩ (.int .i64 m)).setCell ⟨C, 2, none⟩ (.int .i64 (used + m))).setCell ⟨G, 0, none⟩ (.int .i64 (used + m))).setCell ⟨G, 1, none⟩ (.int .i64 pk)) := by
  have HG : Hid (∀ q : Nat, Calls Ybaf.prog 28 #[.pointer (some ⟨C, 0, none⟩), .pointer (some ⟨T, 0, none⟩), .int .i64 tokens] (w.drewN q) fun e w' => e = .returned (.tuple #[.bool true, .nilIface]) ∧
      Sm w' (((((w.drewN q).setCell ⟨T, 4, none⟩ (.int .i64 m)).setCell ⟨C, 2, none⟩ (.int .i64 (used + m))).setCell ⟨G, 0, none⟩ (.int .i64 (used + m))).setCell ⟨G, 1, none⟩ (.int .i64 pk))) := fun q =>
    grow_plain C G T bs tot used peak m pk tokens (w.drewN q) cg ct gt h0 h1 h2 h3 h4 g0 g1 t4 f2 fg0 fg1 ft b0 b1 (by omega) k1 hm m0 m1 t0 t1 u0 u1 hroom hpk
  have hz : (0 : Int) * bs = 0 := by simp
  clear hroom
  go_enter Ybaf.func18, Ybaf.ntmps18
  go_wp2_with fail
  go_quiet (fail)
  go_wp2_with fail
  refine (HG.out _).mono ?_
  rintro e w' ⟨rfl, hs⟩
  go_wp2_with fail
  go_ret2
  exact ⟨rfl, hs.trans ⟨rfl, rfl, rfl, rfl⟩⟩

set_option maxHeartbeats 1000000 in
/-- No token: nothing is taken. -/
theorem reserve_none (C T : Nat) (bs : Int) (w : World) (h0 : w.cell? ⟨C, 0, none⟩ = some (.int .i64 bs)) (t4 : w.cell? ⟨T, 4, none⟩ = some (.int .i64 0)) :
    Calls Ybaf.prog 18 #[.pointer (some ⟨C, 0, none⟩), .pointer (some ⟨T, 0, none⟩), .int .i64 0] w fun e w' => e = .returned (.tuple #[.bool true, .nilIface]) ∧ Sm w' w := by
  have hz : (0 : Int) * bs = 0 := by simp
  go_enter Ybaf.func18, Ybaf.ntmps18
  go_wp2_with fail
  go_quiet (fail)
  go_wp2_with fail
  go_ret2
  exact ⟨rfl, rfl, rfl, rfl, rfl⟩
end Go.Proofs.YbulkqjiFmt
