/-
  DERIVED. THE WALKS of eval's alias, included, readsOwn, of.
-/
import Derived.Test.YbulkqmoMaps
namespace Go.Proofs.Ybulkqmo
open Go.RowKit
set_option linter.unusedVariables false

theorem size42 (W : World) : (sizeOf 42).run Yba.prog W = .ok 3 W := by kernel_rfl
theorem size44 (W : World) : (sizeOf 44).run Yba.prog W = .ok 6 W := by kernel_rfl
theorem size87 (W : World) : (sizeOf 87).run Yba.prog W = .ok 9 W := by kernel_rfl
theorem size21 (W : World) : (sizeOf 21).run Yba.prog W = .ok 1 W := by kernel_rfl
theorem ix26 (g len cap j : Nat) (q : IntKind) (W : World) (h : j < len) : (Instr.indexAt 26 (.slice (some ⟨g, 0, none⟩) len cap) (.int q (j : Int))).run Yba.prog W = .ok (.pointer (some ⟨g, 3 * j, none⟩)) W := by
  have e : Yba.prog.elem 26 = 42 := by kernel_rfl
  rw [run_indexAt_slice (h := by rw [e]; exact Yba.underlying26), if_pos (by omega), e, size42]
  rw [Nat.mul_comm 3 j]
  simp [Addr.add]
  omega
theorem ix27 (g len cap j : Nat) (q : IntKind) (W : World) (h : j < len) : (Instr.indexAt 27 (.slice (some ⟨g, 0, none⟩) len cap) (.int q (j : Int))).run Yba.prog W = .ok (.pointer (some ⟨g, 6 * j, none⟩)) W := by
  have e : Yba.prog.elem 27 = 44 := by kernel_rfl
  rw [run_indexAt_slice (h := by rw [e]; exact Yba.underlying27), if_pos (by omega), e, size44]
  rw [Nat.mul_comm 6 j]
  simp [Addr.add]
  omega
theorem ix79 (g len cap j : Nat) (q : IntKind) (W : World) (h : j < len) : (Instr.indexAt 79 (.slice (some ⟨g, 0, none⟩) len cap) (.int q (j : Int))).run Yba.prog W = .ok (.pointer (some ⟨g, 9 * j, none⟩)) W := by
  have e : Yba.prog.elem 79 = 87 := by kernel_rfl
  rw [run_indexAt_slice (h := by rw [e]; exact Yba.underlying79), if_pos (by omega), e, size87]
  rw [Nat.mul_comm 9 j]
  simp [Addr.add]
  omega
theorem ix25 (g len cap j : Nat) (q : IntKind) (W : World) (h : j < len) : (Instr.indexAt 25 (.slice (some ⟨g, 0, none⟩) len cap) (.int q (j : Int))).run Yba.prog W = .ok (.pointer (some ⟨g, j, none⟩)) W := by
  have e : Yba.prog.elem 25 = 21 := by kernel_rfl
  rw [run_indexAt_slice (h := by rw [e]; exact Yba.underlying25), if_pos (by omega), e, size21]
  simp [Addr.add]
  omega

set_option maxHeartbeats 1000000 in
set_option maxRecDepth 100000 in
theorem alias_raw (N AL r : Nat) (w : World) (hr : r ≤ 1000000) (n6 : w.cell? ⟨N, 6, none⟩ = some (.map (some AL)))
    (lk : (Instr.lookup 45 (.map (some AL)) (.int .i32 (r : Int)) true).run Yba.prog w = .ok (.tuple #[.int .i32 r, .bool true]) w) :
    Calls Yba.prog 27 #[.pointer (some ⟨N, 0, none⟩), .int .i32 (r : Int)] w fun e w' => e = .returned (.int .i32 (r : Int)) ∧ w = w' := by
  go_enter Yba.func27, Yba.ntmps27
  go_wp2_with fail
  refine wp_loop_rounds 1 ?_
  rw [rounds_succ]
  go_wp2_with fail
  refine wp_loop_rounds 1 ?_
  rw [rounds_succ]
  go_wp2_with fail
  go_ret
  exact ⟨rfl, rfl⟩

set_option maxHeartbeats 1000000 in
set_option maxRecDepth 100000 in
theorem included_raw (N Pl U Bo J tot cB t : Nat) (k x : Int) (ex : Bool) (w : World) (hJ : J < tot) (ht : tot ≤ 4096) (hBo : Bo < w.heap.size) (hN : N < w.heap.size) (hPl : Pl < w.heap.size)
    (n0 : w.cell? ⟨N, 0, none⟩ = some (.pointer (some ⟨Pl, 0, none⟩))) (p13 : w.cell? ⟨Pl, 13, none⟩ = some (.slice (some ⟨Bo, 0, none⟩) tot cB)) (p20 : w.cell? ⟨Pl, 20, none⟩ = some (.map (some U)))
    (c0 : w.cell? ⟨Bo, 3 * J, none⟩ = some (.int .u8 k)) (c1 : w.cell? ⟨Bo, 3 * J + 1, none⟩ = some (.int .i32 x)) (c2 : w.cell? ⟨Bo, 3 * J + 2, none⟩ = some (.int .i32 0)) (hk0 : 0 ≤ k) (hk1 : k ≤ 2) (hx : k = 1 → x = t)
    (lk : (Instr.lookup 28 (.map (some U)) (.int .i32 (J : Int)) true).run Yba.prog (w.alloc (.cells #[.int .u8 k, .int .i32 x, .int .i32 0] 42)) = .ok (.tuple #[Z37, .bool ex]) (w.alloc (.cells #[.int .u8 k, .int .i32 x, .int .i32 0] 42)))
    (HA : Hid (∀ W, New w W → Calls Yba.prog 27 #[.pointer (some ⟨N, 0, none⟩), .int .i32 (t : Int)] W fun e w' => e = .returned (.int .i32 (t : Int)) ∧ W = w')) :
    Calls Yba.prog 13 #[.pointer (some ⟨N, 0, none⟩), .int .i32 (J : Int)] w fun e w' =>
      ((k = 1 ∧ ex = false ∧ e = .returned (.tuple #[.int .i32 (t : Int), .bool true])) ∨ (¬ (k = 1 ∧ ex = false) ∧ e = .returned (.tuple #[.int .i32 0, .bool false]))) ∧ New w w' := by
  have i1 := fun W => ix26 Bo tot cB J .i32 W hJ
  by_cases h1 : k = 1
  · obtain rfl := h1
    obtain rfl := hx rfl
    cases ex
    · go_enter Yba.func13, Yba.ntmps13
      go_wp2_with fail
      refine (HA.out _ (((Fr.refl _ w).alloc _).alloc _)).mono ?_
      rintro e w' ⟨rfl, rfl⟩
      go_wp2_with fail
      go_ret2
      exact ⟨by simp, ((Fr.refl _ w).alloc _).alloc _⟩
    · go_enter Yba.func13, Yba.ntmps13
      go_wp2_with fail
      go_ret2
      exact ⟨by simp, ((Fr.refl _ w).alloc _).alloc _⟩
  · have hk : (k != 1) = true := by simpa using h1
    clear lk hx
    go_enter Yba.func13, Yba.ntmps13
    go_wp2_with fail
    go_ret2
    exact ⟨by simp [h1], (Fr.refl _ w).alloc _⟩

set_option maxHeartbeats 1000000 in
set_option maxRecDepth 100000 in
theorem reads_raw (N Pl Bo Li J tot cB nl cL l t r : Nat) (k x : Int) (lv : Value) (w : World) (hJ : J < tot) (ht : tot ≤ 4096) (hBo : Bo < w.heap.size) (hN : N < w.heap.size) (hPl : Pl < w.heap.size)
    (n0 : w.cell? ⟨N, 0, none⟩ = some (.pointer (some ⟨Pl, 0, none⟩))) (p13 : w.cell? ⟨Pl, 13, none⟩ = some (.slice (some ⟨Bo, 0, none⟩) tot cB)) (p15 : w.cell? ⟨Pl, 15, none⟩ = some lv)
    (c0 : w.cell? ⟨Bo, 3 * J, none⟩ = some (.int .u8 k)) (c1 : w.cell? ⟨Bo, 3 * J + 1, none⟩ = some (.int .i32 x)) (c2 : w.cell? ⟨Bo, 3 * J + 2, none⟩ = some (.int .i32 0)) (hk0 : 0 ≤ k) (hk1 : k ≤ 2)
    (hx : k = 2 → x = l ∧ l < nl ∧ lv = .slice (some ⟨Li, 0, none⟩) nl cL ∧ w.cell? ⟨Li, 6 * l, none⟩ = some (.int .i32 t)) :
    Calls Yba.prog 14 #[.pointer (some ⟨N, 0, none⟩), .int .i32 (r : Int), .int .i32 (J : Int)] w fun e w' => e = .returned (.bool (decide (k = 2) && decide (t = r))) ∧ New w w' := by
  have i1 := fun W => ix26 Bo tot cB J .i32 W hJ
  by_cases h2 : k = 2
  · obtain ⟨rfl, hl, rfl, hc⟩ := hx h2
    subst h2
    have i2 := fun W => ix27 Li nl cL l .i32 W hl
    have hLi : Li < w.heap.size := World.block_lt_of_cell? _ _ hc
    clear hx
    go_enter Yba.func14, Yba.ntmps14
    go_wp2_with fail
    go_quiet (fail)
    go_wp2_with fail
    go_ret
    refine ⟨?_, Fr.sm ((Fr.refl _ w).alloc _) (Sm.drewN _ _)⟩
    show Ending.returned (.bool ((t : Int) == (r : Int))) = _
    by_cases h : t = r <;> simp [h, Int.natCast_inj]
  · have hk : (k == 2) = false := by simpa using h2
    clear hx
    go_enter Yba.func14, Yba.ntmps14
    go_wp2_with fail
    go_quiet (fail)
    go_wp2_with fail
    go_ret
    refine ⟨?_, Fr.sm ((Fr.refl _ w).alloc _) (Sm.drewN _ _)⟩
    simp [h2]

set_option maxHeartbeats 1000000 in
set_option maxRecDepth 100000 in
theorem of_raw (J A R t p n m cR : Nat) (a : Int) (w : World) (ht : t < n) (hp : p < m) (ha : a - 1 = (p : Int)) (ha1 : a ≤ 1000000) (hm : m ≤ 1000)
    (j1 : w.cell? ⟨J, 1, none⟩ = some (.slice (some ⟨R, 0, none⟩) m cR)) (j2 : w.cell? ⟨J, 2, none⟩ = some (.slice (some ⟨A, 0, none⟩) n n)) (c : w.cell? ⟨A, t, none⟩ = some (.int .i32 a)) :
    Calls Yba.prog 15 #[.pointer (some ⟨J, 0, none⟩), .int .i32 (t : Int)] w fun e w' => e = .returned (.pointer (some ⟨R, 9 * p, none⟩)) ∧ Sm w' w := by
  have i1 := fun W => ix25 A n n t .i32 W ht
  have i2 := fun W => ix79 R m cR p .i32 W hp
  go_enter Yba.func15, Yba.ntmps15
  go_wp2_with fail
  go_quiet (fail)
  go_wp2_with fail
  go_ret
  exact ⟨rfl, Sm.drewN _ _⟩

/-- A role reached, as add lays it. -/
abbrev Rec (t : Int) : List Value := [.int .i32 t, .int .i32 0, .bool false, .bool false, .bool false, .bool false, .bool false, .pointer none, .slice none 0 0]
theorem info87 : (Yba.prog.info? 87).map (fun i => (i.zero, i.size, i.bytes)) = some (some (.agg (Rec 0).toArray), 9, 48) := by kernel_rfl

set_option maxHeartbeats 1000000 in
set_option maxRecDepth 100000 in
theorem add_raw (J A t n m base : Nat) (rv : Value) (xs : List Value) (f : Nat → Value) (w : World) (ht : t < n) (hm : m ≤ 1000) (hj : w.rowIs J 82 8 f) (f1 : f 1 = rv) (f2 : f 2 = .slice (some ⟨A, 0, none⟩) n n) (hA : (w.cell? ⟨A, t, none⟩).isSome = true) (hAf : w.frozen? ⟨A, t, none⟩ = false)
    (hJA : J ≠ A) (hown : w.ownsRow base 87 9 rv m xs) (hrA : rv.ownBlock ≠ some A) (hbase : base ≤ w.heap.size) :
    Calls Yba.prog 6 #[.pointer (some ⟨J, 0, none⟩), .int .i32 (t : Int)] w fun e w' => e = .returned (.tuple #[]) ∧
      ∃ rv' w1, w1.ownsRow base 87 9 rv' (m + 1) (xs ++ Rec t) ∧ Fr (fun k => rv.ownBlock = some k) w w1 ∧ Sm w' ((w1.setCell ⟨J, 1, none⟩ rv').setCell ⟨A, t, none⟩ (.int .i32 (m + 1 : Nat))) := by
  obtain ⟨rv', w1, hr', ho, hf⟩ := pushN base m 9 48 79 87 _ rv xs (Rec t) w (w.alloc (.cells (Rec t).toArray 87)) Yba.underlying79 info87 (by rfl) (by omega) (by intro u hu; simp at hu; rcases hu with rfl | rfl | rfl | rfl | rfl <;> rfl) hown (by rfl) (by omega) (by omega) hbase (Sm.refl _)
  obtain ⟨ao, cap, rfl⟩ := owns_slice hown
  obtain ⟨ao', cap', rfl⟩ := owns_slice ho
  have hrJ := owns_ne_row hown hj (by decide)
  have hjlt := hj.lt
  have j1 := hj.cell (i := 1) (by omega); rw [f1] at j1
  have k2 : w1.cell? ⟨J, 2, none⟩ = some (.slice (some ⟨A, 0, none⟩) n n) := by rw [hf.cell hjlt hrJ, hj.cell (by omega), f2]
  have k1 : w1.cell? ⟨J, 1, none⟩ = some (.slice ao m cap) := by rw [hf.cell hjlt hrJ, j1]
  have kf : w1.frozen? ⟨J, 1, none⟩ = false := by rw [hf.frozen hjlt hrJ]; exact hj.frozen 1
  obtain ⟨va, hva⟩ := Option.isSome_iff_exists.1 hA
  have hAlt := World.block_lt_of_cell? _ _ hva
  have a1 : w1.cell? ⟨A, t, none⟩ = some va := by rw [hf.cell hAlt hrA]; exact hva
  have a2 : w1.frozen? ⟨A, t, none⟩ = false := by rw [hf.frozen hAlt hrA]; exact hAf
  have i1 := fun W => ix25 A n n t .i32 W ht
  have HO : Hid _ := And.intro ho hf
  have hr : Hid _ := hr'
  have hAJ : A ≠ J := fun e => hJA e.symm
  clear hr' ho hf hown hrA hrJ hA
  go_enter Yba.func6, Yba.ntmps6
  go_wp2_with (at_builtin; refine list_app rfl _ _ _ rfl _ _ _ _ rfl rfl hr.out ?_)
  go_region
  all_goals
    go_wp2_with fail
    go_end0
    obtain ⟨o1, o2⟩ := HO.out
    exact ⟨rfl, _, w1, o1, o2, ⟨by go_num, by go_num, by go_num, by go_num⟩⟩
end Go.Proofs.Ybulkqmo
