/-
  DERIVED. THE WALK of kvcache.LawS0840AAdmitCaching.
-/
import Derived.Test.YbulkqjiFmtNew
namespace Go.Proofs.YbulkqjiFmt
open Go.RowKit
set_option linter.unusedVariables false

theorem PS.keep {w w' : World} {C G E base : Nat} {bs tot used peak : Int} {n : Nat} (H : PS w C G E base bs tot used peak n) (hw : ∀ k, k < w.heap.size → w'.heap[k]? = w.heap[k]?) : PS w' C G E base bs tot used peak n := by
  obtain ⟨⟨f, v, xs, fr, hC, f0, f1, f2, f3, f4, f5, f6, f17, f22, f23, f24, hfl, hv⟩, ⟨g', hG, g0, g1⟩, hgap⟩ := H
  have h0 : 0 < w.heap.size := by have := hC.lt; omega
  refine ⟨⟨f, v, xs, fr, hC.of_block (hw C hC.lt), f0, f1, f2, f3, f4, f5, f6, f17, f22, f23, f24, hfl.mono rfl rfl rfl (fun h g hg => hg.of_block (hw E hg.lt)), ?_⟩, ⟨g', hG.of_block (hw G hG.lt), g0, g1⟩, ?_⟩
  · refine owns_block hv fun gg hgg => ?_
    rcases hv.2 with ⟨rfl, _⟩ | ⟨g2, cp, cur, rfl, hb, hg, _⟩
    · simp [Value.ownBlock] at hgg
    · simp only [Value.ownBlock, Option.some.injEq] at hgg
      subst hgg
      exact hw g2 (Array.getElem?_eq_some_iff.1 hg).1
  · rw [show w'.cell? ⟨0, 0, none⟩ = w.cell? ⟨0, 0, none⟩ by simp only [World.cell?, hw 0 h0]]
    exact hgap

/-- A new table. -/
abbrev Tbl : Obj := .cells #[.int .i64 0, .int .i64 0, .int .i64 0, .slice none 0 0, .int .i64 0, .slice none 0 0, .int .i64 0, .slice none 0 0, .int .i64 0] 40
theorem tbl_row (w : World) : (w.alloc Tbl).rowIs w.heap.size 40 9 T0 := World.rowIs_alloc w _ 40 _ (fun i hi => by
  have : i = 0 ∨ i = 1 ∨ i = 2 ∨ i = 3 ∨ i = 4 ∨ i = 5 ∨ i = 6 ∨ i = 7 ∨ i = 8 := by simp at hi; omega
  rcases this with rfl | rfl | rfl | rfl | rfl | rfl | rfl | rfl | rfl <;> rfl)

/-- The loop's state. -/
def CR (w wr : World) (C G E base : Nat) (bs tot peak : Int) (n : Nat) : Prop := PS wr C G E base bs tot n peak n ∧ Lay0 wr C G E base w.heap.size tot ∧ Below w.heap.size w wr

theorem need_bd (tok bs : Int) (b0 : 1 ≤ bs) (k0 : 0 ≤ tok) (k1 : tok ≤ 199) : ∃ m : Nat, (tok + bs - 1) / bs = m ∧ (m : Int) ≤ 199 := by
  have h0 : 0 ≤ (tok + bs - 1) / bs := Int.ediv_nonneg (by omega) (by omega)
  have h1 : (tok + bs - 1) / bs ≤ 199 := by
    have : (tok + bs - 1) / bs < 200 := Int.ediv_lt_of_lt_mul (by omega) (by have : bs * 1 ≤ bs * 199 := Int.mul_le_mul_of_nonneg_left (by omega) (by omega); omega)
    omega
  exact ⟨((tok + bs - 1) / bs).toNat, by omega, by omega⟩

/-- One admission, at the loop's state. -/
theorem cr_step {w wr : World} {C G E base : Nat} {bs tot peak tok : Int} {n m : Nat} (H : CR w wr C G E base bs tot peak n) (b0 : 1 ≤ bs) (b1 : bs ≤ 16) (k0 : 0 ≤ tok) (k1 : tok ≤ 199) (hm : (tok + bs - 1) / bs = m) (m1 : (m : Int) ≤ 199) (t0 : 0 ≤ tot) (t1 : tot ≤ 1000) (hn : n ≤ 900000) (hup : (n : Int) ≤ peak) :
    Calls Ybaf.prog 8 #[.pointer (some ⟨C, 0, none⟩), .pointer (some ⟨wr.heap.size, 0, none⟩), .agg #[.slice none 0 0, .slice none 0 0, .int .i64 0], .int .i64 tok] (wr.alloc Tbl) fun e w' =>
      ((tot = 0 ∨ (m : Int) ≤ tot - n) ∧ e = .returned (.tuple #[.bool true, .nilIface]) ∧ CR w w' C G E base bs tot (max peak (n + m)) (n + m) ∧ ∃ ao cap, w'.cell? ⟨wr.heap.size, 4, none⟩ = some (.int .i64 m) ∧ w'.cell? ⟨wr.heap.size, 5, none⟩ = some (.slice ao m cap) ∧ w'.cell? ⟨wr.heap.size, 6, none⟩ = some (.int .i64 0)) ∨
      (¬ (tot = 0 ∨ (m : Int) ≤ tot - n) ∧ e = .returned (.tuple #[.bool false, .nilIface]) ∧ CR w w' C G E base bs tot peak n ∧ ∃ ao cap, w'.cell? ⟨wr.heap.size, 4, none⟩ = some (.int .i64 0) ∧ w'.cell? ⟨wr.heap.size, 5, none⟩ = some (.slice ao 0 cap) ∧ w'.cell? ⟨wr.heap.size, 6, none⟩ = some (.int .i64 0)) := by
  obtain ⟨hps, L, hbel⟩ := H
  have hps1 : PS (wr.alloc Tbl) C G E base bs tot n peak n := hps.keep fun k hk => Go.Deep.blk_alloc_lt _ _ _ hk
  have L1 : Lay0 (wr.alloc Tbl) C G E base w.heap.size tot := ⟨L.b0, L.bc, L.bg, L.cb, L.gb, L.cg, L.e, by have := L.bw; simp; omega⟩
  have hb1 : Below w.heap.size w (wr.alloc Tbl) := hbel.alloc hbel.size _
  by_cases hr : tot = 0 ∨ (m : Int) ≤ tot - n
  · refine (admit_c_ok C G E wr.heap.size base w.heap.size n m bs tot n peak tok _ L1 hps1 (tbl_row wr) L.bw b0 b1 k0 k1 hm (by omega) t0 t1 (by omega) (by omega) (by omega) hup hr).mono ?_
    rintro e w' ⟨he, hp, ⟨ao, cap, a4, a5, a6⟩, hb⟩
    exact Or.inl ⟨hr, he, ⟨by rw [Int.natCast_add]; exact hp, ⟨L.b0, L.bc, L.bg, L.cb, L.gb, L.cg, L.e, by have := L1.bw; have := hb.size; omega⟩, hb1.trans hb⟩, ao, cap, a4, a5, a6⟩
  · refine (admit_c_no C G E wr.heap.size base w.heap.size n m bs tot n peak tok _ L1 hps1 (tbl_row wr) L.bw b0 b1 k0 k1 hm (by omega) (by omega) t1 (by omega) (by omega) (fun h => hr (Or.inr h))).mono ?_
    rintro e w' ⟨he, hp, ⟨ao, cap, a4, a5, a6⟩, hb⟩
    exact Or.inr ⟨hr, he, ⟨hp, ⟨L.b0, L.bc, L.bg, L.cb, L.gb, L.cg, L.e, by have := L1.bw; have := hb.size; omega⟩, hb1.trans hb⟩, ao, cap, a4, a5, a6⟩

theorem cr_used {w wr : World} {C G E base : Nat} {bs tot peak : Int} {n : Nat} (H : CR w wr C G E base bs tot peak n) : wr.cell? ⟨C, 2, none⟩ = some (.int .i64 n) ∧ wr.cell? ⟨G, 0, none⟩ = some (.int .i64 n) ∧ wr.cell? ⟨G, 1, none⟩ = some (.int .i64 peak) := by
  obtain ⟨⟨⟨f, v, xs, fr, hC, f0, f1, f2, _⟩, ⟨g', hG, g0, g1⟩, hgap⟩, _, _⟩ := H
  have a := hC.cell (i := 2) (by omega); rw [f2] at a
  have b := hG.cell (i := 0) (by omega); rw [g0] at b
  have c := hG.cell (i := 1) (by omega); rw [g1] at c
  exact ⟨a, b, c⟩

set_option maxHeartbeats 1000000 in
set_option maxRecDepth 100000 in
theorem caching_any (x y : Int) (ao : Option Addr) (len cap : Nat) (z : Nat → Int) (ad : Nat → Addr) (w : World) (hx0 : 0 ≤ x) (hx1 : x ≤ 255) (hy0 : 0 ≤ y) (hy1 : y ≤ 255) (hz : Hid (∀ j, 0 ≤ z j ∧ z j ≤ 65535)) (hlen : len ≤ maxLen)
    (hgap : w.cell? ⟨0, 0, none⟩ = some (.int .i32 (-1)))
    (hix : Hid (∀ (j : Nat) (W : World), j < len → (Instr.indexAt 49 (.slice ao len cap) (.int .i64 (j : Int))).run Ybaf.prog W = .ok (.pointer (some (ad j))) W))
    (hcell : Hid (∀ j, j < len → w.cell? (ad j) = some (.int .u16 (z j)))) :
    Calls Ybaf.prog 4 #[.int .u8 x, .int .u8 y, .slice ao len cap] w fun e w' => e = .returned (.bool true) ∧ Below w.heap.size w w' := by
  unfold maxLen at hlen
  by_cases hbig : (1024 : Int) < (len : Int)
  · go_enter Ybaf.func4, Ybaf.ntmps4
    go_wp2
    go_ret
    exact ⟨rfl, Below.refl _ _⟩
  have hs : len ≤ 1024 := by omega
  have hw0 : 0 < w.heap.size := World.block_lt_of_cell? _ _ hgap
  clear hbig hlen
  go_enter Ybaf.func4, Ybaf.ntmps4
  go_wp2_with fail
  have hb0 : 1 ≤ x % 16 + 1 := by omega
  have hb1 : x % 16 + 1 ≤ 16 := by omega
  have ht0 : 0 ≤ y % 40 := by omega
  have ht1 : y % 40 ≤ 39 := by omega
  generalize x % 16 + 1 = bs at *
  generalize y % 40 = tot at *
  refine (new_c w.heap.size w.heap.size bs tot _ hb0 hb1 ht0 (by omega) ?_ hw0 (Nat.le_refl _) ?_).mono ?_
  · exact World.rowIs_alloc w #[.int .i64 0, .int .i64 0] 25 _ (fun i hi => by
      have : i = 0 ∨ i = 1 := by simp at hi; omega
      rcases this with rfl | rfl <;> rfl)
  · rw [World.cell?_alloc_past _ _ _ hw0]; exact hgap
  rintro e w1 ⟨rfl, E, hps, hlay, hbel⟩
  have e1 : (w.alloc (.cells #[.int .i64 0, .int .i64 0] 25)).heap.size = w.heap.size + 1 := by simp
  rw [e1] at hps hlay ⊢
  have HC : Hid (CR w w1 (w.heap.size + 1) w.heap.size E w1.heap.size bs tot 0 0) := ⟨hps, hlay, ((Below.refl _ w).alloc (Nat.le_refl _) _).trans hbel⟩
  clear hps hlay hbel e1 hgap
  generalize w1.heap.size = base at HC
  go_wp2_with fail
  go_loopw [11, 12, 39] (fun us pk i wr => ∃ (k n : Nat) (peak : Int), k ≤ len ∧ i = .int .i64 k ∧ us = .int .i64 n ∧ pk = .int .i64 peak ∧ n ≤ 199 * k ∧ (n : Int) ≤ peak ∧ Hid (CR w wr (w.heap.size + 1) w.heap.size E base bs tot peak n)) (fun _ _ i _ => len - (intOf i).toNat)
  case atStart => exact ⟨0, 0, 0, by omega, rfl, rfl, rfl, by omega, by omega, HC.out⟩
  case round =>
    clear HC
    obtain ⟨k, n, peak, hk, rfl, rfl, rfl, hn, hup, HC⟩ := hrel
    by_cases hlt : k < len
    · have hi := fun W : World => hix.out k W hlt
      have hc : wr.cell? (ad k) = some (.int .u16 (z k)) := (HC.out.2.2.cell (World.block_lt_of_cell? _ _ (hcell.out k hlt))).trans (hcell.out k hlt)
      obtain ⟨z0, z1⟩ := hz.out k
      generalize z k = zk at *
      generalize ad k = adk at *
      obtain ⟨m, hm, m1⟩ := need_bd (zk % 200) bs hb0 (by omega) (by omega)
      have HS : Hid (∀ W : World, W = wr.alloc Tbl → Calls Ybaf.prog 8 #[.pointer (some ⟨w.heap.size + 1, 0, none⟩), .pointer (some ⟨wr.heap.size, 0, none⟩), .agg #[.slice none 0 0, .slice none 0 0, .int .i64 0], .int .i64 (zk % 200)] W fun e w' =>
          ((tot = 0 ∨ (m : Int) ≤ tot - n) ∧ e = .returned (.tuple #[.bool true, .nilIface]) ∧ CR w w' (w.heap.size + 1) w.heap.size E base bs tot (max peak (n + m)) (n + m) ∧ ∃ ao cap, w'.cell? ⟨wr.heap.size, 4, none⟩ = some (.int .i64 m) ∧ w'.cell? ⟨wr.heap.size, 5, none⟩ = some (.slice ao m cap) ∧ w'.cell? ⟨wr.heap.size, 6, none⟩ = some (.int .i64 0)) ∨
          (¬ (tot = 0 ∨ (m : Int) ≤ tot - n) ∧ e = .returned (.tuple #[.bool false, .nilIface]) ∧ CR w w' (w.heap.size + 1) w.heap.size E base bs tot peak n ∧ ∃ ao cap, w'.cell? ⟨wr.heap.size, 4, none⟩ = some (.int .i64 0) ∧ w'.cell? ⟨wr.heap.size, 5, none⟩ = some (.slice ao 0 cap) ∧ w'.cell? ⟨wr.heap.size, 6, none⟩ = some (.int .i64 0))) := by
        intro W hW
        subst hW
        exact cr_step HC.out hb0 hb1 (by omega) (by omega) hm m1 ht0 (by omega) (by omega) hup
      go_wp2_with fail
      refine (HS.out _ rfl).mono ?_
      intro e w2 hP
      rcases hP with ⟨hroom, rfl, hcr, ao2, cap2, a4, a5, a6⟩ | ⟨hno, rfl, hcr, ao2, cap2, a4, a5, a6⟩
      · obtain ⟨u2, _, _⟩ := cr_used hcr
        rw [Int.natCast_add] at u2
        have HC2 : Hid (CR w w2 (w.heap.size + 1) w.heap.size E base bs tot (max peak (n + m)) (n + m)) := hcr
        clear hcr HS HC hc hi
        have hpk : (peak < (n : Int) + m ∧ Hid (max peak ((n : Int) + m) = n + m)) ∨ ((n : Int) + m ≤ peak ∧ Hid (max peak ((n : Int) + m) = peak)) := by
          by_cases h : peak < (n : Int) + m
          · exact Or.inl ⟨h, by show max peak ((n : Int) + m) = n + m; omega⟩
          · exact Or.inr ⟨by omega, by show max peak ((n : Int) + m) = peak; omega⟩
        by_cases htz : tot = 0
        · subst htz
          clear hroom
          rcases hpk with ⟨hp, hmx⟩ | ⟨hp, hmx⟩
          all_goals
            rw [hmx.out] at HC2
            go_wp2_with (go_at_call 7; refine (used_any _ _ _ u2).mono ?_; rintro e w' ⟨rfl, rfl⟩)
            go_roundw
            case rel => exact ⟨k + 1, n + m, _, by omega, by go_num, by go_num, rfl, by omega, by omega, HC2.out⟩
            case measure => simp [intOf]; omega
        · have hr1 : (m : Int) ≤ tot - n := by omega
          have hz1 : (tot == 0) = false := by simp [htz]
          clear hroom htz
          rcases hpk with ⟨hp, hmx⟩ | ⟨hp, hmx⟩
          all_goals
            rw [hmx.out] at HC2
            go_wp2_with (go_at_call 7; refine (used_any _ _ _ u2).mono ?_; rintro e w' ⟨rfl, rfl⟩)
            go_roundw
            case rel => exact ⟨k + 1, n + m, _, by omega, by go_num, by go_num, rfl, by omega, by omega, HC2.out⟩
            case measure => simp [intOf]; omega
      · obtain ⟨u2, _, _⟩ := cr_used hcr
        have HC2 : Hid (CR w w2 (w.heap.size + 1) w.heap.size E base bs tot peak n) := hcr
        have hr1 : ¬ (m : Int) ≤ tot - n := fun h => hno (Or.inr h)
        have hz1 : (tot == 0) = false := by simp; exact fun h => hno (Or.inl h)
        have hd1 : decide ((m : Int) ≤ tot - n) = false := by simpa using hr1
        clear hcr HS HC hc hi hno
        go_wp2_with (go_at_call 7; refine (used_any _ _ _ u2).mono ?_; rintro e w' ⟨rfl, rfl⟩)
        go_roundw
        case rel => exact ⟨k + 1, n, peak, by omega, by go_num, rfl, rfl, by omega, by omega, HC2.out⟩
        case measure => simp [intOf]; omega
    · obtain ⟨u2, g0, g1⟩ := cr_used HC.out
      have hbel := HC.out.2.2
      go_wp2_with fail
      go_ret
      exact ⟨rfl, hbel⟩
end Go.Proofs.YbulkqjiFmt
