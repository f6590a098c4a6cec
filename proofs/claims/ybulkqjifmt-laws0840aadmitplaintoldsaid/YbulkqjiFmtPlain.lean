/-
  DERIVED. THE WALK of kvcache.LawS0840AAdmitPlain.
-/
import Derived.Test.YbulkqjiFmtPlainS
namespace Go.Proofs.YbulkqjiFmt
open Go.RowKit
set_option linter.unusedVariables false

set_option maxHeartbeats 8000000 in
set_option maxRecDepth 100000 in
theorem plain_any (x y : Int) (ao : Option Addr) (len cap : Nat) (p q z : Nat → Int) (ad : Nat → Addr) (w : World) (hx0 : 0 ≤ x) (hx1 : x ≤ 255) (hy0 : 0 ≤ y) (hy1 : y ≤ 255)
    (hz : Hid (∀ j, (0 ≤ p j ∧ p j ≤ 255) ∧ (0 ≤ q j ∧ q j ≤ 255) ∧ (0 ≤ z j ∧ z j ≤ 65535))) (hlen : len ≤ maxLen)
    (hix : Hid (∀ (j : Nat) (W : World), j < len → (Instr.indexAt 22 (.slice ao len cap) (.int .i64 (j : Int))).run Ybaf.prog W = .ok (.pointer (some (ad j))) W))
    (hcell : Hid (∀ j, j < len → w.cell? (ad j) = some (.int .u8 (p j)) ∧ w.cell? ((ad j).add 1) = some (.int .u8 (q j)) ∧ w.cell? ((ad j).add 2) = some (.int .u16 (z j)))) :
    Calls Ybaf.prog 3 #[.int .u8 x, .int .u8 y, .slice ao len cap] w fun e w' => e = .returned (.bool true) ∧ Below w.heap.size w w' := by
  unfold maxLen at hlen
  by_cases hbig : (1024 : Int) < (len : Int)
  · go_enter Ybaf.func3, Ybaf.ntmps3
    go_wp2
    go_ret
    exact ⟨rfl, Below.refl _ _⟩
  have hs : len ≤ 1024 := by omega
  clear hbig hlen
  go_enter Ybaf.func3, Ybaf.ntmps3
  go_wp2_with fail
  have hb0 : 1 ≤ x % 16 + 1 := by omega
  have hb1 : x % 16 + 1 ≤ 16 := by omega
  have ht0 : 0 ≤ y % 40 := by omega
  have ht1 : y % 40 ≤ 39 := by omega
  generalize x % 16 + 1 = bs at *
  generalize y % 40 = tot at *
  refine (new_plain w.heap.size bs tot _ hb0 hb1 ht0 (by omega)).mono ?_
  rintro e w1 ⟨rfl, rfl⟩
  have e1 : (w.alloc (.cells #[.int .i64 0, .int .i64 0] 25)).heap.size = w.heap.size + 1 := by simp
  rw [e1]
  have HC : Hid (PL w ((w.alloc (.cells #[.int .i64 0, .int .i64 0] 25)).alloc (.cells (CA w.heap.size bs tot false (.slice none 0 0) (.map none)) 65)) (w.heap.size + 1) w.heap.size 0 bs tot 0 0 (.slice none 0 0) (.slice none 0 0) 0 [] []) := by
    have hG : (w.alloc (.cells #[.int .i64 0, .int .i64 0] 25)).rowIs w.heap.size 25 2 (fun _ => .int .i64 0) := World.rowIs_alloc w #[.int .i64 0, .int .i64 0] 25 _ (fun i hi => by
      have : i = 0 ∨ i = 1 := by simp at hi; omega
      rcases this with rfl | rfl <;> rfl)
    have hCr := World.rowIs_alloc (w.alloc (.cells #[.int .i64 0, .int .i64 0] 25)) (CA w.heap.size bs tot false (.slice none 0 0) (.map none)) 65 (fun j => (CA w.heap.size bs tot false (.slice none 0 0) (.map none))[j]?.getD undef) (fun i hi => by rw [Array.getElem?_eq_getElem hi]; rfl)
    rw [e1] at hCr
    exact ⟨⟨⟨_, 0, hCr, rfl, rfl, rfl, rfl, rfl, rfl, rfl, rfl, rfl, rfl, rfl, rfl, by omega, by omega⟩, ⟨_, hG.alloc _, rfl, rfl⟩, by omega⟩, ⟨World.ownsRow_nil _ _ _ _, World.ownsRow_nil _ _ _ _, fun j T h hT => by simp at hT, by simp⟩,
      ((Below.refl _ w).alloc (Nat.le_refl _) _).alloc (by simp) _, by omega, Nat.le_refl _⟩
  generalize (w.alloc (.cells #[.int .i64 0, .int .i64 0] 25)).alloc (.cells (CA w.heap.size bs tot false (.slice none 0 0) (.map none)) 65) = w1 at HC ⊢
  clear e1
  go_wp2_with fail
  go_loopw [11, 12, 13, 14, 42] (fun tv hv us pk i wr => ∃ (k n : Nat) (used peak : Int) (ts : List Nat) (hs : List Int), k ≤ len ∧ i = .int .i64 k ∧ us = .int .i64 used ∧ pk = .int .i64 peak ∧ -199 * (k : Int) ≤ used ∧ used ≤ 199 * (k : Int) ∧ used ≤ peak ∧ n ≤ k ∧ Hid (PL w wr (w.heap.size + 1) w.heap.size k bs tot used peak tv hv n ts hs)) (fun _ _ _ _ i _ => len - (intOf i).toNat)
  case atStart => exact ⟨0, 0, 0, 0, [], [], by omega, rfl, rfl, rfl, by omega, by omega, by omega, by omega, HC⟩
  case round =>
    clear HC
    obtain ⟨k, n, used, peak, ts, hs2, hk, rfl, rfl, rfl, hu0, hu1, hup, hn, HC⟩ := hrel
    by_cases hlt : k < len
    · have hi := fun W : World => hix.out k W hlt
      obtain ⟨hc0, hc1, hc2⟩ := hcell.out k hlt
      have hc0 := (HC.out.be.cell (World.block_lt_of_cell? _ _ hc0)).trans hc0
      have hc1 := (HC.out.be.cell (World.block_lt_of_cell? _ _ hc1)).trans hc1
      have hc2 := (HC.out.be.cell (World.block_lt_of_cell? _ _ hc2)).trans hc2
      obtain ⟨⟨p0, p1⟩, ⟨q0, q1⟩, ⟨z0, z1⟩⟩ := hz.out k
      generalize p k = pk at *
      generalize q k = qk at *
      generalize z k = zk at *
      generalize ad k = adk at *
      obtain ⟨ab, aof, ap⟩ := adk
      simp [Addr.add] at hc1 hc2
      obtain ⟨tao, tcap, rfl⟩ := owns_slice HC.out.ls.t
      obtain ⟨hao, hcap, rfl⟩ := owns_slice HC.out.ls.h
      by_cases hR : pk % 2 = 1 ∧ 0 < n
      · obtain ⟨hR1, hR2⟩ := hR
        obtain ⟨j, hj, hjn⟩ : ∃ j : Nat, qk % (n : Int) = j ∧ j < n := by
          have h0 := Int.emod_nonneg qk (b := (n : Int)) (by omega)
          have h1 := Int.emod_lt_of_pos qk (b := (n : Int)) (by omega)
          exact ⟨(qk % n).toNat, by omega, by omega⟩
        obtain ⟨gt, ct, gh, ch, T, h, htv, hhv, hTs, hhs, htb, h0, h1, a1, a2, a3, n1, n2, n3⟩ := HC.out.ls.pick hjn
        cases htv
        cases hhv
        obtain ⟨p1, p2, p3, p4⟩ := HC.out.ls.apartP HC.out.pp
        have q1 : gt ≠ w.heap.size + 1 := fun e => p1 (by rw [e]; rfl)
        have q2 : gt ≠ w.heap.size := fun e => p2 (by rw [e]; rfl)
        have q3 : gh ≠ w.heap.size + 1 := fun e => p3 (by rw [e]; rfl)
        have q4 : gh ≠ w.heap.size := fun e => p4 (by rw [e]; rfl)
        have s1 : gt < wr.heap.size := World.block_lt_of_cell? _ _ a1
        have s2 : gh < wr.heap.size := World.block_lt_of_cell? _ _ a2
        have i1 := fun W => ixRun28 gt n tcap j W hjn
        have i2 := fun W => ixRun29 gh n hcap j W hjn
        have HS : Hid (∀ W : World, W = wr.alloc (.cells #[.int .u8 pk, .int .u8 qk, .int .u16 zk] 32) → Calls Ybaf.prog 6 #[.pointer (some ⟨w.heap.size + 1, 0, none⟩), .pointer (some ⟨T, 0, none⟩)] W fun e w' => e = .returned (.tuple #[]) ∧ PP w' (w.heap.size + 1) w.heap.size (k + 1) bs tot (used - h) peak ∧ TB w' T 0 ∧ Fr (fun k => k = w.heap.size + 1 ∨ k = w.heap.size ∨ k = T) W w') := by
          intro W hW
          subst hW
          have hfr : Fr (fun k => False) wr (wr.alloc (.cells #[.int .u8 pk, .int .u8 qk, .int .u16 zk] 32)) := (Fr.refl _ wr).alloc _
          exact pp_release _ _ T k bs tot used peak h _ (HC.out.pp.fr hfr (fun h => h) (fun h => h)) (htb.fr hfr (fun h => h)) (by omega) (by omega) h0 h1 (by omega)
        clear p1 p2 p3 p4
        go_wp2_with fail
        refine (HS.out _ rfl).mono ?_
        rintro e w2 ⟨rfl, hP, hT0, hf⟩
        have hf' : Fr (fun k => k = w.heap.size + 1 ∨ k = w.heap.size ∨ k = T) wr w2 := ((Fr.refl _ wr).alloc _).trans hf
        have a1' : w2.cell? ⟨gt, j, none⟩ = some (ptr T) := by rw [hf'.cell s1 (by omega)]; exact a1
        have a2' : w2.cell? ⟨gh, j, none⟩ = some (.int .i64 h) := by rw [hf'.cell s2 (by omega)]; exact a2
        have a3' : w2.frozen? ⟨gh, j, none⟩ = false := by rw [hf'.frozen s2 (by omega)]; exact a3
        have t4 := hT0.cell.1
        have HC2 : Hid (PL w (w2.setCell ⟨gh, j, none⟩ (.int .i64 0)) (w.heap.size + 1) w.heap.size (k + 1) bs tot (used - h) peak (.slice (some ⟨gt, 0, none⟩) n tcap) (.slice (some ⟨gh, 0, none⟩) n hcap) n ts (hs2.set j 0)) := pl_release HC.out hjn hTs hP hT0 hf'
        have u2 := HC2.out.pp.cells.1
        clear hP hT0 hf hf' HS HC hi a1 a2 a3 htb
        go_wp2_with (go_at_call 7; refine (used_any _ _ _ u2).mono ?_; rintro e w' ⟨rfl, rfl⟩)
        go_roundw
        case rel => exact ⟨k + 1, _, used - h, peak, ts, _, by omega, by go_num, rfl, rfl, by omega, by omega, by omega, by omega, HC2⟩
        case measure => simp [intOf]; omega
      · have hB : pk % 2 = 0 ∨ (pk % 2 = 1 ∧ n = 0) := by omega
        clear hR
        obtain ⟨m, hm, m1⟩ := need_bd (zk % 200) bs hb0 (by omega) (by omega)
        have HS : Hid (∀ W : World, W = (wr.alloc (.cells #[.int .u8 pk, .int .u8 qk, .int .u16 zk] 32)).alloc Tbl → Calls Ybaf.prog 8 #[.pointer (some ⟨w.heap.size + 1, 0, none⟩), .pointer (some ⟨wr.heap.size + 1, 0, none⟩), .agg #[.slice none 0 0, .slice none 0 0, .int .i64 0], .int .i64 (zk % 200)] W fun e w' =>
            ((tot = 0 ∨ (m : Int) ≤ tot - used) ∧ e = .returned (.tuple #[.bool true, .nilIface]) ∧ PL w w' (w.heap.size + 1) w.heap.size k bs tot (used + m) (max peak (used + m)) (.slice tao n tcap) (.slice hao n hcap) n ts hs2 ∧ TB w' (wr.heap.size + 1) m ∧ wr.heap.size + 1 ∉ ts) ∨
            (¬ (tot = 0 ∨ (m : Int) ≤ tot - used) ∧ e = .returned (.tuple #[.bool false, .nilIface]) ∧ PL w w' (w.heap.size + 1) w.heap.size k bs tot used peak (.slice tao n tcap) (.slice hao n hcap) n ts hs2 ∧ TB w' (wr.heap.size + 1) 0)) := by
          intro W hW
          subst hW
          exact pl_admit HC.out _ hb0 hb1 (by omega) (by omega) hm m1 ht0 (by omega) (by omega) (by omega) hup
        have hbw : w.heap.size ≤ wr.heap.size := HC.out.be.size
        rcases hB with hB | ⟨hB, rfl⟩
        all_goals
          go_wp2_with fail
          refine (HS.out _ rfl).mono ?_
          intro e w2 hP
          rcases hP with ⟨hroom, rfl, hpl, htb, hTn⟩ | ⟨hno, rfl, hpl, htb⟩
          · have HP : Hid _ := pl_push hpl htb hTn (by omega) m1 (by omega)
            have hpk : (peak < used + m ∧ Hid (max peak (used + m) = used + m)) ∨ (used + m ≤ peak ∧ Hid (max peak (used + m) = peak)) := by
              by_cases h : peak < used + m
              · exact Or.inl ⟨h, by show max peak (used + m) = used + m; omega⟩
              · exact Or.inr ⟨by omega, by show max peak (used + m) = peak; omega⟩
            clear hpl htb HS HC hi
            by_cases htz : tot = 0
            · subst htz
              clear hroom
              rcases hpk with ⟨hp, hmx⟩ | ⟨hp, hmx⟩
              all_goals
                rw [hmx.out] at HP
                obtain ⟨v1, w3, hr1', HP2⟩ := HP.out _ (Sm.refl _)
                obtain ⟨v2, w4, hr2', hpl2, htb2⟩ := HP2 _ (Sm.refl _)
                have hr1 : Hid _ := hr1'
                have hr2 : Hid _ := hr2'
                have u2 := hpl2.pp.cells.1
                have a4 := htb2.cell.1
                have HC2 : Hid _ := hpl2.up
                clear hr1' hr2' HP HP2 hpl2 htb2
                go_wp2_with (first | (at_builtin; refine list_app rfl _ _ _ rfl _ _ _ _ rfl rfl hr1.out ?_) | (at_builtin; refine list_app rfl _ _ _ rfl _ _ _ _ rfl rfl hr2.out ?_) | (go_at_call 7; refine (used_any _ _ _ u2).mono ?_; rintro e w' ⟨rfl, rfl⟩))
                go_roundw
                case rel => exact ⟨k + 1, _, used + m, _, _, _, by omega, by go_num, rfl, rfl, by omega, by omega, by omega, by omega, HC2⟩
                case measure => simp [intOf]; omega
            · have hr1 : (m : Int) ≤ tot - used := by omega
              have hz1 : (tot == 0) = false := by simp [htz]
              clear hroom htz
              rcases hpk with ⟨hp, hmx⟩ | ⟨hp, hmx⟩
              all_goals
                rw [hmx.out] at HP
                obtain ⟨v1, w3, hq1', HP2⟩ := HP.out _ (Sm.refl _)
                obtain ⟨v2, w4, hq2', hpl2, htb2⟩ := HP2 _ (Sm.refl _)
                have hq1 : Hid _ := hq1'
                have hq2 : Hid _ := hq2'
                have u2 := hpl2.pp.cells.1
                have a4 := htb2.cell.1
                have HC2 : Hid _ := hpl2.up
                clear hq1' hq2' HP HP2 hpl2 htb2
                go_wp2_with (first | (at_builtin; refine list_app rfl _ _ _ rfl _ _ _ _ rfl rfl hq1.out ?_) | (at_builtin; refine list_app rfl _ _ _ rfl _ _ _ _ rfl rfl hq2.out ?_) | (go_at_call 7; refine (used_any _ _ _ u2).mono ?_; rintro e w' ⟨rfl, rfl⟩))
                go_roundw
                case rel => exact ⟨k + 1, _, used + m, _, _, _, by omega, by go_num, rfl, rfl, by omega, by omega, by omega, by omega, HC2⟩
                case measure => simp [intOf]; omega
          · have u2 := hpl.pp.cells.1
            have a4 := htb.cell.1
            have HC2 : Hid (PL w w2 (w.heap.size + 1) w.heap.size (k + 1) bs tot used peak (.slice tao _ tcap) (.slice hao _ hcap) _ ts hs2) := hpl.up
            have hr1 : ¬ (m : Int) ≤ tot - used := fun h => hno (Or.inr h)
            have hz1 : (tot == 0) = false := by simp; exact fun h => hno (Or.inl h)
            have hd1 : decide ((m : Int) ≤ tot - used) = false := by simpa using hr1
            clear hpl htb HS HC hi hno
            go_wp2_with (go_at_call 7; refine (used_any _ _ _ u2).mono ?_; rintro e w' ⟨rfl, rfl⟩)
            go_roundw
            case rel => exact ⟨k + 1, _, used, peak, ts, hs2, by omega, by go_num, rfl, rfl, by omega, by omega, by omega, by omega, HC2⟩
            case measure => simp [intOf]; omega
    · have hbel := HC.out.be
      obtain ⟨u2, g0, g1, _⟩ := HC.out.pp.cells
      go_wp2_with (go_at_call 7; refine (used_any _ _ _ u2).mono ?_; rintro e w' ⟨rfl, rfl⟩)
      go_ret
      exact ⟨rfl, hbel⟩
end Go.Proofs.YbulkqjiFmt
