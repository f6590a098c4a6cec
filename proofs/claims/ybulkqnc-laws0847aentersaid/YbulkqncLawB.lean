/-
  DERIVED. THE WALK of cli.LawS0847AEnter, no subcommands (nil), with New.
-/
import Derived.Test.YbulkqncFin
import Derived.Deep.CutRange
import Derived.BigQuiet
import Derived.Laws.EntriesVeiled
namespace Go.Proofs.Ybulkqnc
open Go.RowKit
set_option linter.unusedVariables false

set_option maxHeartbeats 8000000 in
set_option maxRecDepth 100000 in
theorem law_nt (pa la : Option Addr) (np pcp : Nat) (x : Int) (sa : Unit) (ns sc nl lc : Nat) (pd sd nd : Nat → Addr) (pn sn nm : Nat → ByteArray) (w : World) (hx0 : 0 ≤ x) (hx1 : x ≤ 255) (hnp : np ≤ 1024) (hns : ns ≤ 1024) (hnl : nl ≤ 1024)
    (hixp : Hid (∀ (j : Nat) (W : World), j < np → (Instr.indexAt 22 (.slice pa np pcp) (.int .i64 (j : Int))).run Yba.prog W = .ok (.pointer (some (pd j))) W)) (hcp : Hid (∀ j, j < np → w.cell? (pd j) = some (.string (pn j))))
    (hixs : Hid (∀ (j : Nat) (W : World), j < ns → (Instr.indexAt 22 (.slice none 0 0) (.int .i64 (j : Int))).run Yba.prog W = .ok (.pointer (some (sd j))) W)) (hcs : Hid (∀ j, j < ns → w.cell? (sd j) = some (.string (sn j))))
    (hixl : Hid (∀ (j : Nat) (W : World), j < nl → (Instr.indexAt 22 (.slice la nl lc) (.int .i64 (j : Int))).run Yba.prog W = .ok (.pointer (some (nd j))) W)) (hcl : Hid (∀ j, j < nl → w.cell? (nd j) = some (.string (nm j)))) :
    Calls Yba.prog 3 #[.slice pa np pcp, .int .u8 x, .slice none 0 0, .bool true, .slice la nl lc] w fun e w' => e = .returned (.bool true) ∧ Below w.heap.size w w' := by
  have h1b : decide ((1024 : Int) < (np : Int)) = false := by simp; omega
  have h2b : decide ((1024 : Int) < (0 : Int)) = false := by simp
  have h3b : decide ((1024 : Int) < (nl : Int)) = false := by simp; omega
  obtain ⟨n, hn8, hn7⟩ : ∃ n : Nat, x % 8 = n ∧ n ≤ 7 := ⟨(x % 8).toNat, by omega, by omega⟩
  have mk0 : ∀ W, (Instr.makeSlice 23 (.int .i64 0) (.int .i64 (n : Int))).run Yba.prog W = .ok (.slice (some ⟨W.heap.size, 0, none⟩) 0 n) (W.alloc (.cells (madeCells #[.pointer none] n) 24)) := by
    intro W
    obtain ⟨i0, hi, hzz⟩ := Option.map_eq_some_iff.1 info24
    simp only [Prod.mk.injEq] at hzz
    obtain ⟨hz', hs, hb⟩ := hzz
    have := run_make (P := Yba.prog) W 23 24 i0 (.pointer none) Yba.underlying23 hi hz' .i64 .i64 0 (n : Int) (by omega) (by omega) (by rw [hb]; omega) (by omega)
    rw [hs] at this
    simpa [Value.cells] using this
  have mkP : ∀ W, (Instr.makeSlice 23 (.int .i64 (n : Int)) (.int .i64 (n : Int))).run Yba.prog W = .ok (.slice (some ⟨W.heap.size, 0, none⟩) n n) (W.alloc (.cells (madeCells #[.pointer none] n) 24)) := fun W => run_make_row' 23 24 _ 8 Yba.underlying23 info24 rfl .i64 .i64 n (by omega) (by omega) W
  have mkF : ∀ W, (Instr.makeSlice 29 (.int .i64 (np : Int)) (.int .i64 (np : Int))).run Yba.prog W = .ok (.slice (some ⟨W.heap.size, 0, none⟩) np np) (W.alloc (.cells (madeCells #[.pointer none] np) 30)) := fun W => run_make_row' 29 30 _ 8 Yba.underlying29 info30 rfl .i64 .i64 np (by omega) (by omega) W
  go_enter Yba.func3, Yba.ntmps3
  go_wp2_with fail
  clear hn8
  go_loopw [12, 13] (fun pv iv wr => ∃ (i : Nat) (ps : List (Option Addr)), i ≤ n ∧ iv = .int .i64 i ∧ Hid (A1 w i pv ps wr)) (fun _ iv _ => n - (intOf iv).toNat)
  case atStart => exact ⟨0, [], by omega, rfl, A1.start w n (by omega)⟩
  case round =>
    clear mk0
    obtain ⟨i, ps, hi, rfl, HA⟩ := hrel
    obtain ⟨qa, qc, rfl⟩ := owns_slice HA.out.o
    by_cases hlt : i < n
    · obtain ⟨pv', w1, hr', ha⟩ := HA.out.push (by omega) #[112]
      obtain ⟨qa1, qc1, rfl⟩ := owns_slice ha.o
      have hr : Hid _ := hr'
      have HA1 : Hid _ := ha
      clear hr' ha HA
      go_wp2_with (at_builtin; refine list_app rfl _ _ _ rfl _ _ _ _ rfl rfl hr.out ?_)
      go_roundw
      case rel => exact ⟨i + 1, _, by omega, by go_num, HA1⟩
      case measure => simp [intOf]; omega
    · obtain rfl : i = n := by omega
      obtain ⟨w1, hc1', ha2⟩ := HA.out.copy
      have HA2 : Hid _ := ha2 np
      clear ha2 HA
      go_wp2_with fail
      clear hc1'
      generalize hPC : wr.heap.size = PC at *
      generalize hOF : w1.heap.size = OF at *
      go_loopw [16] (fun iv wq => ∃ (j : Nat) (fs : Nat → Option Addr), j ≤ np ∧ iv = .int .i64 j ∧ Hid (A2 w i np (.slice qa i qc) ps PC OF fs wq)) (fun iv _ => np - (intOf iv).toNat)
      case atStart => exact ⟨0, _, by omega, rfl, HA2⟩
      case round =>
        clear HA2 hOF hPC
        obtain ⟨j, fs, hj, rfl, HA2⟩ := hrel
        by_cases hjl : j < np
        · have i22 := fun W => hixp.out j W hjl
          have c22 : wr.cell? (pd j) = some (.string (pn j)) := by
            have h0 := hcp.out j hjl
            have hb := World.block_lt_of_cell? _ _ h0
            rw [← h0]
            simp only [World.cell?, HA2.out.fr.block _ hb (by omega)]
          have i29 := fun W => ix29 OF np np j W hjl
          have cO := HA2.out.of.cell hjl
          have fO := HA2.out.of.frozen j
          have hOl := HA2.out.of.lt
          have HN : Hid _ := HA2.out.step j (.cells (FlagC (pn j)) 34)
          clear HA2
          go_wp2_with fail
          go_roundw
          case rel => exact ⟨j + 1, _, by omega, by go_num, HN⟩
          case measure => simp [intOf]; omega
        · obtain rfl : j = np := by omega
          obtain ⟨w2, hc2', hg2⟩ := HA2.out.copy hnp
          have HG : Hid _ := hg2 (.cells (CmdC #[115, 116, 97, 108, 101] (.slice none 0 0) .nilFunc) 28)
          clear hg2 HA2
          have q22 := neq22n
          go_upto_region 21 with fail
          generalize hX : ((w2.alloc (.cells #[.slice none 0 0, .slice none 0 0] 38)).alloc (.cells (CmdC #[115, 116, 97, 108, 101] (.slice none 0 0) .nilFunc) 28)).alloc (.cells (PaC (.slice qa i qc) (w2.heap.size + 1) w2.heap.size OF j) 45) = X at HG ⊢
          clear hX hc2'
          generalize wr.heap.size = FC at *
          generalize w2.heap.size + 1 + 1 = PA at *
          generalize w2.heap.size + 1 = ST at *
          generalize w2.heap.size = FS at *
          clear mkP mkF
          have HGY : Hid (G w i j (.slice qa i qc) ps PC OF FC FS PA fs (fun q => (PaC (.slice qa i qc) ST FS OF j)[q]?.getD undef) X) := HG.out
          clear HG
          have HE : Hid (Calls Yba.prog 5 #[ptr PA, ptr (X.heap.size + 1 + 1 + 1)] (Made X (.slice la nl lc) (.slice none 0 0) (.func (.func 4) #[] #[ptr (X.heap.size + 1 + 1), ptr (X.heap.size + 1)])) fun e w' => e = .returned (.tuple #[]) ∧ ∃ SE pv' flv' fv gs, QN w i j nl pv' flv' fv (.slice la nl lc) ps PC FC FS PA (X.heap.size + 1 + 1 + 1) X.heap.size (X.heap.size + 1) (X.heap.size + 1 + 1) SE fs (fun q => if q = 1 then pv' else if q = 2 then (.slice none 0 0) else if q = 3 then .iface 46 (ptr X.heap.size) else if q = 4 then ptr SE else if q = 6 then flv' else (fun q => (PaC (.slice qa i qc) ST FS OF j)[q]?.getD undef) q) nm gs w') := by
            obtain ⟨g1, l1, l2, l3, l4, l5⟩ := HGY.out.made (.slice la nl lc) (.slice none 0 0) (.func (.func 4) #[] #[ptr (X.heap.size + 1 + 1), ptr (X.heap.size + 1)])
            refine (enter_new PA _ (X.heap.size + 1 + 1) (X.heap.size + 1) X.heap.size w.heap.size i j nl (.slice qa i qc) (.slice (some ⟨OF, 0, none⟩) j j) none la 0 0 lc _ _ _ _ nm nd _ g1.pa rfl rfl l4 rfl rfl l3 l2 l1 g1.a.o (g1.flown hnp) (by omega) hnp hnl g1.a.fr.size hixl (fun q hq => ?_) g1.bp (by omega) (by omega)).mono ?_
            · have h0 := hcl.out q hq
              have hb := World.block_lt_of_cell? _ _ h0
              refine ⟨?_, hb⟩
              rw [← h0]
              simp only [World.cell?, g1.a.fr.block _ hb (by omega)]
            · rintro e w' ⟨he, SE, pv', flv', fv, gs, E⟩
              exact ⟨he, SE, pv', flv', fv, gs, fin_new hnp g1 l2 (by omega) l1 (by omega) l3 E⟩
          clear HGY
          have hmf : ∀ (fn : Fn) (first cap : Array Value) (w : World), (Instr.makeFunc fn first cap).run Yba.prog w = .ok (.func fn first cap) w := fun _ _ _ _ => rfl
          go_wp2_with fail
          refine HE.out.mono ?_
          rintro e w5 ⟨rfl, SE, pv', flv', fv, gs, hq⟩
          generalize X.heap.size + 1 + 1 + 1 = C at *
          generalize X.heap.size + 1 + 1 = NW at *
          generalize X.heap.size + 1 = LV at *
          generalize X.heap.size = LF at *
          clear HE
          obtain ⟨g, gc, rfl, hlast, hpath⟩ := hq.q.path
          obtain ⟨fa, fc, rfl⟩ := owns_slice hq.q.fl
          obtain ⟨va, vc, rfl⟩ := owns_slice hq.sf
          have HQ : Hid (QN w i j nl (.slice (some ⟨g, 0, none⟩) (i + 1) gc) (.slice fa (j + nl) fc) (.slice va nl vc) (.slice la nl lc) ps PC FC FS PA C LF LV NW SE fs (fun q => if q = 1 then .slice (some ⟨g, 0, none⟩) (i + 1) gc else if q = 2 then (.slice none 0 0) else if q = 3 then .iface 46 (ptr LF) else if q = 4 then ptr SE else if q = 6 then .slice fa (j + nl) fc else (fun q => (PaC (.slice qa i qc) ST FS OF j)[q]?.getD undef) q) nm gs w5) := hq
          have p1 : w5.cell? ⟨PA, 1, none⟩ = some (.slice (some ⟨g, 0, none⟩) (i + 1) gc) := hq.q.p.cell (i := 1) (by omega)
          have i23 := fun W => ix23 g (i + 1) gc i W (by omega)
          have n24 := neq24
          clear hq hpath
          go_wp2_with fail
          clear p1 i23 hlast
          go_loopw [25] (fun iv wq => ∃ k2 : Nat, k2 ≤ i ∧ iv = .int .i64 k2 ∧ Hid (QN w i j nl (.slice (some ⟨g, 0, none⟩) (i + 1) gc) (.slice fa (j + nl) fc) (.slice va nl vc) (.slice la nl lc) ps PC FC FS PA C LF LV NW SE fs (fun q => if q = 1 then .slice (some ⟨g, 0, none⟩) (i + 1) gc else if q = 2 then (.slice none 0 0) else if q = 3 then .iface 46 (ptr LF) else if q = 4 then ptr SE else if q = 6 then .slice fa (j + nl) fc else (fun q => (PaC (.slice qa i qc) ST FS OF j)[q]?.getD undef) q) nm gs wq)) (fun iv _ => i - (intOf iv).toNat)
          case atStart => exact ⟨0, by omega, rfl, HQ⟩
          case round =>
            clear HQ
            obtain ⟨k2, hk2, rfl, HQ⟩ := hrel
            have p1 : wr.cell? ⟨PA, 1, none⟩ = some (.slice (some ⟨g, 0, none⟩) (i + 1) gc) := HQ.out.q.p.cell (i := 1) (by omega)
            by_cases hkl2 : k2 < i
            · obtain ⟨g', gc', hgg, _, hpath⟩ := HQ.out.q.path
              obtain ⟨y, y1, y2⟩ := hpath k2 hkl2
              simp only [Value.slice.injEq, Option.some.injEq, Addr.mk.injEq] at hgg
              obtain ⟨⟨hg1, _⟩, _, hg2⟩ := hgg
              subst hg1 hg2
              have i23 := fun W => ix23 g (i + 1) gc k2 W (by omega)
              have i23c := fun W => ix23 PC i i k2 W hkl2
              have HQ2 : Hid (∀ q, QN w i j nl (.slice (some ⟨g, 0, none⟩) (i + 1) gc) (.slice fa (j + nl) fc) (.slice va nl vc) (.slice la nl lc) ps PC FC FS PA C LF LV NW SE fs (fun q => if q = 1 then .slice (some ⟨g, 0, none⟩) (i + 1) gc else if q = 2 then (.slice none 0 0) else if q = 3 then .iface 46 (ptr LF) else if q = 4 then ptr SE else if q = 6 then .slice fa (j + nl) fc else (fun q => (PaC (.slice qa i qc) ST FS OF j)[q]?.getD undef) q) nm gs (wr.drewN q)) := fun q => HQ.out.sm (Sm.drewN _ q)
              clear HQ hpath
              go_wp2_with fail
              go_quiet (fail)
              go_wp2_with fail
              go_roundw
              case rel => exact ⟨k2 + 1, by omega, by go_num, HQ2.out _⟩
              case measure => simp [intOf]; omega
            · have hki : k2 = i := by omega
              subst hki
              have p2 : wr.cell? ⟨PA, 2, none⟩ = some (.slice none 0 0) := HQ.out.q.p.cell (i := 2) (by omega)
              have p3 : wr.cell? ⟨PA, 3, none⟩ = some (.iface 46 (ptr LF)) := HQ.out.q.p.cell (i := 3) (by omega)
              have p4 : wr.cell? ⟨PA, 4, none⟩ = some (ptr SE) := HQ.out.q.p.cell (i := 4) (by omega)
              have p5 : wr.cell? ⟨PA, 5, none⟩ = some (.int .i64 0) := HQ.out.q.p.cell (i := 5) (by omega)
              have p6 : wr.cell? ⟨PA, 6, none⟩ = some (.slice fa (j + nl) fc) := HQ.out.q.p.cell (i := 6) (by omega)
              have p7 : wr.cell? ⟨PA, 7, none⟩ = some (.slice none 0 0) := HQ.out.q.p.cell (i := 7) (by omega)
              have v0 : wr.cell? ⟨LV, 0, none⟩ = some (ptr LF) := HQ.out.q.lv.cell (i := 0) (by omega)
              have w0 : wr.cell? ⟨NW, 0, none⟩ = some (.int .i64 1) := HQ.out.q.nw.cell (i := 0) (by omega)
              have f0 : wr.cell? ⟨LF, 1, none⟩ = some (.int .i64 1) := HQ.out.q.lf.cell (i := 1) (by omega)
              have n43 := neq43n
              have e25 := eql25n
              have n42 := neq_leaf
              have s0 : wr.cell? ⟨SE, 0, none⟩ = some (.slice va nl vc) := HQ.out.se.cell (i := 0) (by omega)
              have e35a : ∀ a, (binOp .eql 35 (ptr SE) (ptr FS)).run Yba.prog (wr.drewN a) = .ok (.bool false) (wr.drewN a) := fun a => eql35 _ HQ.out.ne ((Sm.drewN wr a).row HQ.out.se) ((Sm.drewN wr a).row HQ.out.q.fsr)
              go_wp2_with fail
              go_quiet (fail)
              go_wp2_with fail
              go_quiet (fail)
              have HQ2 : Hid (∀ q, QN w k2 j nl (.slice (some ⟨g, 0, none⟩) (k2 + 1) gc) (.slice fa (j + nl) fc) (.slice va nl vc) (.slice la nl lc) ps PC FC FS PA C LF LV NW SE fs (fun q => if q = 1 then .slice (some ⟨g, 0, none⟩) (k2 + 1) gc else if q = 2 then (.slice none 0 0) else if q = 3 then .iface 46 (ptr LF) else if q = 4 then ptr SE else if q = 6 then .slice fa (j + nl) fc else (fun q => (PaC (.slice qa k2 qc) ST FS OF j)[q]?.getD undef) q) nm gs (wr.drewN q)) := fun q => HQ.out.sm (Sm.drewN _ q)
              clear HQ
              go_wp2_with fail
              clear p1 p2 p3 p4 p5 p6 p7 v0 w0 f0
              go_loopw [27] (fun iv wq => ∃ k3 : Nat, k3 ≤ j ∧ iv = .int .i64 k3 ∧ Hid (QN w k2 j nl (.slice (some ⟨g, 0, none⟩) (k2 + 1) gc) (.slice fa (j + nl) fc) (.slice va nl vc) (.slice la nl lc) ps PC FC FS PA C LF LV NW SE fs (fun q => if q = 1 then .slice (some ⟨g, 0, none⟩) (k2 + 1) gc else if q = 2 then (.slice none 0 0) else if q = 3 then .iface 46 (ptr LF) else if q = 4 then ptr SE else if q = 6 then .slice fa (j + nl) fc else (fun q => (PaC (.slice qa k2 qc) ST FS OF j)[q]?.getD undef) q) nm gs wq)) (fun iv _ => j - (intOf iv).toNat)
              case atStart => exact ⟨0, by omega, rfl, HQ2.out _⟩
              case round =>
                clear HQ2 s0 e35a
                obtain ⟨k3, hk3, rfl, HQ⟩ := hrel
                have p6 : wr.cell? ⟨PA, 6, none⟩ = some (.slice fa (j + nl) fc) := HQ.out.q.p.cell (i := 6) (by omega)
                by_cases hkl3 : k3 < j
                · obtain ⟨g', gc', y, hgg, y1, y2⟩ := HQ.out.q.flags (Nat.le_add_right _ _) hkl3
                  simp only [Value.slice.injEq] at hgg
                  obtain ⟨hg1, _, hg2⟩ := hgg
                  subst hg1 hg2
                  have i29 := fun W => ix29 g' (j + nl) fc k3 W (by omega)
                  have i29c := fun W => ix29 FC j j k3 W hkl3
                  have n30 := neq30
                  have HQ3 : Hid (∀ q, QN w k2 j nl (.slice (some ⟨g, 0, none⟩) (k2 + 1) gc) (.slice (some ⟨g', 0, none⟩) (j + nl) fc) (.slice va nl vc) (.slice la nl lc) ps PC FC FS PA C LF LV NW SE fs (fun q => if q = 1 then .slice (some ⟨g, 0, none⟩) (k2 + 1) gc else if q = 2 then (.slice none 0 0) else if q = 3 then .iface 46 (ptr LF) else if q = 4 then ptr SE else if q = 6 then .slice (some ⟨g', 0, none⟩) (j + nl) fc else (fun q => (PaC (.slice qa k2 qc) ST FS OF j)[q]?.getD undef) q) nm gs (wr.drewN q)) := fun q => HQ.out.sm (Sm.drewN _ q)
                  clear HQ
                  go_wp2_with fail
                  go_quiet (fail)
                  go_wp2_with fail
                  go_roundw
                  case rel => exact ⟨k3 + 1, by omega, by go_num, HQ3.out _⟩
                  case measure => simp [intOf]; omega
                · have hkj : k3 = j := by omega
                  subst hkj
                  have HQ4 : Hid (QN w k2 k3 nl (.slice (some ⟨g, 0, none⟩) (k2 + 1) gc) (.slice fa (k3 + nl) fc) (.slice va nl vc) (.slice la nl lc) ps PC FC FS PA C LF LV NW SE fs (fun q => if q = 1 then .slice (some ⟨g, 0, none⟩) (k2 + 1) gc else if q = 2 then (.slice none 0 0) else if q = 3 then .iface 46 (ptr LF) else if q = 4 then ptr SE else if q = 6 then .slice fa (k3 + nl) fc else (fun q => (PaC (.slice qa k2 qc) ST FS OF k3)[q]?.getD undef) q) nm gs wr) := HQ.out
                  clear HQ p6
                  go_wp2_with fail
                  go_loopw [28] (fun iv wq => ∃ k4 : Nat, k4 ≤ nl ∧ iv = .int .i64 k4 ∧ Hid (QN w k2 k3 nl (.slice (some ⟨g, 0, none⟩) (k2 + 1) gc) (.slice fa (k3 + nl) fc) (.slice va nl vc) (.slice la nl lc) ps PC FC FS PA C LF LV NW SE fs (fun q => if q = 1 then .slice (some ⟨g, 0, none⟩) (k2 + 1) gc else if q = 2 then (.slice none 0 0) else if q = 3 then .iface 46 (ptr LF) else if q = 4 then ptr SE else if q = 6 then .slice fa (k3 + nl) fc else (fun q => (PaC (.slice qa k2 qc) ST FS OF k3)[q]?.getD undef) q) nm gs wq)) (fun iv _ => nl - (intOf iv).toNat)
                  case atStart => exact ⟨0, by omega, rfl, HQ4⟩
                  case round =>
                    clear HQ4
                    obtain ⟨k4, hk4, rfl, HQ⟩ := hrel
                    by_cases hkl4 : k4 < nl
                    · obtain ⟨s, sc', g', gc', b, hfv, hflv, y1, y2, y3⟩ := HQ.out.newAt hkl4
                      simp only [Value.slice.injEq] at hfv hflv
                      obtain ⟨h1, _, h2⟩ := hfv
                      obtain ⟨h3, _, h4⟩ := hflv
                      subst h1 h2 h3 h4
                      have p4 : wr.cell? ⟨PA, 4, none⟩ = some (ptr SE) := HQ.out.q.p.cell (i := 4) (by omega)
                      have p6 : wr.cell? ⟨PA, 6, none⟩ = some (.slice (some ⟨g', 0, none⟩) (k3 + nl) fc) := HQ.out.q.p.cell (i := 6) (by omega)
                      have s0 : wr.cell? ⟨SE, 0, none⟩ = some (.slice (some ⟨s, 0, none⟩) nl vc) := HQ.out.se.cell (i := 0) (by omega)
                      have i22 := fun W => hixl.out k4 W hkl4
                      have c22 : wr.cell? (nd k4) = some (.string (nm k4)) := (HQ.out.q.be.cell (World.block_lt_of_cell? _ _ (hcl.out k4 hkl4))).trans (hcl.out k4 hkl4)
                      have i29 := fun W => ix29 s nl vc k4 W hkl4
                      have i29b : ∀ W, (Instr.indexAt 29 (.slice (some ⟨g', 0, none⟩) (k3 + nl) fc) (.int .i64 ((k3 : Int) + (k4 : Int)))).run Yba.prog W = .ok (.pointer (some ⟨g', k3 + k4, none⟩)) W := fun W => by
                        have := ix29 g' (k3 + nl) fc (k3 + k4) W (by omega)
                        rwa [Int.natCast_add] at this
                      have n9 := neq9
                      have n30 := neq30
                      have HQ5 : Hid (∀ q, QN w k2 k3 nl (.slice (some ⟨g, 0, none⟩) (k2 + 1) gc) (.slice (some ⟨g', 0, none⟩) (k3 + nl) fc) (.slice (some ⟨s, 0, none⟩) nl vc) (.slice la nl lc) ps PC FC FS PA C LF LV NW SE fs (fun q => if q = 1 then .slice (some ⟨g, 0, none⟩) (k2 + 1) gc else if q = 2 then (.slice none 0 0) else if q = 3 then .iface 46 (ptr LF) else if q = 4 then ptr SE else if q = 6 then .slice (some ⟨g', 0, none⟩) (k3 + nl) fc else (fun q => (PaC (.slice qa k2 qc) ST FS OF k3)[q]?.getD undef) q) nm gs (wr.drewN q)) := fun q => HQ.out.sm (Sm.drewN _ q)
                      clear HQ
                      go_wp2_with fail
                      go_quiet (fail)
                      go_wp2_with fail
                      go_roundw
                      case rel => exact ⟨k4 + 1, by omega, by go_num, HQ5.out _⟩
                      case measure => simp [intOf]; omega
                    · have hkn : k4 = nl := by omega
                      subst hkn
                      go_wp2_with fail
                      go_ret
                      exact ⟨rfl, HQ.out.q.be⟩
end Go.Proofs.Ybulkqnc
