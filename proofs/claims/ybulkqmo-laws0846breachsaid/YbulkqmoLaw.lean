/-
  DERIVED. THE WALK of eval.LawS0846BReach.
-/
import Derived.Test.YbulkqmoEnd
import Derived.BigQuiet
import Derived.Deep.CutRange
namespace Go.Proofs.Ybulkqmo
open Go.RowKit
set_option linter.unusedVariables false

set_option maxHeartbeats 8000000 in
set_option maxRecDepth 100000 in
theorem law_any (ao : Option Addr) (cap : Nat) (d : Dat) (kk tt : Nat → Nat → Nat) (ad : Nat → Addr) (ra : Nat → Option Addr) (rc : Nat → Nat) (bd : Nat → Nat → Addr) (x : Int) (so : Option Addr) (ns sc : Nat) (st : Nat → Int) (sd : Nat → Addr) (w : World)
    (hn : d.n ≤ maxLen) (hns : ns ≤ maxLen) (hx0 : 0 ≤ x) (hx1 : x ≤ 255)
    (hlen : Hid (∀ q, q < d.n → d.len q ≤ 140737488355328)) (hkk : Hid (∀ q i, kk q i ≤ 255 ∧ tt q i ≤ 255)) (hK : Hid (∀ q i, d.K q i = kk q i % 3)) (hT : Hid (∀ q i, d.T q i = tt q i % d.n)) (hst : Hid (∀ j, 0 ≤ st j ∧ st j ≤ 255))
    (hix22 : Hid (∀ (q : Nat) (W : World), q < d.n → (Instr.indexAt 22 (.slice ao d.n cap) (.int .i64 (q : Int))).run Yba.prog W = .ok (.pointer (some (ad q))) W))
    (hc22 : Hid (∀ q, q < d.n → w.cell? (ad q) = some (.slice (ra q) (d.len q) (rc q))))
    (hix24 : Hid (∀ (q i : Nat) (W : World), q < d.n → i < d.len q → (Instr.indexAt 24 (.slice (ra q) (d.len q) (rc q)) (.int .i64 (i : Int))).run Yba.prog W = .ok (.pointer (some (bd q i))) W))
    (hc24 : Hid (∀ q i, q < d.n → i < d.len q → w.cell? (bd q i) = some (.int .u8 (kk q i)) ∧ w.cell? ((bd q i).add 1) = some (.int .u8 (tt q i)) ∧ w.cell? ((bd q i).add 2) = some (.bool (d.X q i))))
    (hix23 : Hid (∀ (j : Nat) (W : World), j < ns → (Instr.indexAt 23 (.slice so ns sc) (.int .i64 (j : Int))).run Yba.prog W = .ok (.pointer (some (sd j))) W))
    (hc23 : Hid (∀ j, j < ns → w.cell? (sd j) = some (.int .u8 (st j)))) :
    Calls Yba.prog 3 #[.slice ao d.n cap, .int .u8 x, .slice so ns sc] w fun e w' => e = .returned (.bool true) ∧ Below w.heap.size w w' := by
  unfold maxLen at hn hns
  by_cases h0 : d.n = 0
  · rw [h0]
    go_enter Yba.func3, Yba.ntmps3
    go_wp2
    go_ret
    exact ⟨rfl, Below.refl _ _⟩
  have h0b : ((d.n : Int) == 0) = false := by simp [h0]
  by_cases h1 : (256 : Int) < (d.n : Int)
  · go_enter Yba.func3, Yba.ntmps3
    go_wp2
    go_ret
    exact ⟨rfl, Below.refl _ _⟩
  by_cases h2 : (256 : Int) < (ns : Int)
  · have h1b : decide ((256 : Int) < (d.n : Int)) = false := by simpa using h1
    go_enter Yba.func3, Yba.ntmps3
    go_wp2
    go_ret
    exact ⟨rfl, Below.refl _ _⟩
  have h1b : decide ((256 : Int) < (d.n : Int)) = false := by simpa using h1
  have h2b : decide ((256 : Int) < (ns : Int)) = false := by simpa using h2
  have hn256 : d.n ≤ 256 := by omega
  have hns256 : ns ≤ 256 := by omega
  clear h1 h2 hn hns
  go_enter Yba.func3, Yba.ntmps3
  go_wp2_with fail
  go_loopw [8, 58] (fun tv iv wr => ∃ k : Nat, k ≤ d.n ∧ iv = .int .i64 k ∧ tv = .int .i64 (off d.len k) ∧ off d.len k ≤ k * 140737488355328 ∧ wr = w) (fun _ iv _ => d.n - (intOf iv).toNat)
  case atStart => exact ⟨0, by omega, rfl, rfl, by simp [off], rfl⟩
  case round =>
    obtain ⟨k, hk, rfl, rfl, hbd, hw⟩ := hrel
    have hw' : w = wr := hw.symm
    subst hw'
    clear hw
    by_cases hlt : k < d.n
    · have i1 := fun W => hix22.out k W hlt
      have c1 := hc22.out k hlt
      have hl := hlen.out k hlt
      have ho : off d.len (k + 1) = off d.len k + d.len k := rfl
      go_wp2_with fail
      go_roundw
      case rel => exact ⟨k + 1, by omega, by go_num, by rw [ho]; go_num, by omega, by simp⟩
      case measure => simp [intOf]; omega
    · have hkn : k = d.n := by omega
      subst hkn
      by_cases hbig : (4096 : Int) < (off d.len d.n : Int)
      · go_wp2_with fail
        go_ret
        exact ⟨rfl, Below.refl _ _⟩
      · have htot : off d.len d.n ≤ 4096 := by omega
        have hgood : d.Good := ⟨by omega, hn256, htot, fun q i hq hi => by rw [hT.out]; exact Nat.mod_lt _ (by omega), fun q i hq hi => by rw [hK.out]; omega⟩
        have HD : Hid d.Good := hgood
        have mk0 : ∀ W, (Instr.makeSlice 25 (.int .i64 0) (.int .i64 ((d.n : Int) + 1))).run Yba.prog W = .ok (.slice (some ⟨W.heap.size, 0, none⟩) 0 (d.n + 1)) (W.alloc (.cells (madeCells #[.int .i32 0] (d.n + 1)) 21)) := by
          intro W
          obtain ⟨i0, hi, hzz⟩ := Option.map_eq_some_iff.1 info21
          simp only [Prod.mk.injEq] at hzz
          obtain ⟨hz', hs, hb⟩ := hzz
          have := run_make (P := Yba.prog) W 25 21 i0 (.int .i32 0) Yba.underlying25 hi hz' .i64 .i64 0 ((d.n : Int) + 1) (by omega) (by omega) (by rw [hb]; omega) (by omega)
          rw [hs] at this
          simpa [Value.cells] using this
        have hmm := @run_makeMap Yba.prog
        clear hbig hlen hgood
        go_wp2_with fail
        have HB : Hid (BS d w (w.heap.size + 1) (w.heap.size + 1 + 1) 0 0 0 (.slice (some ⟨w.heap.size, 0, none⟩) 0 (d.n + 1)) (.slice none 0 0) (.slice none 0 0) 0 (((w.alloc (.cells (madeCells #[.int .i32 0] (d.n + 1)) 21)).alloc (.map #[] 0)).alloc Zobj)) := BS.start d w d.n (by omega)
        clear mk0
        go_loopw [11, 12, 13, 75] (fun fv bv lv iv wr => ∃ k nl : Nat, k ≤ d.n ∧ iv = .int .i64 k ∧ Hid (BS d w (w.heap.size + 1) (w.heap.size + 1 + 1) (off d.len k) (off d.len k) k fv bv lv nl wr)) (fun _ _ _ iv _ => d.n - (intOf iv).toNat)
        case atStart => exact ⟨0, 0, by omega, rfl, HB⟩
        case round =>
          clear HB
          obtain ⟨k, nl, hk, rfl, HB⟩ := hrel
          obtain ⟨⟨fa, fc, rfl⟩, ⟨ba, bc, rfl⟩, ⟨la, lc, rfl⟩⟩ := HB.out.slices
          have hok : off d.len k ≤ 4096 := Nat.le_trans (off_le hk) htot
          by_cases hlt : k < d.n
          · have i1 := fun W => hix22.out k W hlt
            have c1 := (HB.out.be.cell (World.block_lt_of_cell? _ _ (hc22.out k hlt))).trans (hc22.out k hlt)
            obtain ⟨v1, w1, hr1', hb1⟩ := HB.out.first rfl (by omega)
            obtain ⟨⟨fa1, fc1, rfl⟩, _, _⟩ := hb1.slices
            have hr1 : Hid _ := hr1'
            have HB1 : Hid _ := hb1
            clear hr1' hb1 HB
            go_wp2_with (at_builtin; refine list_app rfl _ _ _ rfl _ _ _ _ rfl rfl hr1.out ?_)
            go_loopw [12, 13, 87] (fun bv lv iv wq => ∃ i nl : Nat, i ≤ d.len k ∧ iv = .int .i64 i ∧ Hid (BS d w (w.heap.size + 1) (w.heap.size + 1 + 1) (off d.len k + i) (off d.len k + i) (k + 1) (.slice fa1 (k + 1) fc1) bv lv nl wq)) (fun _ _ iv _ => d.len k - (intOf iv).toNat)
            case atStart => exact ⟨0, nl, by omega, rfl, HB1⟩
            case round =>
              clear HB1 hr1 c1 i1
              obtain ⟨i, nl, hi, rfl, HB⟩ := hrel
              obtain ⟨_, ⟨ba, bc, rfl⟩, ⟨la, lc, rfl⟩⟩ := HB.out.slices
              have hnl := HB.out.nl
              have hoi : off d.len k + i ≤ 4096 := by
                have : off d.len (k + 1) ≤ off d.len d.n := off_le hlt
                have h3 : off d.len (k + 1) = off d.len k + d.len k := rfl
                omega
              have hlk : d.len k ≤ 4096 := len_bd HD.out hlt
              by_cases hil : i < d.len k
              · have i2 := fun W => hix24.out k i W hlt hil
                obtain ⟨c0, c1, c2⟩ := hc24.out k i hlt hil
                have c0 := (HB.out.be.cell (World.block_lt_of_cell? _ _ c0)).trans c0
                have c1 := (HB.out.be.cell (World.block_lt_of_cell? _ _ c1)).trans c1
                have c2 := (HB.out.be.cell (World.block_lt_of_cell? _ _ c2)).trans c2
                obtain ⟨hk255, ht255⟩ := hkk.out k i
                have hKi : ((kk k i : Nat) : Int) % 3 = (d.K k i : Int) := by rw [hK.out]; omega
                have hTi : ((tt k i : Nat) : Int) % (d.n : Int) = (d.T k i : Int) := by rw [hT.out, Int.natCast_emod]
                have hKb := HD.out.k k i hlt hil
                have hTb := HD.out.t k i hlt hil
                generalize hbd : bd k i = adk at *
                obtain ⟨ab, aof, ap⟩ := adk
                simp [Addr.add] at c1 c2
                generalize hco : off d.len k + i = c at *
                cases hX : d.X k i
                · rw [hX] at c2
                  have HBn : Hid (BS d w (w.heap.size + 1) (w.heap.size + 1 + 1) c c (k + 1) (.slice fa1 (k + 1) fc1) (.slice ba c bc) (.slice la nl lc) nl (wr.alloc (.cells #[.int .u8 (kk k i : Int), .int .u8 (tt k i : Int), .bool false] 39))) := HB.out.new ((Fr.refl _ wr).alloc _)
                  have esz : (wr.alloc (.cells #[.int .u8 (kk k i : Int), .int .u8 (tt k i : Int), .bool false] 39)).heap.size = wr.heap.size + 1 := by simp
                  have row39 : (wr.alloc (.cells #[.int .u8 (kk k i : Int), .int .u8 (tt k i : Int), .bool false] 39)).rowIs wr.heap.size 39 3 (fun j => (#[Value.int .u8 (kk k i : Int), .int .u8 (tt k i : Int), .bool false] : Array Value)[j]?.getD undef) := World.rowIs_alloc wr _ 39 _ (fun j hj => by rw [Array.getElem?_eq_getElem hj]; rfl)
                  clear HB
                  have hk012 : d.K k i = 0 ∨ d.K k i = 1 ∨ d.K k i = 2 := by omega
                  rcases hk012 with hk0 | hk0 | hk0
                  · have hKi0 : ((kk k i : Nat) : Int) % 3 = 0 := by rw [hKi, hk0]; rfl
                    obtain ⟨v1, w1, hr1', hb1, hkp⟩ := HBn.out.push hlt hil hco.symm 0 (fun h => by omega) (by omega) (by omega)
                    rw [hk0] at hr1'
                    obtain ⟨_, ⟨ba1, bc1, rfl⟩, _⟩ := hb1.slices
                    rw [esz] at hr1'
                    have hr1 : Hid ((Builtin.append_ #[26, 26] 26 #[.slice ba c bc, .slice (some ⟨wr.heap.size + 1, 0, none⟩) 1 1]).run Yba.prog ((wr.alloc (.cells #[.int .u8 (kk k i : Int), .int .u8 (tt k i : Int), .bool false] 39)).alloc (.cells #[.int .u8 0, .int .i32 0, .int .i32 0] 42)) = .ok (.slice ba1 (c + 1) bc1) w1) := hr1'
                    obtain ⟨z0, z1, z2, z3, z4, z5, z6⟩ := hb1.zcells
                    have e39 : w1.cell? ⟨wr.heap.size, 2, none⟩ = some (.bool false) := (hkp _ _ _ row39).cell (i := 2) (by omega)
                    have HB1 : Hid _ := hb1.skip hil hco.symm hX
                    clear hr1' hb1 HBn hKi hkp row39 esz
                    go_wp2_with (at_builtin; refine list_app rfl _ _ _ rfl _ _ _ _ rfl rfl hr1.out ?_)
                    go_roundw
                    case rel => exact ⟨i + 1, nl, by omega, by go_num, by rw [← Nat.add_assoc, hco]; exact HB1⟩
                    case measure => simp [intOf]; omega
                  · have hKi0 : ((kk k i : Nat) : Int) % 3 = 1 := by rw [hKi, hk0]; rfl
                    obtain ⟨v1, w1, hr1', hb1, hkp⟩ := HBn.out.push hlt hil hco.symm (d.T k i : Int) (fun _ => rfl) (by omega) (by omega)
                    rw [hk0] at hr1'
                    obtain ⟨_, ⟨ba1, bc1, rfl⟩, _⟩ := hb1.slices
                    rw [esz] at hr1'
                    have hr1 : Hid ((Builtin.append_ #[26, 26] 26 #[.slice ba c bc, .slice (some ⟨wr.heap.size + 1, 0, none⟩) 1 1]).run Yba.prog ((wr.alloc (.cells #[.int .u8 (kk k i : Int), .int .u8 (tt k i : Int), .bool false] 39)).alloc (.cells #[.int .u8 1, .int .i32 (d.T k i : Int), .int .i32 0] 42)) = .ok (.slice ba1 (c + 1) bc1) w1) := hr1'
                    obtain ⟨z0, z1, z2, z3, z4, z5, z6⟩ := hb1.zcells
                    have e39 : w1.cell? ⟨wr.heap.size, 2, none⟩ = some (.bool false) := (hkp _ _ _ row39).cell (i := 2) (by omega)
                    have HB1 : Hid _ := hb1.skip hil hco.symm hX
                    clear hr1' hb1 HBn hKi hkp row39 esz
                    go_wp2_with (at_builtin; refine list_app rfl _ _ _ rfl _ _ _ _ rfl rfl hr1.out ?_)
                    go_roundw
                    case rel => exact ⟨i + 1, nl, by omega, by go_num, by rw [← Nat.add_assoc, hco]; exact HB1⟩
                    case measure => simp [intOf]; omega
                  · have hKi0 : ((kk k i : Nat) : Int) % 3 = 2 := by rw [hKi, hk0]; rfl
                    obtain ⟨v1, w1, hr1', ⟨la1, lc1, hv1⟩, v2, w2, hr2', hb1, hkp⟩ := HBn.out.push2 hlt hil hco.symm hk0 (by omega)
                    subst hv1
                    obtain ⟨_, ⟨ba1, bc1, rfl⟩, _⟩ := hb1.slices
                    rw [esz] at hr1'
                    have hr1 : Hid ((Builtin.append_ #[27, 27] 27 #[.slice la nl lc, .slice (some ⟨wr.heap.size + 1, 0, none⟩) 1 1]).run Yba.prog ((wr.alloc (.cells #[.int .u8 (kk k i : Int), .int .u8 (tt k i : Int), .bool false] 39)).alloc (.cells #[.int .i32 (d.T k i : Int), .int .i32 0, .int .i64 0, .int .i64 0, .nilIface, .bool false] 44)) = .ok (.slice la1 (nl + 1) lc1) w1) := hr1'
                    have hr2 : Hid _ := hr2'
                    obtain ⟨z0, z1, z2, z3, z4, z5, z6⟩ := hb1.zcells
                    have e39 : w2.cell? ⟨wr.heap.size, 2, none⟩ = some (.bool false) := (hkp _ _ _ row39).cell (i := 2) (by omega)
                    clear hr2'
                    have HB1 : Hid _ := hb1.skip hil hco.symm hX
                    clear hr1' hb1 HBn hKi hkp row39 esz
                    go_wp2_with (first | (at_builtin; refine list_app rfl _ _ _ rfl _ _ _ _ rfl rfl hr1.out ?_) | (at_builtin; refine list_app rfl _ _ _ rfl _ _ _ _ rfl rfl hr2.out ?_))
                    go_roundw
                    case rel => exact ⟨i + 1, nl + 1, by omega, by go_num, by rw [← Nat.add_assoc, hco]; exact HB1⟩
                    case measure => simp [intOf]; omega
                · rw [hX] at c2
                  have HBn : Hid (BS d w (w.heap.size + 1) (w.heap.size + 1 + 1) c c (k + 1) (.slice fa1 (k + 1) fc1) (.slice ba c bc) (.slice la nl lc) nl (wr.alloc (.cells #[.int .u8 (kk k i : Int), .int .u8 (tt k i : Int), .bool true] 39))) := HB.out.new ((Fr.refl _ wr).alloc _)
                  have esz : (wr.alloc (.cells #[.int .u8 (kk k i : Int), .int .u8 (tt k i : Int), .bool true] 39)).heap.size = wr.heap.size + 1 := by simp
                  have row39 : (wr.alloc (.cells #[.int .u8 (kk k i : Int), .int .u8 (tt k i : Int), .bool true] 39)).rowIs wr.heap.size 39 3 (fun j => (#[Value.int .u8 (kk k i : Int), .int .u8 (tt k i : Int), .bool true] : Array Value)[j]?.getD undef) := World.rowIs_alloc wr _ 39 _ (fun j hj => by rw [Array.getElem?_eq_getElem hj]; rfl)
                  clear HB
                  have hk012 : d.K k i = 0 ∨ d.K k i = 1 ∨ d.K k i = 2 := by omega
                  rcases hk012 with hk0 | hk0 | hk0
                  · have hKi0 : ((kk k i : Nat) : Int) % 3 = 0 := by rw [hKi, hk0]; rfl
                    obtain ⟨v1, w1, hr1', hb1, hkp⟩ := HBn.out.push hlt hil hco.symm 0 (fun h => by omega) (by omega) (by omega)
                    rw [hk0] at hr1'
                    obtain ⟨_, ⟨ba1, bc1, rfl⟩, _⟩ := hb1.slices
                    rw [esz] at hr1'
                    have hr1 : Hid ((Builtin.append_ #[26, 26] 26 #[.slice ba c bc, .slice (some ⟨wr.heap.size + 1, 0, none⟩) 1 1]).run Yba.prog ((wr.alloc (.cells #[.int .u8 (kk k i : Int), .int .u8 (tt k i : Int), .bool true] 39)).alloc (.cells #[.int .u8 0, .int .i32 0, .int .i32 0] 42)) = .ok (.slice ba1 (c + 1) bc1) w1) := hr1'
                    obtain ⟨z0, z1, z2, z3, z4, z5, z6⟩ := hb1.zcells
                    have e39 : w1.cell? ⟨wr.heap.size, 2, none⟩ = some (.bool true) := (hkp _ _ _ row39).cell (i := 2) (by omega)
                    obtain ⟨w5, hmu, hb5⟩ := hb1.store hil hco.symm hX (by omega)
                    have HB1 : Hid _ := hb5
                    clear hb5
                    clear hr1' hb1 HBn hKi hkp row39 esz
                    go_wp2_with (at_builtin; refine list_app rfl _ _ _ rfl _ _ _ _ rfl rfl hr1.out ?_)
                    go_roundw
                    case rel => exact ⟨i + 1, nl, by omega, by go_num, by rw [← Nat.add_assoc, hco]; exact HB1⟩
                    case measure => simp [intOf]; omega
                  · have hKi0 : ((kk k i : Nat) : Int) % 3 = 1 := by rw [hKi, hk0]; rfl
                    obtain ⟨v1, w1, hr1', hb1, hkp⟩ := HBn.out.push hlt hil hco.symm (d.T k i : Int) (fun _ => rfl) (by omega) (by omega)
                    rw [hk0] at hr1'
                    obtain ⟨_, ⟨ba1, bc1, rfl⟩, _⟩ := hb1.slices
                    rw [esz] at hr1'
                    have hr1 : Hid ((Builtin.append_ #[26, 26] 26 #[.slice ba c bc, .slice (some ⟨wr.heap.size + 1, 0, none⟩) 1 1]).run Yba.prog ((wr.alloc (.cells #[.int .u8 (kk k i : Int), .int .u8 (tt k i : Int), .bool true] 39)).alloc (.cells #[.int .u8 1, .int .i32 (d.T k i : Int), .int .i32 0] 42)) = .ok (.slice ba1 (c + 1) bc1) w1) := hr1'
                    obtain ⟨z0, z1, z2, z3, z4, z5, z6⟩ := hb1.zcells
                    have e39 : w1.cell? ⟨wr.heap.size, 2, none⟩ = some (.bool true) := (hkp _ _ _ row39).cell (i := 2) (by omega)
                    obtain ⟨w5, hmu, hb5⟩ := hb1.store hil hco.symm hX (by omega)
                    have HB1 : Hid _ := hb5
                    clear hb5
                    clear hr1' hb1 HBn hKi hkp row39 esz
                    go_wp2_with (at_builtin; refine list_app rfl _ _ _ rfl _ _ _ _ rfl rfl hr1.out ?_)
                    go_roundw
                    case rel => exact ⟨i + 1, nl, by omega, by go_num, by rw [← Nat.add_assoc, hco]; exact HB1⟩
                    case measure => simp [intOf]; omega
                  · have hKi0 : ((kk k i : Nat) : Int) % 3 = 2 := by rw [hKi, hk0]; rfl
                    obtain ⟨v1, w1, hr1', ⟨la1, lc1, hv1⟩, v2, w2, hr2', hb1, hkp⟩ := HBn.out.push2 hlt hil hco.symm hk0 (by omega)
                    subst hv1
                    obtain ⟨_, ⟨ba1, bc1, rfl⟩, _⟩ := hb1.slices
                    rw [esz] at hr1'
                    have hr1 : Hid ((Builtin.append_ #[27, 27] 27 #[.slice la nl lc, .slice (some ⟨wr.heap.size + 1, 0, none⟩) 1 1]).run Yba.prog ((wr.alloc (.cells #[.int .u8 (kk k i : Int), .int .u8 (tt k i : Int), .bool true] 39)).alloc (.cells #[.int .i32 (d.T k i : Int), .int .i32 0, .int .i64 0, .int .i64 0, .nilIface, .bool false] 44)) = .ok (.slice la1 (nl + 1) lc1) w1) := hr1'
                    have hr2 : Hid _ := hr2'
                    obtain ⟨z0, z1, z2, z3, z4, z5, z6⟩ := hb1.zcells
                    have e39 : w2.cell? ⟨wr.heap.size, 2, none⟩ = some (.bool true) := (hkp _ _ _ row39).cell (i := 2) (by omega)
                    clear hr2'
                    obtain ⟨w5, hmu, hb5⟩ := hb1.store hil hco.symm hX (by omega)
                    have HB1 : Hid _ := hb5
                    clear hb5
                    clear hr1' hb1 HBn hKi hkp row39 esz
                    go_wp2_with (first | (at_builtin; refine list_app rfl _ _ _ rfl _ _ _ _ rfl rfl hr1.out ?_) | (at_builtin; refine list_app rfl _ _ _ rfl _ _ _ _ rfl rfl hr2.out ?_))
                    go_roundw
                    case rel => exact ⟨i + 1, nl + 1, by omega, by go_num, by rw [← Nat.add_assoc, hco]; exact HB1⟩
                    case measure => simp [intOf]; omega
              · have hie : i = d.len k := by omega
                subst hie
                clear hil
                go_wp2_with fail
                go_roundw
                case rel => exact ⟨k + 1, nl, by omega, by go_num, HB⟩
                case measure => simp [intOf]; omega
          · have hkn : k = d.n := by omega
            subst hkn
            obtain ⟨v1, w1, hr1', hb1⟩ := HB.out.first rfl (by omega)
            obtain ⟨⟨fa1, fc1, rfl⟩, _, _⟩ := hb1.slices
            have hr1 : Hid _ := hr1'
            have HA : Hid _ := AS.start hb1
            have hmk : ∀ W, (Instr.makeMap 45 (some (.int .i64 (d.n : Int)))).run Yba.prog W = .ok (.map (some W.heap.size)) (W.alloc (.map #[] 0)) := fun W => rfl
            clear hr1' hb1 HB
            go_wp2_with (at_builtin; refine list_app rfl _ _ _ rfl _ _ _ _ rfl rfl hr1.out ?_)
            generalize w1.heap.size = AL at *
            go_loopw [23] (fun iv wr => ∃ k : Nat, k ≤ d.n ∧ iv = .int .i64 k ∧ Hid (AS d w (w.heap.size + 1) (w.heap.size + 1 + 1) AL k (.slice fa1 (d.n + 1) fc1) (.slice ba (off d.len d.n) bc) (.slice la nl lc) nl wr)) (fun iv _ => d.n - (intOf iv).toNat)
            case atStart => exact ⟨0, by omega, rfl, HA⟩
            case round =>
              clear HA hr1
              obtain ⟨k, hk, rfl, HA⟩ := hrel
              by_cases hlt : k < d.n
              · obtain ⟨w5, hmu, ha5⟩ := HA.out.store (by omega)
                have HA5 : Hid _ := ha5
                clear ha5 HA
                go_wp2_with fail
                go_roundw
                case rel => exact ⟨k + 1, by omega, by go_num, HA5⟩
                case measure => simp [intOf]; omega
              · have hkn : k = d.n := by omega
                subst hkn
                have mkA : ∀ W, (Instr.makeSlice 25 (.int .i64 (d.n : Int)) (.int .i64 (d.n : Int))).run Yba.prog W = .ok (.slice (some ⟨W.heap.size, 0, none⟩) d.n d.n) (W.alloc (.cells (madeCells #[.int .i32 0] d.n) 21)) := fun W => run_make_row' 25 21 _ 4 Yba.underlying25 info21 rfl .i64 .i64 d.n (by omega) (by omega) W
                have mkV : ∀ W, (Instr.makeSlice 70 (.int .i64 (d.n : Int)) (.int .i64 (d.n : Int))).run Yba.prog W = .ok (.slice (some ⟨W.heap.size, 0, none⟩) d.n d.n) (W.alloc (.cells (madeCells #[.bool false] d.n) 4)) := fun W => run_make_row' 70 4 _ 1 Yba.underlying70 info4 rfl .i64 .i64 d.n (by omega) (by omega) W
                obtain ⟨b, hbN, hri, hbel⟩ := setup HA.out HD.out
                have hbw : w.heap.size ≤ wr.heap.size := HA.out.b.be.size
                have hv0 := VS.start (w0 := w) hri hbel (by omega)
                have e4 : (Boxed Yba.zeroCells78 d wr (.slice fa1 (d.n + 1) fc1) (.slice ba (off d.len d.n) bc) (.slice la nl lc) (w.heap.size + 1) AL).heap.size = wr.heap.size + 1 + 1 + 1 + 1 := by simp
                rw [e4] at hv0
                have HV0 : Hid _ := hv0
                clear hri hbel HA hv0 e4
                obtain ⟨r0, hr0, hr0n⟩ : ∃ r0 : Nat, x % (d.n : Int) = r0 ∧ r0 < d.n := by
                  have h0 := Int.emod_nonneg x (b := (d.n : Int)) (by omega)
                  have h1 := Int.emod_lt_of_pos x (b := (d.n : Int)) (by omega)
                  exact ⟨(x % d.n).toNat, by omega, by omega⟩
                go_upto_region 45 with fail
                generalize hw5 : (Boxed Yba.zeroCells78 d wr (.slice fa1 (d.n + 1) fc1) (.slice ba (off d.len d.n) bc) (.slice la nl lc) (w.heap.size + 1) AL).alloc (.cells (madeCells #[.bool false] d.n) 4) = w5 at HV0 ⊢
                clear hw5 mkA
                generalize wr.heap.size + 1 + 1 + 1 + 1 = V at *
                generalize wr.heap.size + 1 + 1 + 1 = J at *
                generalize wr.heap.size + 1 + 1 = A at *
                obtain ⟨v1, w6, happ', hadd'⟩ := HV0.out.step HD.out hr0n (by simp)
                obtain ⟨cv0, fv0⟩ := HV0.out.cellsV hr0n
                have i70 := fun W => ix70 V d.n d.n r0 .i64 W hr0n
                have happ : Hid _ := happ'
                have HAd : Hid (Calls Yba.prog 6 #[.pointer (some ⟨J, 0, none⟩), .int .i32 (r0 : Int)] w6 fun e w' => e = .returned (.tuple #[]) ∧ VS d b A J A V w ([] ++ [r0]) v1 w') := hadd'
                clear happ' hadd' HV0
                go_wp2_with (at_builtin; refine list_app rfl _ _ _ rfl _ _ _ _ rfl rfl happ.out ?_)
                refine HAd.out.mono ?_
                rintro e w7 ⟨rfl, hvs⟩
                have HV : Hid (VS d b A J A V w ([] ++ [r0]) v1 w7) := hvs
                clear hvs HAd happ cv0 fv0 i70
                go_wp2_with fail
                go_loopw [26, 187] (fun ov iv wr => ∃ (j : Nat) (ord : List Nat), j ≤ ns ∧ iv = .int .i64 j ∧ Hid (VS d b A J A V w ord ov wr)) (fun _ iv _ => ns - (intOf iv).toNat)
                case atStart => exact ⟨0, _, by omega, rfl, HV⟩
                case round =>
                  clear HV
                  obtain ⟨j, ord, hj, rfl, HV⟩ := hrel
                  obtain ⟨oa, oc, rfl⟩ := owns_slice HV.out.o
                  by_cases hlt : j < ns
                  · have i1 := fun W => hix23.out j W hlt
                    have c1 := (HV.out.be.cell (World.block_lt_of_cell? _ _ (hc23.out j hlt))).trans (hc23.out j hlt)
                    obtain ⟨s0, s1⟩ := hst.out j
                    obtain ⟨r, hr, hrn⟩ : ∃ r : Nat, st j % (d.n : Int) = r ∧ r < d.n := by
                      have h0 := Int.emod_nonneg (st j) (b := (d.n : Int)) (by omega)
                      have h1 := Int.emod_lt_of_pos (st j) (b := (d.n : Int)) (by omega)
                      exact ⟨(st j % d.n).toNat, by omega, by omega⟩
                    obtain ⟨cv0, fv0⟩ := HV.out.cellsV hrn
                    have i70 := fun W => ix70 V d.n d.n r .i64 W hrn
                    by_cases hro : r ∈ ord
                    · rw [show decide (r ∈ ord) = true by simp [hro]] at cv0
                      go_wp2_with fail
                      go_roundw
                      case rel => exact ⟨j + 1, ord, by omega, by go_num, HV⟩
                      case measure => simp [intOf]; omega
                    · rw [show decide (r ∈ ord) = false by simp [hro]] at cv0
                      obtain ⟨v1, w6, happ', hadd'⟩ := HV.out.step HD.out hrn hro
                      have happ : Hid _ := happ'
                      have HAd : Hid (Calls Yba.prog 6 #[.pointer (some ⟨J, 0, none⟩), .int .i32 (r : Int)] w6 fun e w' => e = .returned (.tuple #[]) ∧ VS d b A J A V w (ord ++ [r]) v1 w') := hadd'
                      clear happ' hadd' HV
                      go_wp2_with (at_builtin; refine list_app rfl _ _ _ rfl _ _ _ _ rfl rfl happ.out ?_)
                      refine HAd.out.mono ?_
                      rintro e w7 ⟨rfl, hvs⟩
                      have HV : Hid (VS d b A J A V w (ord ++ [r]) v1 w7) := hvs
                      clear hvs HAd happ
                      go_wp2_with fail
                      go_roundw
                      case rel => exact ⟨j + 1, ord ++ [r], by omega, by go_num, HV⟩
                      case measure => simp [intOf]; omega
                  · have hjn : j = ns := by omega
                    subst hjn
                    obtain ⟨⟨rv, xs, hrs⟩, henv, _⟩ := HV.out.ri
                    have HRe : Hid (Calls Yba.prog 7 #[.pointer (some ⟨J, 0, none⟩)] wr fun e w' => e = .returned (.tuple #[]) ∧
                        ∃ k, RI d b A J A (d.outer (ord, fun _ => 0) k) k wr w' ∧ (∀ j, j < k → j < (d.outer (ord, fun _ => 0) j).1.length) ∧ ¬ k < (d.outer (ord, fun _ => 0) k).1.length) := reach_env henv HD.out hrs (fun _ => rfl)
                    clear hrs henv
                    go_wp2_with fail
                    refine HRe.out.mono ?_
                    rintro e w8 ⟨rfl, kk0, hri, hk1, hk2⟩
                    have hok0 : Bfs.Ok d.n (ord, fun _ => 0) := HV.out.ri.jcells.2.2.2
                    have hbd : Hid (∀ k u : Nat, (∀ j, j < k → j < (d.outer (ord, fun _ => 0) j).1.length) → (d.outer (ord, fun _ => 0) k).2 u ≤ 4096 * k) := fun k u => outer_bd HD.out hok0 (fun _ => rfl) k u
                    have HO0 : Hid _ := OS.start HV.out hri
                    have HE : Hid ((∀ j, j < kk0 → j < (d.outer (ord, fun _ => 0) j).1.length) ∧ ¬ kk0 < (d.outer (ord, fun _ => 0) kk0).1.length) := ⟨hk1, hk2⟩
                    clear hri hk1 hk2 HRe HV hok0
                    have mkA : ∀ W, (Instr.makeSlice 25 (.int .i64 (d.n : Int)) (.int .i64 (d.n : Int))).run Yba.prog W = .ok (.slice (some ⟨W.heap.size, 0, none⟩) d.n d.n) (W.alloc (.cells (madeCells #[.int .i32 0] d.n) 21)) := fun W => run_make_row' 25 21 _ 4 Yba.underlying25 info21 rfl .i64 .i64 d.n (by omega) (by omega) W
                    go_wp2_with fail
                    generalize w8.heap.size + 1 + 1 = Re at *
                    generalize w8.heap.size + 1 = Ba at *
                    generalize w8.heap.size = Cn at *
                    clear mkA mkV
                    go_loopw [26, 34] (fun ov kv wr => ∃ (k : Nat) (bf rf : Nat → Bool), k ≤ d.n ∧ kv = .int .i64 k ∧ Hid (OS d b A J A V Cn Ba Re w (d.outer (ord, fun _ => 0) kk0) kk0 (d.outer (ord, fun _ => 0) k) bf rf ov wr ∧ (∀ j, j < k → j < (d.outer (ord, fun _ => 0) j).1.length) ∧ (∀ i q, i < k → (d.outer (ord, fun _ => 0) k).1[i]? = some q → bf q = d.bareF q (d.len q) ∧ rf q = d.readF q (d.len q)) ∧ (∀ q, q ∉ (d.outer (ord, fun _ => 0) k).1.take k → rf q = false))) (fun _ kv _ => d.n - (intOf kv).toNat)
                    case atStart => exact ⟨0, _, _, by omega, rfl, HO0.out, fun j hj => absurd hj (Nat.not_lt_zero j), fun i q hi => absurd hi (Nat.not_lt_zero i), fun _ _ => rfl⟩
                    case round =>
                      clear HO0
                      obtain ⟨k, bf, rf, hk, rfl, HK⟩ := hrel
                      obtain ⟨hos, hall, hdone, hrf⟩ := HK.out
                      obtain ⟨oa, oc, rfl⟩ := owns_slice hos.o
                      have hlen := Bfs.length_le hos.ok.nodup hos.ok.lt
                      by_cases hlt : k < (d.outer (ord, fun _ => 0) k).1.length
                      · have hqk : (d.outer (ord, fun _ => 0) k).1[k]? = some ((d.outer (ord, fun _ => 0) k).1.getD k 0) := by rw [List.getD_eq_getElem?_getD, List.getElem?_eq_getElem hlt]; rfl
                        generalize hq : (d.outer (ord, fun _ => 0) k).1.getD k 0 = q at hqk
                        have hqn : q < d.n := hos.ok.lt q (List.mem_of_getElem? hqk)
                        obtain ⟨O, hO⟩ : ∃ O, oa = some ⟨O, 0, none⟩ := by
                          rcases hos.o.2 with ⟨_, h0⟩ | ⟨g, cap, cur, he, _⟩
                          · omega
                          · simp at he; exact ⟨g, he.1⟩
                        subst hO
                        have co : wr.cell? ⟨O, k, none⟩ = some (.int .i64 (q : Int)) := by rw [hos.o.cellAt k (by omega), List.getElem?_map, hqk]; rfl
                        have i83 := fun W => ix83 O _ oc k .i64 W hlt
                        have i70 := fun W => ix70 Ba d.n d.n q .i64 W hqn
                        have cb := hos.ba.cell hqn
                        have fb := hos.ba.frozen q
                        have hos1 := hos.setBa q true
                        have i1 := fun W => hix22.out q W hqn
                        have c1 := (hos1.be.cell (World.block_lt_of_cell? _ _ (hc22.out q hqn))).trans (hc22.out q hqn)
                        have hlq := len_bd HD.out hqn
                        have HS : Hid (OS d b A J A V Cn Ba Re w (d.outer (ord, fun _ => 0) kk0) kk0 (d.outer (ord, fun _ => 0) k) (fun i => if i = q then true else bf i) rf (.slice (some ⟨O, 0, none⟩) (d.outer (ord, fun _ => 0) k).1.length oc) (wr.setCell ⟨Ba, q, none⟩ (.bool true)) ∧ (∀ j, j < k → j < (d.outer (ord, fun _ => 0) j).1.length) ∧ (∀ i q, i < k → (d.outer (ord, fun _ => 0) k).1[i]? = some q → bf q = d.bareF q (d.len q) ∧ rf q = d.readF q (d.len q)) ∧ (∀ q, q ∉ (d.outer (ord, fun _ => 0) k).1.take k → rf q = false) ∧ (d.outer (ord, fun _ => 0) k).1[k]? = some q ∧ (d.outer (ord, fun _ => 0) k).1.getD k 0 = q ∧ rf q = false ∧ k < (d.outer (ord, fun _ => 0) k).1.length) := ⟨hos1, hall, hdone, hrf, hqk, hq, hrf q (own_fresh hos.ok hqk), hlt⟩
                        have hcb : ∀ u, (d.outer (ord, fun _ => 0) k).2 u ≤ 4096 * k := fun u => hbd.out k u hall
                        have hkm : k < d.n := by omega
                        clear hos hall hdone hrf hos1 hqk HK
                        generalize hso : d.outer (ord, fun _ => 0) k = so at *
                        generalize hm : so.1.length = m at i83 hlt hlen ⊢
                        go_wp2_with fail
                        go_loopw [26, 238] (fun ov iv wq => ∃ (i : Nat) (bf1 rf1 : Nat → Bool), i ≤ d.len q ∧ iv = .int .i64 i ∧ Hid (OS d b A J A V Cn Ba Re w (d.outer (ord, fun _ => 0) kk0) kk0 (d.inner q i so) bf1 rf1 ov wq ∧ bf1 q = d.bareF q i ∧ rf1 q = d.readF q i ∧ ∀ q', q' ≠ q → bf1 q' = bf q' ∧ rf1 q' = rf q')) (fun _ iv _ => d.len q - (intOf iv).toNat)
                        case atStart => exact ⟨0, _, _, by omega, rfl, by rw [← hm]; exact HS.out.1, by simp [Bfs.bareF], HS.out.2.2.2.2.2.2.1, fun q' hq' => by simp [hq']⟩
                        case round =>
                          clear co i83 i70 cb fb i1 c1
                          obtain ⟨i, bf1, rf1, hi, rfl, HX⟩ := hrel
                          obtain ⟨hos, hb1, hr1, hoth⟩ := HX.out
                          obtain ⟨oa2, oc2, rfl⟩ := owns_slice hos.o
                          by_cases hil : i < d.len q
                          · have i2 := fun W => hix24.out q i W hqn hil
                            obtain ⟨c0, c1, c2⟩ := hc24.out q i hqn hil
                            have c0 := (hos.be.cell (World.block_lt_of_cell? _ _ c0)).trans c0
                            have c1 := (hos.be.cell (World.block_lt_of_cell? _ _ c1)).trans c1
                            have c2 := (hos.be.cell (World.block_lt_of_cell? _ _ c2)).trans c2
                            obtain ⟨hk255, ht255⟩ := hkk.out q i
                            have hKi : ((kk q i : Nat) : Int) % 3 = (d.K q i : Int) := by rw [hK.out]; omega
                            have hTi : ((tt q i : Nat) : Int) % (d.n : Int) = (d.T q i : Int) := by rw [hT.out, Int.natCast_emod]
                            have hKb := HD.out.k q i hqn hil
                            have hTb := HD.out.t q i hqn hil
                            generalize hbd2 : bd q i = adk at *
                            obtain ⟨ab, aof, ap⟩ := adk
                            simp [Addr.add] at c1 c2
                            have hVl := hos.v.lt
                            have hCl := hos.c.lt
                            have hBl := hos.ba.lt
                            have hRl := hos.re.lt
                            obtain ⟨va, baa, raa, vc, bc2, rc2⟩ := hos.va
                            have cV := hos.v.cell hTb
                            have fV := hos.v.frozen (d.T q i)
                            have cC := hos.c.cell hTb
                            have fC := hos.c.frozen (d.T q i)
                            have cB := hos.ba.cell hqn
                            have fB := hos.ba.frozen q
                            have cR := hos.re.cell hqn
                            have fR := hos.re.frozen q
                            have iV := fun W => ix70 V d.n d.n (d.T q i) .i64 W hTb
                            have iC := fun W => ix25 Cn d.n d.n (d.T q i) .i64 W hTb
                            have iB := fun W => ix70 Ba d.n d.n q .i64 W hqn
                            have iR := fun W => ix70 Re d.n d.n q .i64 W hqn
                            have nBV := fun e : Ba = V => hos.vb e.symm
                            have nVB := hos.vb
                            have nCB := fun e : Cn = Ba => bc2 e.symm
                            have nCV := fun e : Cn = V => vc e.symm
                            have hcl : ((d.inner q i so).2 (d.T q i) : Int) ≤ 2000000 := by
                              have h1 := inner_bd d q i (d.T q i) so
                              have h2 := hcb (d.T q i)
                              omega
                            have HW : Hid (OS d b A J A V Cn Ba Re w (d.outer (ord, fun _ => 0) kk0) kk0 (d.inner q i so) bf1 rf1 (.slice oa2 (d.inner q i so).1.length oc2) (wr.alloc (.cells #[.int .u8 (kk q i : Int), .int .u8 (tt q i : Int), .bool (d.X q i)] 39))) := hos.new ((Fr.refl _ wr).alloc _)
                            have HB : Hid (bf1 q = d.bareF q i ∧ rf1 q = d.readF q i ∧ ∀ q', q' ≠ q → bf1 q' = bf q' ∧ rf1 q' = rf q') := ⟨hb1, hr1, hoth⟩
                            have HO1 : Hid (OS d b A J A V Cn Ba Re w (d.outer (ord, fun _ => 0) kk0) kk0 (d.inner q i so) bf1 rf1 (.slice oa2 (d.inner q i so).1.length oc2) wr) := hos
                            clear hos hb1 hr1 hoth HX
                            have hk012 : d.K q i = 0 ∨ d.K q i = 1 ∨ d.K q i = 2 := by omega
                            rcases hk012 with hk0 | hk0 | hk0
                            · have hKi0 : ((kk q i : Nat) : Int) % 3 = 0 := by rw [hKi, hk0]; rfl
                              have hin : d.incl q i = false := by simp [Dat.incl, Bfs.incl, hk0]
                              have hsame := inner_same d q i so hin
                              clear hKi
                              go_wp2_with fail
                              go_roundw
                              case rel => exact ⟨i + 1, bf1, rf1, by omega, by go_num, by rw [hsame]; exact HW.out, by rw [bare_succ, hin, HB.out.1]; simp, by rw [read_succ, hin, HB.out.2.1, hk0]; simp, HB.out.2.2⟩
                              case measure => simp [intOf]; omega
                            · have hKi0 : ((kk q i : Nat) : Int) % 3 = 1 := by rw [hKi, hk0]; rfl
                              clear hKi
                              cases hX : d.X q i
                              · have hin : d.incl q i = true := by simp [Dat.incl, Bfs.incl, hk0, hX]
                                rw [hX] at c2 HW
                                by_cases hmem : d.T q i ∈ (d.inner q i so).1
                                · rw [show decide (d.T q i ∈ (d.inner q i so).1) = true by simp [hmem]] at cV
                                  have hvis : d.inner q (i + 1) so = ((d.inner q i so).1, fun u => if u = d.T q i then (d.inner q i so).2 u + 1 else (d.inner q i so).2 u) := by
                                    rw [inner_succ _ _ _ _ hin]
                                    unfold Bfs.visit
                                    rw [if_pos hmem]
                                  have HC : Hid _ := ((HO1.out.setBa q false).count hmem).new ((Fr.refl _ _).alloc (.cells #[.int .u8 (kk q i : Int), .int .u8 (tt q i : Int), .bool false] 39))
                                  clear HO1 HW
                                  go_wp2_with fail
                                  go_roundw
                                  case rel => exact ⟨i + 1, _, _, by omega, by go_num, by rw [hvis]; exact HC.out, by rw [bare_succ, hin]; simp, by rw [read_succ, hin, HB.out.2.1]; simp, fun q' hq' => by simp [hq', HB.out.2.2 q' hq']⟩
                                  case measure => simp [intOf]; omega
                                · rw [show decide (d.T q i ∈ (d.inner q i so).1) = false by simp [hmem]] at cV
                                  have hvis : d.inner q (i + 1) so = ((d.inner q i so).1 ++ [d.T q i], fun u => if u = d.T q i then (d.inner q i so).2 u + 1 else (d.inner q i so).2 u) := by
                                    rw [inner_succ _ _ _ _ hin]
                                    unfold Bfs.visit
                                    rw [if_neg hmem]
                                  have hsb := (HO1.out.setBa q false).new ((Fr.refl _ _).alloc (.cells #[.int .u8 (kk q i : Int), .int .u8 (tt q i : Int), .bool false] 39))
                                  obtain ⟨v1, w2, happ', hpu⟩ := hsb.push HD.out hTb hmem
                                  have esz : ((wr.setCell ⟨Ba, q, none⟩ (.bool false)).alloc (.cells #[.int .u8 (kk q i : Int), .int .u8 (tt q i : Int), .bool false] 39)).heap.size = wr.heap.size + 1 := by simp
                                  have hVs : V < (wr.setCell ⟨Ba, q, none⟩ (.bool false)).heap.size := by simpa using hVl
                                  rw [esz, World.setCell_alloc_past _ _ _ _ hVs] at happ'
                                  have happ : Hid _ := happ'
                                  have cC2 := hpu.c.cell hTb
                                  have fC2 := hpu.c.frozen (d.T q i)
                                  obtain ⟨oa3, oc3, rfl⟩ := owns_slice hpu.o
                                  have hlen2 : ((d.inner q i so).1 ++ [d.T q i]).length = (d.inner q i so).1.length + 1 := by simp
                                  have hc2 := hpu.count (t := d.T q i) (by simp)
                                  dsimp only at hc2
                                  rw [hlen2] at hc2
                                  have HC : Hid _ := hc2
                                  clear hc2 hlen2
                                  clear hsb HO1 HW happ' hpu esz hVs
                                  go_wp2_with (at_builtin; refine list_app rfl _ _ _ rfl _ _ _ _ rfl rfl happ.out ?_)
                                  go_roundw
                                  case rel => exact ⟨i + 1, _, _, by omega, by go_num, by rw [hvis]; exact HC.out, by rw [bare_succ, hin]; simp, by rw [read_succ, hin, HB.out.2.1]; simp, fun q' hq' => by simp [hq', HB.out.2.2 q' hq']⟩
                                  case measure => simp [intOf]; omega
                              · have hin : d.incl q i = false := by simp [Dat.incl, Bfs.incl, hk0, hX]
                                have hsame := inner_same d q i so hin
                                rw [hX] at c2 HW
                                go_wp2_with fail
                                go_roundw
                                case rel => exact ⟨i + 1, bf1, rf1, by omega, by go_num, by rw [hsame]; exact HW.out, by rw [bare_succ, hin, HB.out.1]; simp, by rw [read_succ, hin, HB.out.2.1, hk0]; simp, HB.out.2.2⟩
                                case measure => simp [intOf]; omega
                            · have hKi0 : ((kk q i : Nat) : Int) % 3 = 2 := by rw [hKi, hk0]; rfl
                              clear hKi
                              have hin : d.incl q i = false := by simp [Dat.incl, Bfs.incl, hk0]
                              have hsame := inner_same d q i so hin
                              by_cases htq : d.T q i = q
                              · have htqb : ((d.T q i : Int) == (q : Int)) = true := by simp [htq]
                                have HR : Hid _ := (HO1.out.setRe q true).new ((Fr.refl _ _).alloc (.cells #[.int .u8 (kk q i : Int), .int .u8 (tt q i : Int), .bool (d.X q i)] 39))
                                clear HW HO1
                                go_wp2_with fail
                                go_roundw
                                case rel => exact ⟨i + 1, _, _, by omega, by go_num, by rw [hsame]; exact HR.out, by rw [bare_succ, hin, HB.out.1]; simp, by rw [read_succ, hin, hk0, htq]; simp, fun q' hq' => by simp [hq', HB.out.2.2 q' hq']⟩
                                case measure => simp [intOf]; omega
                              · have htqb : ((d.T q i : Int) == (q : Int)) = false := by simp; omega
                                go_wp2_with fail
                                go_roundw
                                case rel => exact ⟨i + 1, bf1, rf1, by omega, by go_num, by rw [hsame]; exact HW.out, by rw [bare_succ, hin, HB.out.1]; simp, by rw [read_succ, hin, HB.out.2.1]; simp [htq], HB.out.2.2⟩
                                case measure => simp [intOf]; omega
                          · have hie : i = d.len q := by omega
                            subst hie
                            have hout : d.outer (ord, fun _ => 0) (k + 1) = d.inner q (d.len q) so := by
                              show d.inner ((d.outer (ord, fun _ => 0) k).1.getD k 0) (d.len ((d.outer (ord, fun _ => 0) k).1.getD k 0)) (d.outer (ord, fun _ => 0) k) = _
                              rw [hso, HS.out.2.2.2.2.2.1]
                            have HF : Hid _ := own_end HS.out.2.2.2.2.1 hos.ok HS.out.2.2.1 HS.out.2.2.2.1 hb1 hr1 hoth
                            have HG : Hid _ := hos
                            clear hos hb1 hr1 hoth HX
                            go_wp2_with fail
                            go_roundw
                            case rel =>
                              refine ⟨k + 1, bf1, rf1, by omega, by go_num, ?_⟩
                              rw [hout]
                              refine ⟨HG.out, fun j hj => ?_, HF.out.1, HF.out.2⟩
                              by_cases hjk : j = k
                              · subst hjk; rw [hso]; exact HS.out.2.2.2.2.2.2.2
                              · exact HS.out.2.1 j (by omega)
                            case measure => simp [intOf]; omega
                      · have hke : k = kk0 := Bfs.same_end _ hall hlt HE.out.1 HE.out.2
                        subst hke
                        generalize d.outer (ord, fun _ => 0) k = S at *
                        have HDn : Hid (∀ i q, i < k → S.1[i]? = some q → bf q = d.bareF q (d.len q) ∧ rf q = d.readF q (d.len q)) := hdone
                        have HKs : Hid (¬ k < S.1.length) := hlt
                        have HO : Hid (OS d b A J A V Cn Ba Re w S k S bf rf (.slice oa S.1.length oc) wr) := hos
                        obtain ⟨ra1, cR1, j1, j2, jl⟩ := hos.joined
                        clear hos hall hdone hrf HK HE hbd
                        generalize hm : S.1.length = m at j1 hlen ⊢
                        go_wp2_with fail
                        go_loopw [309] (fun iv wq => ∃ j : Nat, j ≤ m ∧ iv = .int .i64 j ∧ Hid (OS d b A J A V Cn Ba Re w S k S bf rf (.slice oa S.1.length oc) wq)) (fun iv _ => m - (intOf iv).toNat)
                        case atStart => exact ⟨0, by omega, rfl, HO⟩
                        case round =>
                          clear HO j1 j2 jl
                          obtain ⟨j, hj, rfl, HO⟩ := hrel
                          by_cases hjl : j < m
                          · obtain ⟨r, hr⟩ : ∃ r, S.1[j]? = some r := ⟨S.1[j]'(by omega), List.getElem?_eq_getElem (by omega)⟩
                            obtain ⟨R, cR, j1, j2, jl, al, r0, r1, r2, r3, r4, r5, r6, r7, r8, ca, cc, cb, cr, hrn⟩ := HO.out.record HDn.out HKs.out hr
                            obtain ⟨O, hOa⟩ : ∃ O, oa = some ⟨O, 0, none⟩ := by
                              rcases HO.out.o.2 with ⟨_, h0⟩ | ⟨g, cap, cur, he, _⟩
                              · omega
                              · simp at he; exact ⟨g, he.1⟩
                            subst hOa
                            have co : wr.cell? ⟨O, j, none⟩ = some (.int .i64 (r : Int)) := by rw [HO.out.o.cellAt j (by omega), List.getElem?_map, hr]; rfl
                            have hVl := HO.out.v.lt
                            have hCl := HO.out.c.lt
                            have hBl := HO.out.ba.lt
                            have hRl := HO.out.re.lt
                            have i83 := fun W => ix83 O m oc j .i64 W hjl
                            rw [hm] at j1
                            have i79 := fun W => ix79 R m cR j .i64 W hjl
                            have iA := fun W => ix25 A d.n d.n r .i64 W hrn
                            have iC := fun W => ix25 Cn d.n d.n r .i64 W hrn
                            have iB := fun W => ix70 Ba d.n d.n r .i64 W hrn
                            have iR := fun W => ix70 Re d.n d.n r .i64 W hrn
                            have HO2 : Hid (∀ nq, OS d b A J A V Cn Ba Re w S k S bf rf (.slice (some ⟨O, 0, none⟩) S.1.length oc) ((wr.alloc (.cells #[.int .i32 r, .int .i32 (S.2 r), .bool (bf r), .bool (rf r), .bool false, .bool false, .bool false, .pointer none, .slice none 0 0] 87)).drewN nq)) := fun nq => HO.out.new (Fr.sm ((Fr.refl _ wr).alloc _) (Sm.drewN _ nq))
                            generalize S.2 r = c1 at *
                            generalize bf r = b1 at *
                            generalize rf r = b2 at *
                            clear HO
                            go_wp2_with fail
                            go_quiet (fail)
                            go_wp2_with fail
                            go_roundw
                            case rel => exact ⟨j + 1, by omega, by go_num, HO2.out _⟩
                            case measure => simp [intOf]; omega
                          · have hje : j = m := by omega
                            subst hje
                            go_wp2_with fail
                            go_loopw [42] (fun iv wq => ∃ j : Nat, j ≤ d.n ∧ iv = .int .i64 j ∧ Hid (OS d b A J A V Cn Ba Re w S k S bf rf (.slice oa S.1.length oc) wq)) (fun iv _ => d.n - (intOf iv).toNat)
                            case atStart => exact ⟨0, by omega, rfl, HO⟩
                            case round =>
                              clear HO
                              obtain ⟨j, hj, rfl, HO⟩ := hrel
                              by_cases hjl : j < d.n
                              · obtain ⟨ra1, cR1, j1, j2, jl⟩ := HO.out.joined
                                have cV := HO.out.v.cell hjl
                                have iV := fun W => ix70 V d.n d.n j .i64 W hjl
                                have iA := fun W => ix25 A d.n d.n j .i64 W hjl
                                by_cases hmem : j ∈ S.1
                                · rw [show decide (j ∈ S.1) = true by simp [hmem]] at cV
                                  go_wp2_with fail
                                  go_roundw
                                  case rel => exact ⟨j + 1, by omega, by go_num, HO⟩
                                  case measure => simp [intOf]; omega
                                · rw [show decide (j ∈ S.1) = false by simp [hmem]] at cV
                                  have cA := HO.out.unseen hjl hmem
                                  go_wp2_with fail
                                  go_roundw
                                  case rel => exact ⟨j + 1, by omega, by go_num, HO⟩
                                  case measure => simp [intOf]; omega
                              · have hje : j = d.n := by omega
                                subst hje
                                go_wp2_with fail
                                go_ret
                                exact ⟨rfl, HO.out.be⟩
end Go.Proofs.Ybulkqmo
