/-
  DERIVED. THE WALK of kvcache's grow and Reserve in a pool that caches.
-/
import Derived.Test.YbulkqjiFmtGrowC
namespace Go.Proofs.YbulkqjiFmt
open Go.RowKit
set_option linter.unusedVariables false

theorem FL.sm {w w' : World} {C E : Nat} {f : Nat → Value} {tot r : Int} (h : FL w C E f tot r) (k : Sm w' w) : FL w' C E f tot r := by
  rcases h with h | ⟨a1, a2, a3⟩
  · exact Or.inl h
  · refine Or.inr ⟨a1, a2, ?_⟩
    rcases a3 with ⟨b1, b2, b3, b4⟩ | h
    · exact Or.inl ⟨b1, b2, b3, k.row b4⟩
    · exact Or.inr h
theorem GR.sm {w : World} {C G E T base : Nat} {tot r : Int} {n k : Nat} {f g t : Nat → Value} {wr wr' : World} (H : GR w C G E T base tot r n k f g t wr) (h : Sm wr' wr) : GR w C G E T base tot r n k f g t wr' := by
  obtain ⟨⟨f', v', xs', u, ys, hC, hfe, h5, hv, hfl, hT, hu⟩, hG, hgap, hfr⟩ := H
  exact ⟨⟨f', v', xs', u, ys, h.row hC, hfe, h5, owns_block hv fun _ _ => by rw [h.heap], hfl.sm h, h.row hT, owns_block hu fun _ _ => by rw [h.heap]⟩, h.row hG, by rw [h.cell]; exact hgap, hfr.sm h⟩

set_option maxHeartbeats 1000000 in
set_option maxRecDepth 100000 in
theorem grow_c (C G E T base n m : Nat) (bs tot used peak pk tokens r : Int) (f g t : Nat → Value) (w : World) (L : Lay w C G E T base tot) (H0 : Hid (GR w C G E T base tot r n 0 f g t w))
    (f0 : f 0 = .int .i64 bs) (f1 : f 1 = .int .i64 tot) (f2 : f 2 = .int .i64 used) (f3 : f 3 = .pointer (some ⟨G, 0, none⟩)) (f4 : f 4 = .bool true) (f6 : f 6 = .slice none 0 0)
    (g0 : g 0 = .int .i64 used) (g1 : g 1 = .int .i64 peak) (t4 : t 4 = .int .i64 0)
    (b0 : 1 ≤ bs) (b1 : bs ≤ 16) (k0 : 0 ≤ tokens) (k1 : tokens ≤ 199) (hm : (tokens + bs - 1) / bs = m) (m1 : (m : Int) ≤ 1000) (t0 : 0 ≤ tot) (t1 : tot ≤ 1000) (u0 : 0 ≤ used) (u1 : used ≤ 900000)
    (hn : n ≤ 900000) (r1 : r ≤ 1000) (hr : Hid (tot = 0 ∨ r = tot - used)) (hroom : Hid (tot = 0 ∨ (m : Int) ≤ tot - used)) (hpk : Hid (pk = max peak (used + m))) :
    Calls Ybaf.prog 28 #[.pointer (some ⟨C, 0, none⟩), .pointer (some ⟨T, 0, none⟩), .int .i64 tokens] w fun e w' => e = .returned (.tuple #[.bool true, .nilIface]) ∧
      ∃ wr, GR w C G E T base tot r n m f g t wr ∧ Sm w' ((((wr.setCell ⟨T, 4, none⟩ (.int .i64 m)).setCell ⟨C, 2, none⟩ (.int .i64 (used + m))).setCell ⟨G, 0, none⟩ (.int .i64 (used + m))).setCell ⟨G, 1, none⟩ (.int .i64 pk)) := by
  have F : Hid (∀ (k : Nat) (W : World), GR w C G E T base tot r n k f g t W → W.cell? ⟨C, 0, none⟩ = some (.int .i64 bs) ∧ W.cell? ⟨C, 2, none⟩ = some (.int .i64 used) ∧ W.cell? ⟨C, 3, none⟩ = some (.pointer (some ⟨G, 0, none⟩)) ∧ W.cell? ⟨C, 4, none⟩ = some (.bool true) ∧
      W.cell? ⟨G, 0, none⟩ = some (.int .i64 used) ∧ W.cell? ⟨G, 1, none⟩ = some (.int .i64 peak) ∧ W.cell? ⟨T, 4, none⟩ = some (.int .i64 0) ∧ W.frozen? ⟨C, 2, none⟩ = false ∧ W.frozen? ⟨G, 0, none⟩ = false ∧ W.frozen? ⟨G, 1, none⟩ = false ∧ W.frozen? ⟨T, 4, none⟩ = false) := by
    intro k W H
    obtain ⟨⟨f', v', xs', u, ys, hC, hfe, h5, hv, hfl, hT, hu⟩, hG, hgap, hfr⟩ := H
    have a0 := hC.cell (i := 0) (by omega); rw [hfe 0 (by omega) (by omega) (by omega), f0] at a0
    have a2 := hC.cell (i := 2) (by omega); rw [hfe 2 (by omega) (by omega) (by omega), f2] at a2
    have a3 := hC.cell (i := 3) (by omega); rw [hfe 3 (by omega) (by omega) (by omega), f3] at a3
    have a4 := hC.cell (i := 4) (by omega); rw [hfe 4 (by omega) (by omega) (by omega), f4] at a4
    have e0 := hG.cell (i := 0) (by omega); rw [g0] at e0
    have e1 := hG.cell (i := 1) (by omega); rw [g1] at e1
    have e4 := hT.cell (i := 4) (by omega); simp [t4] at e4
    exact ⟨a0, a2, a3, a4, e0, e1, e4, hC.frozen 2, hG.frozen 0, hG.frozen 1, hT.frozen 4⟩
  have R : Hid (∀ q, Calls Ybaf.prog 14 #[.pointer (some ⟨C, 0, none⟩), .int .i64 m, .int .i64 m] (w.drewN q) fun e w' => e = .returned (.tuple #[.bool true, .nilIface]) ∧ ∃ q', w' = (w.drewN q).drewN q') := by
    intro q
    obtain ⟨⟨f', v', xs', u, ys, hC, hfe, h5, hv, hfl, hT, hu⟩, _, _, _⟩ := H0.out
    obtain ⟨ao, cap, rfl⟩ := owns_slice hv
    have a1 := hC.cell (i := 1) (by omega); rw [hfe 1 (by omega) (by omega) (by omega), f1] at a1
    have a2 := hC.cell (i := 2) (by omega); rw [hfe 2 (by omega) (by omega) (by omega), f2] at a2
    have a4 := hC.cell (i := 4) (by omega); rw [hfe 4 (by omega) (by omega) (by omega), f4] at a4
    have a5 := hC.cell (i := 5) (by omega); rw [h5] at a5
    have a6 := hC.cell (i := 6) (by omega); rw [hfe 6 (by omega) (by omega) (by omega), f6] at a6
    by_cases hz : tot = 0
    · subst hz
      exact room_unlc C _ cap ao used m m (w.drewN q) a1 a2 a4 a5 a6 (by omega) (by omega)
    · refine (room_lim C tot used m m (w.drewN q) a1 a2 (by omega) (by omega) (by omega) (by omega)).mono ?_
      rintro e w' ⟨rfl, hq⟩
      have := hroom.out
      rw [show decide ((m : Int) ≤ tot - used) = true by simp; omega]
      exact ⟨rfl, hq⟩
  have hcg := L.cg
  have hct : C ≠ T := fun e => by have := L.cb; have := L.tb; omega
  have hgt : G ≠ T := fun e => by have := L.gb; have := L.tb; omega
  have hp : (peak < used + m ∧ pk = used + m) ∨ (used + m ≤ peak ∧ pk = peak) := by have := hpk.out; omega
  obtain ⟨c0, c2, c3, c4, d0, d1, d4, ff2, fg0, fg1, ft4⟩ := F.out 0 w H0.out
  have HL : Hid (Lay w C G E T base tot) := L
  have F1 : Hid (f 1 = .int .i64 tot) := f1
  have F6 : Hid (f 6 = .slice none 0 0) := f6
  clear f0 f1 f2 f3 f4 f6 g0 g1 t4 L
  rcases hp with ⟨hp, rfl⟩ | ⟨hp, rfl⟩
  all_goals
    go_enter Ybaf.func28, Ybaf.ntmps28
    go_wp2_with fail
    go_quiet (fail)
    go_wp2_with fail
    refine (R.out _).mono ?_
    rintro e w' ⟨rfl, q, rfl⟩
    go_wp2_with fail
    go_loopw [43] (fun i wr => ∃ k : Nat, k ≤ m ∧ i = .int .i64 k ∧ Hid (GR w C G E T base tot r n k f g t wr)) (fun i _ => m - (intOf i).toNat)
    case atStart =>
      exact ⟨0, by omega, rfl, H0.out.sm ⟨rfl, rfl, rfl, rfl⟩⟩
    case round =>
      clear c0 c2 c3 c4 d0 d1 d4 ff2 fg0 fg1 ft4
      obtain ⟨k, hk, rfl, hgr⟩ := hrel
      obtain ⟨c0, c2, c3, c4, d0, d1, d4, ff2, fg0, fg1, ft4⟩ := F.out k wr hgr.out
      by_cases hlt : k < m
      · obtain ⟨ao, cap, hcT, hT⟩ := gr_step HL.out hgr.out F1.out F6.out (by have := hr.out; have := hroom.out; omega) r1 (by omega)
        have HT : Hid (Calls Ybaf.prog 40 #[.pointer (some ⟨C, 0, none⟩)] wr.drew fun e w1 => e = .returned (.int .i32 ((n + k : Nat) : Int)) ∧ w1.cell? ⟨T, 5, none⟩ = some (.slice ao k cap) ∧ T < w1.heap.size ∧
          ∃ (ao' : Option Addr) (cap' : Nat) (w2 : World), (Builtin.append_ #[38, 38] 38 #[.slice ao k cap, .slice (some ⟨w1.heap.size, 0, none⟩) 1 1]).run Ybaf.prog (w1.alloc (.cells #[.int .i32 ((n + k : Nat) : Int)] 21)) = .ok (.slice ao' (k + 1) cap') w2 ∧
            w2.cell? ⟨T, 5, none⟩ = some (.slice ao k cap) ∧ w2.frozen? ⟨T, 5, none⟩ = false ∧ GR w C G E T base tot r n (k + 1) f g t (w2.setCell ⟨T, 5, none⟩ (.slice ao' (k + 1) cap'))) := hT
        clear hT
        generalize hx : ((n + k : Nat) : Int) = x at HT
        clear hx
        go_wp2_with fail
        go_region_law (first | (refine step_app rfl (.tmp 49) (.tmp 52) 38 rfl _ _ _ _ rfl rfl hrun ?_) | (go_simp; go_at_call 40; refine HT.out.mono ?_; rintro e w1 ⟨rfl, hc1, hTw, ao', cap', w2, hrun, hc2, hf2, HN⟩))
        all_goals
          go_wp2_with fail
          go_roundw
          case rel => exact ⟨k + 1, by omega, by go_num, HN⟩
          case measure => simp [intOf]; omega
      · obtain rfl : k = m := by omega
        go_wp2_with fail
        go_region
        all_goals
          go_wp2_with fail
          go_ret2
          exact ⟨rfl, wr, hgr.out, rfl, rfl, rfl, rfl⟩
end Go.Proofs.YbulkqjiFmt
