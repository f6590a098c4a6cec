/-
  DERIVED. THE WALK of octets.LawS0838AAgrees.
-/
import Derived.Test.YbulkqigFmtParse
import Derived.Deep.QuietTactic
import Derived.BigQuiet
namespace Go.Proofs.YbulkqigFmt
open Go.RowKit Go.Extern.Stop Go.Stop Go.Extern

theorem rowDrewN {w : World} {b n : Nat} {t : TypeId} {f : Nat → Value} (h : w.rowIs b t n f) (q : Nat) : (w.drewN q).rowIs b t n f := h.of_block (by simp)

set_option maxHeartbeats 1000000 in
set_option maxRecDepth 1000000 in
theorem agrees_any (F : Interp) (s : ByteArray) (w : World) (hF : F.answers w.tape) :
    Calls Ybaf.prog 4 #[.string s] w fun e w' => e = .returned (.bool true) ∧ Below w.heap.size w w' := by
  by_cases hbig : (1024 : Int) < (s.size : Int)
  · go_enter Ybaf.func4, Ybaf.ntmps4
    go_wp2
    go_ret
    exact ⟨rfl, Below.refl _ _⟩
  have hs : s.size ≤ 1024 := by omega
  clear hbig
  go_enter Ybaf.func4, Ybaf.ntmps4
  go_wp2
  go_loopw [3, 4] (fun ok i wr => ∃ (k : Nat) (b : Bool), k ≤ s.size ∧ i = .int .i64 k ∧ ok = .bool b ∧ w = wr ∧ Hid (b = true ↔ (hexBelow s k ∧ s.size % 2 = 0))) (fun _ i _ => s.size - (intOf i).toNat)
  case atStart => exact ⟨0, _, by omega, rfl, rfl, rfl, by constructor <;> intro h <;> simp at h ⊢ <;> first | exact ⟨fun j hj => by omega, by omega⟩ | omega⟩
  case round =>
    obtain ⟨k, b, hk, rfl, rfl, rfl, hb⟩ := hrel
    by_cases hlt : k < s.size
    · have r1 := idxRun s k hlt k rfl
      obtain ⟨b0, b1⟩ := bt_bounds s k
      have C1 : Hid (∀ W : World, Calls Ybaf.prog 9 #[.int .u8 (bt s k)] W fun e w' => e = .returned (.int .i64 (dg (bt s k))) ∧ W = w') := fun W => (aval_any _ W b0 b1).mono fun _ _ h => ⟨h.1, h.2.symm⟩
      by_cases hd : dg (bt s k) < 0
      · have HN : Hid (false = true ↔ (hexBelow s (k + 1) ∧ s.size % 2 = 0)) := ⟨(fun h => by cases h), fun h => absurd h.1 (hex_not (Nat.lt_succ_self k) hd)⟩
        generalize bt s k = c at *
        generalize dg c = d at *
        go_wp2_with (go_at_call 9; refine (C1.out _).mono ?_; rintro e w' ⟨rfl, rfl⟩)
        go_roundw
        case rel => exact ⟨k + 1, false, by omega, by go_num, rfl, trivial, HN.out⟩
        case measure => simp [intOf]; omega
      · have HN : Hid (b = true ↔ (hexBelow s (k + 1) ∧ s.size % 2 = 0)) := ⟨fun h => ⟨hex_step (hb.out.1 h).1 (by omega), (hb.out.1 h).2⟩, fun h => hb.out.2 ⟨fun j hj => h.1 j (by omega), h.2⟩⟩
        have hd' : 0 ≤ dg (bt s k) := by omega
        clear hd
        generalize bt s k = c at *
        generalize dg c = d at *
        go_wp2_with (go_at_call 9; refine (C1.out _).mono ?_; rintro e w' ⟨rfl, rfl⟩)
        go_roundw
        case rel => exact ⟨k + 1, b, by omega, by go_num, rfl, trivial, HN.out⟩
        case measure => simp [intOf]; omega
    · obtain rfl : k = s.size := by omega
      go_wp2_with fail
      refine (parse_any F s _ hF (by omega)).mono ?_
      intro e w1 hP
      rcases hP with ⟨hgood, rfl, hrow, hbel⟩ | ⟨hbad, ⟨a, rfl⟩, hbel⟩
      · obtain rfl : b = true := hb.out.2 hgood
        obtain ⟨m, hm⟩ : ∃ m, m = s.size / 2 := ⟨_, rfl⟩
        have hx : Hid (hexBelow s s.size) := hgood.1
        rw [← hm] at hrow ⊢
        have hne : ((m : Int) != (s.size : Int) / 2) = false := by simp; omega
        have hm2 : 2 * m ≤ s.size := by omega
        clear hm hgood hb
        go_wp2_with fail
        go_loopw [7] (fun i wr => ∃ k : Nat, k ≤ m ∧ i = .int .i64 k ∧ wr.rowIs (w.heap.size + 1) 5 m (fun j => .int .u8 (oct s j)) ∧ Below w.heap.size w wr) (fun i _ => m - (intOf i).toNat)
        case atStart => exact ⟨0, by omega, rfl, hrow, hbel⟩
        case round =>
          clear hrow hbel
          obtain ⟨k, hk, rfl, hrow, hbel⟩ := hrel
          by_cases hkm : k < m
          · have r1 := idxRun s (2 * k) (by omega) (2 * (k : Int)) (by omega)
            have r2 := idxRun s (2 * k + 1) (by omega) (2 * (k : Int) + 1) (by omega)
            have hc := hrow.cell hkm
            have hkI : (k : Int) < (m : Int) := by omega
            obtain ⟨b10, b11⟩ := bt_bounds s (2 * k)
            obtain ⟨b20, b21⟩ := bt_bounds s (2 * k + 1)
            have d10 : 0 ≤ dg (bt s (2 * k)) := hx.out _ (by omega)
            have d11 := dg_le (bt s (2 * k))
            have d20 : 0 ≤ dg (bt s (2 * k + 1)) := hx.out _ (by omega)
            have d21 := dg_le (bt s (2 * k + 1))
            have HR : Hid (wr.rowIs (w.heap.size + 1) 5 m (fun j => .int .u8 (oct s j))) := hrow
            unfold oct at hc
            have C1 : Hid (∀ W : World, Calls Ybaf.prog 9 #[.int .u8 (bt s (2 * k))] W fun e w' => e = .returned (.int .i64 (dg (bt s (2 * k)))) ∧ w' = W) := fun W => aval_any _ W b10 b11
            have C2 : Hid (∀ W : World, Calls Ybaf.prog 9 #[.int .u8 (bt s (2 * k + 1))] W fun e w' => e = .returned (.int .i64 (dg (bt s (2 * k + 1)))) ∧ w' = W) := fun W => aval_any _ W b20 b21
            generalize bt s (2 * k) = c1 at *
            generalize bt s (2 * k + 1) = c2 at *
            generalize dg c1 = d1 at *
            generalize dg c2 = d2 at *
            clear hrow
            have ew1 := wrapS (2 * (k : Int)) (by omega) (by omega)
            have ew2 := wrapS (2 * (k : Int) + 1) (by omega) (by omega)
            have ew3 := wrapS (d1 * 16) (by omega) (by omega)
            have ew4 := wrapS (d1 * 16 + d2) (by omega) (by omega)
            go_wp2_with fail
            go_quiet (first | (go_at_call_of 9 c1; exact Calls.quiet_of_same (C1.out _)) | (go_at_call_of 9 c2; exact Calls.quiet_of_same (C2.out _)))
            go_wp2_with fail
            go_roundw
            case rel => exact ⟨k + 1, by omega, by go_num, rowDrewN HR.out _, below_drewN hbel _⟩
            case measure => simp [intOf]; omega
          · go_wp2_with fail
            go_ret
            exact ⟨rfl, hbel⟩
      · obtain rfl : b = false := by
          cases b
          · rfl
          · exact absurd (hb.out.1 rfl) hbad
        have hq : ∀ W : World, (binOp .eql 22 (.slice none 0 0) (.slice none 0 0)).run Ybaf.prog W = .ok (.bool true) W := fun _ => by kernel_rfl
        clear hbad hb
        go_wp2_with fail
        go_ret
        exact ⟨rfl, hbel⟩
end Go.Proofs.YbulkqigFmt
