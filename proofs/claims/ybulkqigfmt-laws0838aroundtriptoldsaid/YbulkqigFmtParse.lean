/-
  DERIVED. THE WALK of octets.ParseHex.
-/
import Derived.Test.YbulkqigFmtHex
import Derived.Deep.RegionWith
import Derived.Deep.OwnRows
import Derived.Laws.RangeAny
namespace Go.Proofs.YbulkqigFmt
open Go.RowKit Go.Extern.Stop Go.Stop Go.Extern

/-- The j-th byte of a string. -/
def bt (s : ByteArray) (j : Nat) : Int := ((s.data.toList.getD j 0).toNat : Int)
theorem bt_bounds (s : ByteArray) (j : Nat) : 0 ≤ bt s j ∧ bt s j ≤ 255 := by
  unfold bt
  have := (s.data.toList.getD j 0).toNat_lt
  omega
theorem bt_at (s : ByteArray) (j : Nat) (h : j < s.size) : ((s[j]'h).toNat : Int) = bt s j := by
  unfold bt
  have hj : j < s.data.toList.length := by simpa using h
  rw [List.getD_eq_getElem?_getD, List.getElem?_eq_getElem hj]
  rfl
theorem idxRun (s : ByteArray) (j : Nat) (h : j < s.size) (i : Int) (hi : i = j) (w : World) : (Instr.index 9 (.string s) (.int .i64 i)).run Ybaf.prog w = .ok (.int .u8 (bt s j)) w := by
  rw [run_index_string w 9 s .i64 i Ybaf.underlying9, ← bt_at s j h]
  subst hi
  simp [h]

/-- All bytes below k are hex digits. -/
def hexBelow (s : ByteArray) (k : Nat) : Prop := ∀ j, j < k → 0 ≤ dg (bt s j)

theorem hex_step {s : ByteArray} {k : Nat} (h : hexBelow s k) (h1 : 0 ≤ dg (bt s k)) : hexBelow s (k + 1) := fun j hj => by
  by_cases e : j = k
  · subst e; exact h1
  · exact h j (by omega)
theorem hex_not {s : ByteArray} {k n : Nat} (hk : k < n) (h1 : dg (bt s k) < 0) : ¬ hexBelow s n := fun h => by
  have := h k hk
  omega
theorem dg_high (c : Int) (h : 128 ≤ c) : dg c < 0 := by
  unfold dg
  repeat' split
  all_goals omega
theorem dg_le (c : Int) : dg c ≤ 15 := by
  unfold dg
  repeat' split
  all_goals omega

/-- A small number does not wrap. -/
theorem wrapS (n : Int) (h0 : 0 ≤ n) (h1 : n ≤ 1000000) : IntKind.i64.wrap n = n := by rw [IntKind.wrap_i64]; omega
theorem wrapB (n : Int) (h0 : 0 ≤ n) (h1 : n < 256) : IntKind.u8.wrap n = n := by rw [IntKind.wrap_u8]; omega
theorem or_fin : ∀ a b : Fin 16, bits .or .i64 ((a.val : Int) * 16) (b.val : Int) = (a.val : Int) * 16 + (b.val : Int) := by decide +kernel
theorem or_two (d1 d2 : Int) (h1 : 0 ≤ d1) (h2 : d1 ≤ 15) (h3 : 0 ≤ d2) (h4 : d2 ≤ 15) : bits .or .i64 (d1 * 16) d2 = d1 * 16 + d2 := by
  have := or_fin ⟨d1.toNat, by omega⟩ ⟨d2.toNat, by omega⟩
  simp only at this
  rwa [Int.toNat_of_nonneg h1, Int.toNat_of_nonneg h3] at this

/-- The octet that two digits write. -/
def oct (s : ByteArray) (j : Nat) : Int := dg (bt s (2 * j)) * 16 + dg (bt s (2 * j + 1))

/-- What ParseHex does. -/
def Parsed (s : ByteArray) (w : World) (e : Ending) (w' : World) : Prop :=
  ((hexBelow s s.size ∧ s.size % 2 = 0) ∧ e = .returned (.tuple #[.slice (some ⟨w.heap.size + 1, 0, none⟩) (s.size / 2) (s.size / 2), .nilIface]) ∧ w'.rowIs (w.heap.size + 1) 5 (s.size / 2) (fun j => .int .u8 (oct s j)) ∧ Below w.heap.size w w') ∨
  (¬ (hexBelow s s.size ∧ s.size % 2 = 0) ∧ (∃ a, e = .returned (.tuple #[.slice none 0 0, .iface 50 (.pointer (some a))])) ∧ Below w.heap.size w w')

theorem iterBelow (w : World) (s : ByteArray) (pos : Nat) : Below w.heap.size w (w.iter s pos) := (Below.refl _ w).alloc (Nat.le_refl _) _
theorem iterSize (w : World) (s : ByteArray) (pos : Nat) : (w.iter s pos).heap.size = w.heap.size + 1 := by unfold World.iter; simp

set_option maxHeartbeats 1000000 in
set_option maxRecDepth 1000000 in
theorem parse_any (F : Interp) (s : ByteArray) (w : World) (hF : F.answers w.tape) (hs : s.size ≤ 4096) :
    Calls Ybaf.prog 8 #[.string s] w fun e w' => Parsed s w e w' := by
  go_enter Ybaf.func8, Ybaf.ntmps8
  go_wp2
  go_loopw [4, 6] (fun n _ wr => ∃ pos : Nat, pos ≤ s.size ∧ wr = w.iter s pos ∧ n = .int .i64 pos ∧ Hid (hexBelow s pos)) (fun n _ _ => s.size - (intOf n).toNat)
  case atStart => exact ⟨0, by omega, rfl, rfl, fun j hj => by omega⟩
  case round =>
    obtain ⟨pos, hp, rfl, rfl, hx⟩ := hrel
    by_cases hlt : pos < s.size
    · by_cases ha : (s[pos]'hlt).toNat < 128
      · have hnx := fun ty => run_next_ascii (P := Ybaf.prog) w s pos ty hlt ha
        have eb := bt_at s pos hlt
        generalize hc : (s[pos]'hlt).toNat = c at hnx ha eb
        obtain ⟨b0, b1⟩ := bt_bounds s pos
        have EB : Hid ((c : Int) = bt s pos) := eb
        clear eb hc
        by_cases hd : dg c < 0
        · go_wp2_with (go_at_call 14; refine (digit_any _ _ ?_ ?_).mono ?_; omega; omega; rintro e w' ⟨rfl, rfl⟩)
          refine (errorfA F (pos + 1) c _ _ ?_ ?_ ?_).mono ?_
          · exact hF
          · go_simp
          · go_simp
          rintro e w' ⟨tx, rfl, rfl⟩
          go_wp2
          go_ret2
          refine Or.inr ⟨fun h => hex_not hlt (by rw [← EB.out]; exact hd) h.1, ⟨_, rfl⟩, ?_⟩
          exact (((iterBelow w s _).alloc (by rw [iterSize]; omega) _).alloc (by simp [iterSize]; omega) _).drew
        · have hd' : 0 ≤ dg c := by omega
          have HS : Hid (hexBelow s (pos + 1)) := hex_step hx.out (by rw [← EB.out]; exact hd')
          go_wp2_with (go_at_call 14; refine (digit_any _ _ ?_ ?_).mono ?_; omega; omega; rintro e w' ⟨rfl, rfl⟩)
          go_roundw
          case rel => exact ⟨pos + 1, by omega, rfl, by go_num, HS.out⟩
          case measure => simp [intOf]; omega
      · have hnx := fun ty => run_next_any (P := Ybaf.prog) w s pos ty hlt
        have eb := bt_at s pos hlt
        have hdh := decode_high s pos hlt (by omega)
        have hdl := decode_le s pos
        have HN : Hid (¬ hexBelow s s.size) := hex_not hlt (dg_high _ (by rw [← eb]; omega))
        generalize (Utf8.decode s pos).1 = c at hnx hdh hdl
        generalize (Utf8.decode s pos).2 = d at hnx hdh
        obtain ⟨hdh, hdp⟩ := hdh
        clear eb ha
        go_wp2_with fail
        refine (errorfA F (pos + 1) c _ _ ?_ ?_ ?_).mono ?_
        · exact hF
        · go_simp
        · go_simp
        rintro e w' ⟨tx, rfl, rfl⟩
        go_wp2
        go_ret2
        refine Or.inr ⟨fun h => HN.out h.1, ⟨_, rfl⟩, ?_⟩
        exact (((iterBelow w s _).alloc (by rw [iterSize]; omega) _).alloc (by simp [iterSize]; omega) _).drew
    · obtain rfl : pos = s.size := by omega
      have hnx := fun ty => run_next_end (P := Ybaf.prog) w s s.size ty hlt
      by_cases hod : ((s.size : Int) % 2 != 0) = true
      · go_wp2_with fail
        refine (errorfB F s.size _ _ ?_ ?_).mono ?_
        · exact hF
        · go_simp
        rintro e w' ⟨tx, rfl, rfl⟩
        go_wp2
        go_ret2
        refine Or.inr ⟨fun h => ?_, ⟨_, rfl⟩, ?_⟩
        · have := h.2
          simp at hod
          omega
        · exact (((iterBelow w s _).alloc (by rw [iterSize]; omega) _).alloc (by simp [iterSize]; omega) _).drew
      · have hod' : ((s.size : Int) % 2 != 0) = false := by simpa using hod
        have hev : s.size % 2 = 0 := by simp at hod; omega
        clear hod
        obtain ⟨m, hm⟩ : ∃ m, m = s.size / 2 := ⟨_, rfl⟩
        have HM : Hid (m = s.size / 2) := hm
        have hm2 : 2 * m ≤ s.size := by omega
        have hmk := fun W : World => run_make_row' (P := Ybaf.prog) 22 5 (.int .u8 0) 1 Ybaf.underlying22 (by kernel_rfl) rfl .i64 .i64 m (by omega) (by omega) W
        rw [show ((m : Nat) : Int) = (s.size : Int) / 2 by omega] at hmk
        clear hm
        have hz := iterSize w s s.size
        go_wp2_with fail
        go_loopw [45, 8] (fun i _ wr => ∃ k : Nat, k ≤ m ∧ i = .int .i64 k ∧ wr.rowIs (w.heap.size + 1) 5 m (fun j => .int .u8 (if j < k then oct s j else 0)) ∧ Below w.heap.size w wr) (fun i _ _ => m - (intOf i).toNat)
        case atStart =>
          refine ⟨0, by omega, rfl, ?_, (iterBelow w s _).alloc (by rw [iterSize]; omega) _⟩
          have := World.rowIs_made (w.iter s s.size) (.int .u8 0) m 5
          rw [iterSize] at this
          exact this.congr fun j hj => by simp
        case round =>
          obtain ⟨k, hk, rfl, hrow, hbel⟩ := hrel
          by_cases hkm : k < m
          · have r1 := idxRun s (2 * k) (by omega) (2 * (k : Int)) (by omega)
            have r2 := idxRun s (2 * k + 1) (by omega) (2 * (k : Int) + 1) (by omega)
            have hc := hrow.cell hkm
            have hf := hrow.frozen k
            have hkI : (k : Int) < (m : Int) := by omega
            obtain ⟨b10, b11⟩ := bt_bounds s (2 * k)
            obtain ⟨b20, b21⟩ := bt_bounds s (2 * k + 1)
            have d10 : 0 ≤ dg (bt s (2 * k)) := hx.out _ (by omega)
            have d11 := dg_le (bt s (2 * k))
            have d20 : 0 ≤ dg (bt s (2 * k + 1)) := hx.out _ (by omega)
            have d21 := dg_le (bt s (2 * k + 1))
            have HO : Hid (oct s k = dg (bt s (2 * k)) * 16 + dg (bt s (2 * k + 1))) := rfl
            have HR : Hid (wr.rowIs (w.heap.size + 1) 5 m (fun j => .int .u8 (if j < k then oct s j else 0))) := hrow
            have C1 : Hid (∀ W : World, Calls Ybaf.prog 14 #[.int .u8 (bt s (2 * k))] W fun e w' => e = .returned (.int .i64 (dg (bt s (2 * k)))) ∧ W = w') := fun W => (digit_any _ W b10 b11).mono fun _ _ h => ⟨h.1, h.2.symm⟩
            have C2 : Hid (∀ W : World, Calls Ybaf.prog 14 #[.int .u8 (bt s (2 * k + 1))] W fun e w' => e = .returned (.int .i64 (dg (bt s (2 * k + 1)))) ∧ W = w') := fun W => (digit_any _ W b20 b21).mono fun _ _ h => ⟨h.1, h.2.symm⟩
            generalize bt s (2 * k) = c1 at *
            generalize bt s (2 * k + 1) = c2 at *
            generalize dg c1 = d1 at *
            generalize dg c2 = d2 at *
            clear hrow
            have hor := or_two d1 d2 d10 d11 d20 d21
            go_wp2_with fail
            have ew1 := wrapS (2 * (k : Int)) (by omega) (by omega)
            have ew2 := wrapS (2 * (k : Int) + 1) (by omega) (by omega)
            have ew3 := wrapS (d1 * 16) (by omega) (by omega)
            have ew4 := wrapB (d1 * 16 + d2) (by omega) (by omega)
            go_region_with (first | (go_at_call_of 14 c1; refine (C1.out _).mono ?_; rintro e w' ⟨rfl, rfl⟩) | (go_at_call_of 14 c2; refine (C2.out _).mono ?_; rintro e w' ⟨rfl, rfl⟩))
            all_goals
              go_wp2_with fail
              go_roundw
              case rel =>
                refine ⟨k + 1, by omega, by go_num, ?_, ?_⟩
                · refine (HR.out.drew.set k (.int .u8 (d1 * 16 + d2))).congr fun j hj => ?_
                  by_cases e : j = k
                  · subst e
                    simp [HO.out]
                  · have e2 : (j < k + 1) = (j < k) := by simp; omega
                    simp [e, e2]
                · exact (hbel.drew).setCell (by simp) _
              case measure => simp [intOf]; omega
          · obtain rfl : k = m := by omega
            go_wp2_with fail
            go_ret2
            refine Or.inl ⟨⟨hx.out, hev⟩, ?_, ?_, hbel⟩
            · rw [← HM.out]; rfl
            · rw [← HM.out]
              exact hrow.congr fun j hj => by simp [hj]
end Go.Proofs.YbulkqigFmt
