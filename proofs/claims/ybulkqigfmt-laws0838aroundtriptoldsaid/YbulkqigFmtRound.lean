/-
  DERIVED. THE WALK of octets.LawS0838ARoundTrip.
-/
import Derived.Test.YbulkqigFmtParse
import Derived.Deep.QuietTactic
import Derived.BigQuiet
import Derived.Lib.JoinLaws
import Derived.Laws.BytesArg
import Derived.ArgAppend
namespace Go.Proofs.YbulkqigFmt
open Go.RowKit Go.Extern.Stop Go.Stop Go.Extern

theorem info5 : (Ybaf.prog.info? 5).map (fun i => (i.zero, i.size, i.bytes)) = some (some (.int .u8 0), 1, 1) := by kernel_rfl

/-- 'append(t, x)', t a row of bytes of the call's own, with room. -/
theorem wp_app (w : World) {ops : Array Oper} {rest : List Oper} {o : Oper} {a : Act} {Q : Exit → Act → World → Prop}
    (hg : o.guard = none) (s x : Operand) (hop : o.op = Op.call { callee := Callee.builtin Builtin.append, args := #[s, x], argTypes := #[22, 22] })
    (B n cap : Nat) (f : Nat → Value) (hs : a.eval s = .slice (some ⟨B, 0, none⟩) n cap) (ad : Addr) (v : Value) (hx : a.eval x = .slice (some ad) 1 1) (hv : w.cell? ad = some v) (h1 : v.oneCell' = true)
    (hrow : w.rowIs B 5 cap f) (hn : n < cap)
    (hK : wpList Ybaf.prog ops Q rest (a.put o.dst (.slice (some ⟨B, 0, none⟩) (n + 1) cap)) (w.setCell ⟨B, n, none⟩ v)) :
    wpList Ybaf.prog ops Q (o :: rest) a w := by
  refine wpList_plain hg fun K hK' => ?_
  obtain ⟨i, hi, hzz⟩ := Option.map_eq_some_iff.1 info5
  simp only [Prod.mk.injEq] at hzz
  obtain ⟨_, hs1, _⟩ := hzz
  have hrun := run_append_room_cells (P := Ybaf.prog) w 22 o.type 5 i Ybaf.underlying22 hi B 0 n cap ad 1 1 [v] (by simp [hs1])
    (fun j u hj => by
      match j, hj with
      | 0, hj => simp at hj; subst hj; simpa [Addr.add] using hv) (by intro u hu; simp at hu; subst hu; exact h1) (by omega)
    (fun j hj => by
      have : j = 0 := by simp at hj; omega
      subst this
      rw [hs1]
      have := hrow.cell hn
      simp [this]) (fun j hj => by rw [hs1]; exact hrow.frozen _)
  rw [hs1] at hrun
  simp only [Nat.mul_one, Nat.zero_add, World.setCells] at hrun
  unfold Oper.wp
  simp [execOp, hop, resolve, invoke, builtin, hs, hx, hrun, Result.andThen]
  exact hK' _ _ hK

/-- The j-th nibble of the octets z. -/
def nib (z : Nat → Int) (j : Nat) : Int := if j % 2 = 0 then z (j / 2) / 16 else z (j / 2) % 16
theorem nib_bounds {z : Nat → Int} (hz : ∀ j, 0 ≤ z j ∧ z j ≤ 255) (j : Nat) : 0 ≤ nib z j ∧ nib z j < 16 := by
  have := hz (j / 2)
  unfold nib
  split <;> omega

theorem achar_nib (v n : Int) (up : Bool) (w : World) (h0 : 0 ≤ v) (h1 : v < 16) (e : n = v) :
    Calls Ybaf.prog 7 #[.int .u8 v, .bool up] w fun e w' => e = .returned (.int .u8 (chr n up)) ∧ w = w' :=
  (achar_any v up w h0 (by omega)).mono fun _ _ h => ⟨by rw [h.1, show v % 16 = n by omega], h.2.symm⟩

/-- The text's bytes, as numbers. -/
def digs (z : Nat → Int) (u : Nat → Bool) (n : Nat) : List Int := (List.range n).map fun j => chr (nib z j) (u j)
theorem digs_length (z : Nat → Int) (u : Nat → Bool) (n : Nat) : (digs z u n).length = n := by simp [digs]
theorem digs_at (z : Nat → Int) (u : Nat → Bool) (n j : Nat) (h : j < n) : (digs z u n).getD j 0 = chr (nib z j) (u j) := by
  simp [digs, List.getD, h]
theorem bt_digs {z : Nat → Int} (hz : ∀ j, 0 ≤ z j ∧ z j ≤ 255) (u : Nat → Bool) (n j : Nat) (h : j < n) : bt (strOfNums (digs z u n)) j = chr (nib z j) (u j) := by
  unfold bt
  rw [strOfNums_data]
  obtain ⟨n0, n1⟩ := nib_bounds hz j
  obtain ⟨c0, c1⟩ := chr_bounds (nib z j) (u j) n0 n1
  simp [digs, List.getD, h]
  omega
theorem hex_digs {z : Nat → Int} (hz : ∀ j, 0 ≤ z j ∧ z j ≤ 255) (u : Nat → Bool) (n : Nat) : hexBelow (strOfNums (digs z u n)) n := fun j hj => by
  obtain ⟨n0, n1⟩ := nib_bounds hz j
  rw [bt_digs hz u n j hj, dg_chr _ _ n0 n1]
  exact n0
theorem oct_digs {z : Nat → Int} (hz : ∀ j, 0 ≤ z j ∧ z j ≤ 255) (u : Nat → Bool) (n j : Nat) (h : j < n) : oct (strOfNums (digs z u (2 * n))) j = z j := by
  unfold oct
  obtain ⟨a0, a1⟩ := nib_bounds hz (2 * j)
  obtain ⟨b0, b1⟩ := nib_bounds hz (2 * j + 1)
  rw [bt_digs hz u _ _ (by omega), bt_digs hz u _ _ (by omega), dg_chr _ _ a0 a1, dg_chr _ _ b0 b1]
  unfold nib
  rw [if_pos (by omega), if_neg (by omega), show 2 * j / 2 = j by omega, show (2 * j + 1) / 2 = j by omega]
  have := hz j
  omega

theorem row_step {z : Nat → Int} {u : Nat → Bool} {k : Nat} {p1 p2 : Bool} {c1 c2 : Int} (h1 : chr (nib z (2 * k)) p1 = c1) (h2 : chr (nib z (2 * k + 1)) p2 = c2) (j : Nat) :
    (if j = 2 * k + 1 then Value.int .u8 c2 else if j = 2 * k then Value.int .u8 c1 else Value.int .u8 (if j < 2 * k then chr (nib z j) (u j) else 0)) =
      Value.int .u8 (if j < 2 * (k + 1) then chr (nib z j) (if j = 2 * k then p1 else if j = 2 * k + 1 then p2 else u j) else 0) := by
  by_cases e2 : j = 2 * k + 1
  · subst e2
    rw [if_pos rfl, if_pos (by omega), if_neg (by omega), if_pos rfl, h2]
  rw [if_neg e2]
  by_cases e1 : j = 2 * k
  · subst e1
    rw [if_pos rfl, if_pos (by omega), if_pos rfl, h1]
  rw [if_neg e1, if_neg e1, if_neg e2]
  by_cases e3 : j < 2 * k
  · rw [if_pos e3, if_pos (by omega)]
  · rw [if_neg e3, if_neg (by omega)]

set_option maxHeartbeats 1000000 in
set_option maxRecDepth 1000000 in
theorem round_any (F : Interp) (ao : Option Addr) (len cap : Nat) (cb : Int) (z : Nat → Int) (ad : Nat → Addr) (w : World) (hF : F.answers w.tape) (_hcb0 : 0 ≤ cb) (_hcb1 : cb < 18446744073709551616)
    (hz : ∀ j, 0 ≤ z j ∧ z j ≤ 255) (hlen : len ≤ maxLen)
    (hix : Hid (∀ (j : Nat) (W : World), j < len → (Instr.indexAt 22 (.slice ao len cap) (.int .i64 (j : Int))).run Ybaf.prog W = .ok (.pointer (some (ad j))) W))
    (hcell : Hid (∀ j, j < len → w.cell? (ad j) = some (.int .u8 (z j)))) :
    Calls Ybaf.prog 3 #[.slice ao len cap, .int .u64 cb] w fun e w' => e = .returned (.bool true) ∧ Below w.heap.size w w' := by
  unfold maxLen at hlen
  by_cases hbig : (1024 : Int) < (len : Int)
  · go_enter Ybaf.func3, Ybaf.ntmps3
    go_wp2
    go_ret
    exact ⟨rfl, Below.refl _ _⟩
  have hs : len ≤ 1024 := by omega
  clear hbig hlen
  have hmk := fun W : World => run_make_room (P := Ybaf.prog) 22 5 (.int .u8 0) 1 Ybaf.underlying22 info5 rfl .i64 .i64 (2 * len) (by omega) (by omega) W
  rw [show ((2 * len : Nat) : Int) = 2 * (len : Int) by omega] at hmk
  have HZ : Hid (∀ j, 0 ≤ z j ∧ z j ≤ 255) := hz
  clear hz
  go_enter Ybaf.func3, Ybaf.ntmps3
  go_wp2_with fail
  go_loopw [5, 6] (fun t i wr => ∃ (k : Nat) (u : Nat → Bool), k ≤ len ∧ i = .int .i64 k ∧ t = .slice (some ⟨w.heap.size, 0, none⟩) (2 * k) (2 * len) ∧ wr.rowIs w.heap.size 5 (2 * len) (fun j => .int .u8 (if j < 2 * k then chr (nib z j) (u j) else 0)) ∧ Below w.heap.size w wr) (fun _ i _ => len - (intOf i).toNat)
  case atStart =>
    refine ⟨0, fun _ => false, by omega, rfl, rfl, ?_, (Below.refl _ _).alloc (Nat.le_refl _) _⟩
    exact (World.rowIs_made w (.int .u8 0) (2 * len) 5).congr fun j hj => by simp
  case round =>
    obtain ⟨k, u, hk, rfl, rfl, hrow, hbel⟩ := hrel
    by_cases hlt : k < len
    · have hi := fun W : World => hix.out k W hlt
      have hc : wr.cell? (ad k) = some (.int .u8 (z k)) := (hbel.cell (World.block_lt_of_cell? _ _ (hcell.out k hlt))).trans (hcell.out k hlt)
      obtain ⟨z0, z1⟩ := HZ.out k
      have e15 := u8_and15 (z k) z0 (by omega)
      have N1 : Hid (nib z (2 * k) = z k / 16) := by show nib z (2 * k) = _; unfold nib; rw [if_pos (by omega), show 2 * k / 2 = k by omega]
      have N2 : Hid (nib z (2 * k + 1) = z k % 16) := by show nib z (2 * k + 1) = _; unfold nib; rw [if_neg (by omega), show (2 * k + 1) / 2 = k by omega]
      have HR : Hid (wr.rowIs w.heap.size 5 (2 * len) (fun j => .int .u8 (if j < 2 * k then chr (nib z j) (u j) else 0))) := hrow
      clear hrow
      generalize z k = x at *
      generalize ad k = adk at *
      go_wp2_with fail
      generalize (bits BinOp.and IntKind.u64 (cb / 2 ^ (2 * k % 64)) 1 == 1) = p1
      generalize (bits BinOp.and IntKind.u64 (cb / 2 ^ ((2 * k + 1) % 64)) 1 == 1) = p2
      refine (achar_nib (x / 16) (nib z (2 * k)) p1 _ (by omega) (by omega) N1.out).mono ?_
      rintro e w' ⟨rfl, rfl⟩
      generalize hc1 : chr (nib z (2 * k)) p1 = c1
      have C1 : Hid (chr (nib z (2 * k)) p1 = c1) := hc1
      clear hc1
      go_wp2_with (at_builtin; refine wp_app _ rfl (.tmp 47) (.tmp 52) rfl w.heap.size (2 * k) (2 * len) _ rfl ⟨wr.heap.size, 0, none⟩ (.int .u8 c1) rfl (by go_simp) rfl (HR.out.alloc _) (by omega) ?_)
      refine (achar_nib (x % 16) (nib z (2 * k + 1)) p2 _ (by omega) (by omega) N2.out).mono ?_
      rintro e w' ⟨rfl, rfl⟩
      generalize hc2 : chr (nib z (2 * k + 1)) p2 = c2
      have C2 : Hid (chr (nib z (2 * k + 1)) p2 = c2) := hc2
      clear hc2
      go_wp2_with (at_builtin; refine wp_app _ rfl (.tmp 54) (.tmp 59) rfl w.heap.size (2 * k + 1) (2 * len) _ rfl ⟨wr.heap.size + 1, 0, none⟩ (.int .u8 c2) rfl (by go_simp) rfl (by first | exact ((HR.out.alloc _).set _ _).alloc _ | exact ((HR.out.set _ _).alloc _).alloc _) (by omega) ?_)
      go_roundw
      case rel =>
        refine ⟨k + 1, fun j => if j = 2 * k then p1 else if j = 2 * k + 1 then p2 else u j, by omega, by go_num, rfl, ?_, ?_⟩
        · refine ((((HR.out.alloc _).set (2 * k) (.int .u8 c1)).alloc _).set (2 * k + 1) (.int .u8 c2)).congr fun j hj => ?_
          exact row_step C1.out C2.out j
        · exact (((hbel.alloc hbel.size _).setCell (by simp) _).alloc (by have := hbel.size; simp; omega) _).setCell (by simp) _
      case measure => simp [intOf]; omega
    · obtain rfl : k = len := by omega
      obtain ⟨xs, hxs⟩ : ∃ xs, xs = digs z u (2 * k) := ⟨_, rfl⟩
      have hcv := fun W : World => fun (hW : ∀ i, i < 2 * k → W.cell? ⟨w.heap.size, 0 + i, none⟩ = some (.int .u8 (xs.getD i 0))) => run_convert_bytes_arg (P := Ybaf.prog) W 22 5 Ybaf.underlying22 Ybaf.underlying5 w.heap.size 0 (2 * k) (2 * k) xs (by rw [hxs]; exact digs_length _ _ _) hW 9 Ybaf.underlying9
      have hcw := hcv wr (fun i hi => by rw [Nat.zero_add, hrow.cell hi, hxs, digs_at _ _ _ _ hi, if_pos hi])
      have hsz : (strOfNums xs).size = 2 * k := by rw [strOfNums_size, hxs]; exact digs_length _ _ _
      have G : Hid (hexBelow (strOfNums xs) (2 * k)) := by rw [hxs]; exact hex_digs HZ.out u (2 * k)
      have O : Hid (∀ j, j < k → oct (strOfNums xs) j = z j) := fun j hj => by rw [hxs]; exact oct_digs HZ.out u k j hj
      clear hcv hrow hxs
      generalize strOfNums xs = s at *
      have HSZ : Hid (s.size = 2 * k) := hsz
      clear hsz
      go_wp2_with fail
      refine (parse_any F s wr ?_ (by rw [HSZ.out]; omega)).mono ?_
      · rw [hbel.tape]; exact hF
      intro e w1 hP
      rcases hP with ⟨_, rfl, hrow, hbel1⟩ | ⟨hbad, _, _⟩
      · rw [HSZ.out, show 2 * k / 2 = k by omega] at hrow ⊢
        have hbel2 : Below w.heap.size w w1 := hbel.trans (hbel1.mono hbel.size)
        have hrow2 := hrow.congr (g := fun j => .int .u8 (z j)) fun j hj => by rw [O.out j hj]
        clear hrow hbel hbel1 hcw
        generalize wr.heap.size + 1 = B1 at *
        go_wp2_with fail
        go_loopw [13] (fun i wq => ∃ j : Nat, j ≤ k ∧ i = .int .i64 j ∧ wq.rowIs B1 5 k (fun j => .int .u8 (z j)) ∧ Below w.heap.size w wq) (fun i _ => k - (intOf i).toNat)
        case atStart => exact ⟨0, by omega, rfl, hrow2, hbel2⟩
        case round =>
          clear hrow2 hbel2
          obtain ⟨j, hj, rfl, hrow, hbel⟩ := hrel
          by_cases hlt2 : j < k
          · have hi := fun W : World => hix.out j W hlt2
            have hc : wr.cell? (ad j) = some (.int .u8 (z j)) := (hbel.cell (World.block_lt_of_cell? _ _ (hcell.out j hlt2))).trans (hcell.out j hlt2)
            have hc2 := hrow.cell hlt2
            have hjI : (j : Int) < (k : Int) := by omega
            have HR : Hid (wr.rowIs B1 5 k (fun j => .int .u8 (z j))) := hrow
            clear hrow
            generalize z j = x at *
            generalize ad j = adj at *
            go_wp2_with fail
            go_quiet (fail)
            go_wp2_with fail
            go_roundw
            case rel => exact ⟨j + 1, by omega, by go_num, HR.out.of_block (by simp), below_drewN hbel _⟩
            case measure => simp [intOf]; omega
          · go_wp2_with fail
            go_ret
            exact ⟨rfl, hbel⟩
      · exact absurd ⟨by rw [HSZ.out]; exact G.out, by rw [HSZ.out]; omega⟩ hbad
end Go.Proofs.YbulkqigFmt
