/-
  DERIVED. THE TOLD AND TIED CARD OF kvcache.LawS0840AAdmitPlain, PROVED.
-/
import Derived.Test.YbulkqjiFmtCachProof
import Derived.Test.YbulkqjiFmtPlain
import Derived.Deep.Strs
import Derived.Deep.SlicePairs
namespace Go.Proofs.YbulkqjiFmt
open Go.ChangeShapes Go.WideShapes Go.ChangeAt Go.WideMaps Go.WideElems Go.RowKit Go.Deep

theorem door_met3 (os : Os) (args : Array Value) : laidMetH Ybaf.prog Rows.lawS0840AAdmitPlainRow.laid ((World.doorLaid Ybaf.prog 400 os).forCall (fun _ _ => 0) ⟨#[], args, []⟩).memory :=
  laidMetH_of_parts3 (fuel := 8) (laidMet_of_run' 8 (by kernel_rfl) (by kernel_rfl)) (by kernel_rfl) (by kernel_rfl)

theorem size32 (W : World) : (sizeOf 32).run Ybaf.prog W = .ok 3 W := by kernel_rfl
theorem cells32 : Ybaf.prog.cellsOf 32 = 3 := by kernel_rfl
theorem cells5 : Ybaf.prog.cellsOf 5 = 1 := by kernel_rfl
theorem ixRun22 (a : Addr) (len cap : Nat) (j : Nat) (W : World) (h : j < len) : (Instr.indexAt 22 (.slice (some a) len cap) (.int .i64 (j : Int))).run Ybaf.prog W = .ok (.pointer (some (a.add (j * 3)))) W := by
  have e : Ybaf.prog.elem 22 = 32 := by kernel_rfl
  rw [run_indexAt_slice (h := by rw [e]; exact Ybaf.underlying22), if_pos (by omega), e, size32]
  simp

theorem len3 {α : Type} {xs : List α} (h : xs.length = 3) : ∃ a b c, xs = [a, b, c] := by
  match xs, h with
  | [a, b, c], _ => exact ⟨a, b, c, rfl⟩

/-- The operations, opened. -/
theorem open_ops {H : Type} {enc : TypeId × Value → H} {w : World} {base : Nat} {spare : Nat → Bool} {held : Bool} {fuel : Nat} {cs : List Value} {x : DataW H × List MemPlace} (h : DataW.trod enc Ybaf.prog w base spare held fuel 22 cs = some x) :
    cs = [.slice none 0 0] ∨ ∃ (a : Addr) (len cap : Nat) (p q z : Nat → Int), cs = [.slice (some a) len cap] ∧ len ≤ maxLen ∧ (∀ j, (0 ≤ p j ∧ p j ≤ 255) ∧ (0 ≤ q j ∧ q j ≤ 255) ∧ (0 ≤ z j ∧ z j ≤ 65535)) ∧
      ∀ j, j < len → w.cell? (a.add (j * 3)) = some (.int .u8 (p j)) ∧ w.cell? ((a.add (j * 3)).add 1) = some (.int .u8 (q j)) ∧ w.cell? ((a.add (j * 3)).add 2) = some (.int .u16 (z j)) := by
  rcases open_slice Ybaf.underlying22 h with ⟨h0, _⟩ | ⟨a, len, cap, m, n, D, Pl, rfl, hb, hl, hm, hmm, rfl, hx⟩
  · exact Or.inl h0
  right
  have hlm : len ≤ m := by rw [hmm]; split <;> omega
  have each : ∀ i, ∃ r : Int × Int × Int, ((0 ≤ r.1 ∧ r.1 ≤ 255) ∧ (0 ≤ r.2.1 ∧ r.2.1 ≤ 255) ∧ (0 ≤ r.2.2 ∧ r.2.2 ≤ 65535)) ∧ (i < len → w.cell? (a.add (i * 3)) = some (.int .u8 r.1) ∧ w.cell? ((a.add (i * 3)).add 1) = some (.int .u8 r.2.1) ∧ w.cell? ((a.add (i * 3)).add 2) = some (.int .u16 r.2.2)) := by
    intro i
    by_cases hi : i < len
    · obtain ⟨cs', h1, h2⟩ := hx i (by omega)
      rw [cells32] at h1
      obtain ⟨_, hlen, hcell⟩ := World.cells?_some h1
      obtain ⟨y0, y1, y2, k, _, _, g0, g1, g2⟩ := trod_struct3 Ybaf.underlying32 h2
      obtain ⟨v0, v1, v2, rfl⟩ := len3 hlen
      simp only [cells5, cells30] at g0 g1 g2
      obtain ⟨p, e0, _, w0⟩ := DataW.trod_int Ybaf.underlying5 g0
      obtain ⟨q, e1, _, w1⟩ := DataW.trod_int Ybaf.underlying5 g1
      obtain ⟨z, e2, _, w2⟩ := DataW.trod_int Ybaf.underlying30 g2
      simp at e0 e1 e2
      subst e0
      subst e1
      subst e2
      have c0 := hcell 0 (by omega)
      have c1 := hcell 1 (by omega)
      have c2 := hcell 2 (by omega)
      exact ⟨(p, q, z), ⟨bounds_u8 w0, bounds_u8 w1, bounds_u16 w2⟩, fun _ => ⟨by simpa [Addr.add] using c0, by simpa using c1, by simpa using c2⟩⟩
    · exact ⟨(0, 0, 0), by simp, fun h => absurd h hi⟩
  obtain ⟨r, hr⟩ := Classical.skolem.1 each
  exact ⟨a, len, cap, fun j => (r j).1, fun j => (r j).2.1, fun j => (r j).2.2, rfl, Nat.le_trans hl hm, fun j => (hr j).1, fun j hj => (hr j).2 hj⟩

set_option maxRecDepth 100000 in
theorem plain_lifted (os : Os) (started : os.Started) (H : Type) (enc : TypeId × Value → H) :
    ReturnsInTold none {} Ybaf.checked os 3 .any Input.okWide ((OpenSpec.ofChange Rows.lawS0840AAdmitPlainSpec).preRow enc Ybaf.prog Ybaf.f3 [] false Rows.lawS0840AAdmitPlainRow.laid)
      (fun F => ((OpenSpec.ofChange Rows.lawS0840AAdmitPlainSpec).at F).post enc Ybaf.prog Ybaf.f3 false true false false) (aloneAtReturn Ybaf.prog) nothingAlways := by
  refine returnsInTold_of_row (C := Ybaf.checked) (s := OpenSpec.ofChange Rows.lawS0840AAdmitPlainSpec) (by kernel_rfl) own started (by kernel_rfl) Ybaf.func3
    (OpenSpec.witness_stopped_atRef (enc := enc) (C := Ybaf.checked) false (World.doorLaid Ybaf.prog 400 os) #[.int .u8 0, .int .u8 0, .slice none 0 0] rfl (by kernel_rfl) (by kernel_rfl) (by kernel_rfl)
      (OpenSpec.preRow_of_B rfl 8 (by kernel_rfl) (by kernel_rfl) (door_met3 os _))) ?_
  intro F W base args ds gs before _ hF hval0 hW _ _ _ hL _
  have hval : ∀ (j : Nat) t v, Ybaf.f3.params[j]? = some t → args[j]? = some v → Value.okWide Ybaf.prog W .any base t v := hval0
  have hW' := hW
  obtain ⟨p, q, hA0, hV, rfl, hfz, hnd⟩ := hW
  have hA : DataW.TrodAll enc Ybaf.prog W 0 (fun _ => true) true Ybaf.f3.params.toList args.toList ds p := hA0
  have hV' : DataW.TrodVars enc Ybaf.prog W (fun _ => true) [vName] gs q := hV
  rw [Ybaf.params3] at hA hval
  obtain ⟨v0, v1, v2, d0, d1, d2, p0, p1, p2, rfl, rfl, rfl, h0, h1, h2⟩ := trodAll_three hA
  obtain ⟨x, rfl, rfl, rfl, wx⟩ := open_int Ybaf.underlying5 (hval 0 5 v0 rfl rfl) h0
  obtain ⟨y, rfl, rfl, rfl, wy⟩ := open_int Ybaf.underlying5 (hval 1 5 v1 rfl rfl) h1
  obtain ⟨hx0, hx1⟩ := bounds_u8 wx
  obtain ⟨hy0, hy1⟩ := bounds_u8 wy
  obtain ⟨g, t, cs, fuel, gd, gp, rfl, _, _, _, _, rfl⟩ := trodVars_one hV'
  obtain ⟨ao, len, cap, rfl⟩ := okWide_slice Ybaf.underlying22 (hval 2 22 v2 rfl rfl)
  clear hA0 hval0
  suffices hx : ∃ (p q z : Nat → Int) (ad : Nat → Addr), (∀ j, (0 ≤ p j ∧ p j ≤ 255) ∧ (0 ≤ q j ∧ q j ≤ 255) ∧ (0 ≤ z j ∧ z j ≤ 65535)) ∧ len ≤ maxLen ∧
      (∀ (j : Nat) (W : World), j < len → (Instr.indexAt 22 (.slice ao len cap) (.int .i64 (j : Int))).run Ybaf.prog W = .ok (.pointer (some (ad j))) W) ∧
      (∀ j, j < len → W.cell? (ad j) = some (.int .u8 (p j)) ∧ W.cell? ((ad j).add 1) = some (.int .u8 (q j)) ∧ W.cell? ((ad j).add 2) = some (.int .u16 (z j))) by
    obtain ⟨p, q, z, ad, hz, hl, hix, hc⟩ := hx
    refine (plain_any x y ao len cap p q z ad W hx0 hx1 hy0 hy1 hz hl hix hc).mono fun e W' ⟨he, hb⟩ => ?_
    subst he
    exact ⟨_, rfl, law_post (s := Rows.lawS0840AAdmitPlainSpec) laidOut (by kernel_rfl) (by kernel_rfl) (tb := 4) rfl Ybaf.underlying4 hW' rfl hb⟩
  obtain ⟨fuel, hf⟩ := h2
  rcases open_ops hf with hcs | ⟨a, len', cap', p, q, z, hcs, hl, hz, hc⟩
  · simp [Value.cells] at hcs
    obtain ⟨rfl, rfl, rfl⟩ := hcs
    exact ⟨fun _ => 0, fun _ => 0, fun _ => 0, fun _ => ⟨0, 0, none⟩, fun _ => by simp, by decide, fun j _ hj => absurd hj (Nat.not_lt_zero j), fun j hj => absurd hj (Nat.not_lt_zero j)⟩
  · simp [Value.cells] at hcs
    obtain ⟨rfl, rfl, rfl⟩ := hcs
    exact ⟨p, q, z, fun j => a.add (j * 3), hz, hl, fun j W hj => ixRun22 a len cap j W hj, hc⟩

theorem plain_holds : Rows.LawS0840AAdmitPlainToldSaid :=
  Claim7.holds_of_told_tied_any_at .later 3 Ybaf.f3 "fmt.Sprintf" ["fmt.errorf"] [] _ _ _ _ _ (by kernel_rfl) rfl rfl rfl laidOut (by kernel_rfl) rfl ⟨rfl, rfl, rfl, rfl, rfl, rfl, rfl⟩ rfl rfl (by kernel_rfl) (by kernel_rfl) Ybaf.func3 (by kernel_rfl)
    (of_decide_eq_true (by kernel_rfl)) (by unfold Func.isWrapper; rw [if_neg (of_decide_eq_false (by kernel_rfl))]; exact ⟨rfl, rfl⟩) stops.symm rfl stopKnobs.symm (by kernel_rfl)
    (by kernel_rfl) (by kernel_rfl) (by kernel_rfl) (by kernel_rfl) (by kernel_rfl) (by kernel_rfl) (by kernel_rfl) (by kernel_rfl) (by kernel_rfl) rfl (by kernel_rfl) rfl rfl
    rfl rfl
    rfl (by kernel_rfl) (by kernel_rfl) (by kernel_rfl) (by decide) (by kernel_rfl) lawS0840AAdmitPlain_row_tie
    (OpenClaim.moreEntering_of (by kernel_rfl) (by kernel_rfl) (by kernel_rfl) (by kernel_rfl) (by kernel_rfl) (by kernel_rfl) (by kernel_rfl) (by kernel_rfl) (by kernel_rfl) (by kernel_rfl))
    ⟨_, WideRow.started_initial, quiet _⟩
    (fun os started _ H enc _ => plain_lifted os started H enc)
end Go.Proofs.YbulkqjiFmt
