/-
  DERIVED. The arguments of cli.LawS0847AEnter, opened; the law's four ways joined.
-/
import Derived.Test.YbulkqncLawA
import Derived.Test.YbulkqncLawB
import Derived.Test.YbulkqncLawC
import Derived.Test.YbulkqncLawD
import Derived.ProofKit
import Derived.Deep.Strs
import Derived.Deep.SlicePairs
namespace Go.Proofs.Ybulkqnc
open Go.ChangeShapes Go.WideShapes Go.ChangeAt Go.RowKit Go.Deep

theorem sz9 (W : World) : (sizeOf 9).run Yba.prog W = .ok 1 W := by kernel_rfl
theorem cells9 : Yba.prog.cellsOf 9 = 1 := by kernel_rfl
theorem ixRun22 (a : Addr) (len cap : Nat) (j : Nat) (W : World) (h : j < len) : (Instr.indexAt 22 (.slice (some a) len cap) (.int .i64 (j : Int))).run Yba.prog W = .ok (.pointer (some (a.add j))) W := by
  have e : Yba.prog.elem 22 = 9 := by kernel_rfl
  rw [run_indexAt_slice (h := by rw [e]; exact Yba.underlying22), if_pos (by omega), e, sz9]
  simp
theorem u8_in {n : Int} (h : (Lit.int .u8 n).wf = true) : 0 ≤ n ∧ n ≤ 255 := by
  simp [Lit.wf, IntKind.min, IntKind.max, IntKind.signed, IntKind.bits] at h
  omega

/-- A slice of strings. -/
structure Strs (w : World) (ao : Option Addr) (n cap : Nat) (ad : Nat → Addr) (s : Nat → ByteArray) : Prop where
  ix : ∀ (j : Nat) (W : World), j < n → (Instr.indexAt 22 (.slice ao n cap) (.int .i64 (j : Int))).run Yba.prog W = .ok (.pointer (some (ad j))) W
  cell : ∀ j, j < n → w.cell? (ad j) = some (.string (s j))
  nil : ao = none → n = 0 ∧ cap = 0

theorem open_strs {H : Type} {enc : TypeId × Value → H} {w : World} {base : Nat} {spare : Nat → Bool} {held : Bool} {fuel : Nat} {cs : List Value} {x : DataW H × List MemPlace} (h : DataW.trod enc Yba.prog w base spare held fuel 22 cs = some x) :
    ∃ (ao : Option Addr) (n cap : Nat) (ad : Nat → Addr) (s : Nat → ByteArray), cs = [.slice ao n cap] ∧ n ≤ maxLen ∧ Strs w ao n cap ad s := by
  rcases open_slice Yba.underlying22 h with ⟨h0, _⟩ | ⟨a, len, cap, m, n, D, Pl, rfl, hb, hl, hm, hmm, rfl, hx⟩
  · exact ⟨none, 0, 0, fun _ => ⟨0, 0, none⟩, fun _ => ⟨#[]⟩, h0, by decide, ⟨fun j _ hj => absurd hj (Nat.not_lt_zero j), fun j hj => absurd hj (Nat.not_lt_zero j), fun _ => ⟨rfl, rfl⟩⟩⟩
  have hlm : len ≤ m := by rw [hmm]; split <;> omega
  have each : ∀ q, ∃ b : ByteArray, q < len → w.cell? (a.add q) = some (.string b) := by
    intro q
    by_cases hq : q < len
    · obtain ⟨cs', h1, h2⟩ := hx q (by omega)
      rw [cells9] at h1
      obtain ⟨_, hlen, hcell⟩ := World.cells?_some h1
      obtain ⟨p, rfl, _, _⟩ := DataW.trod_string Yba.underlying9 h2
      have c0 := hcell 0 (by omega)
      exact ⟨p, fun _ => by simpa [Addr.add] using c0⟩
    · exact ⟨⟨#[]⟩, fun h => absurd h hq⟩
  obtain ⟨r, hr⟩ := Classical.skolem.1 each
  exact ⟨some a, len, cap, fun q => a.add q, r, rfl, Nat.le_trans hl hm, ⟨fun q W hq => ixRun22 a len cap q W hq, fun q hq => hr q hq, fun h => by cases h⟩⟩

set_option maxHeartbeats 1000000 in
set_option maxRecDepth 100000 in
theorem law_any (pa sa la : Option Addr) (np pcp ns sc nl lc : Nat) (x : Int) (b : Bool) (pd sd nd : Nat → Addr) (pn sn nm : Nat → ByteArray) (w : World) (hx0 : 0 ≤ x) (hx1 : x ≤ 255) (hnp : np ≤ maxLen) (hns : ns ≤ maxLen) (hnl : nl ≤ maxLen)
    (hp : Strs w pa np pcp pd pn) (hs : Strs w sa ns sc sd sn) (hl : Strs w la nl lc nd nm) :
    Calls Yba.prog 3 #[.slice pa np pcp, .int .u8 x, .slice sa ns sc, .bool b, .slice la nl lc] w fun e w' => e = .returned (.bool true) ∧ Below w.heap.size w w' := by
  unfold maxLen at hnp hns hnl
  by_cases h1 : (1024 : Int) < (np : Int)
  · go_enter Yba.func3, Yba.ntmps3
    go_wp2
    go_ret
    exact ⟨rfl, Below.refl _ _⟩
  by_cases h2 : (1024 : Int) < (ns : Int)
  · have h1b : decide ((1024 : Int) < (np : Int)) = false := by simpa using h1
    go_enter Yba.func3, Yba.ntmps3
    go_wp2
    go_ret
    exact ⟨rfl, Below.refl _ _⟩
  by_cases h3 : (1024 : Int) < (nl : Int)
  · have h1b : decide ((1024 : Int) < (np : Int)) = false := by simpa using h1
    have h2b : decide ((1024 : Int) < (ns : Int)) = false := by simpa using h2
    go_enter Yba.func3, Yba.ntmps3
    go_wp2
    go_ret
    exact ⟨rfl, Below.refl _ _⟩
  cases sa with
  | none =>
    obtain ⟨rfl, rfl⟩ := hs.nil rfl
    cases b with
    | false => exact law_nf pa la np pcp x () 0 0 nl lc pd sd nd pn sn nm w hx0 hx1 (by omega) (by omega) (by omega) hp.ix hp.cell hs.ix hs.cell hl.ix hl.cell
    | true => exact law_nt pa la np pcp x () 0 0 nl lc pd sd nd pn sn nm w hx0 hx1 (by omega) (by omega) (by omega) hp.ix hp.cell hs.ix hs.cell hl.ix hl.cell
  | some a =>
    cases b with
    | false => exact law_sf pa la np pcp x a ns sc nl lc pd sd nd pn sn nm w hx0 hx1 (by omega) (by omega) (by omega) hp.ix hp.cell hs.ix hs.cell hl.ix hl.cell
    | true => exact law_st pa la np pcp x a ns sc nl lc pd sd nd pn sn nm w hx0 hx1 (by omega) (by omega) (by omega) hp.ix hp.cell hs.ix hs.cell hl.ix hl.cell
end Go.Proofs.Ybulkqnc
