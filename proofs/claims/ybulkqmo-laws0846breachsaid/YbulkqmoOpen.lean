/-
  DERIVED. The arguments of eval.LawS0846BReach, opened.
-/
import Derived.Test.YbulkqmoProg
import Derived.ProofKit
import Derived.SizedLaws
import Derived.Deep.Strs
import Derived.Deep.SlicePairs
namespace Go.Proofs.Ybulkqmo
open Go.ChangeShapes Go.WideShapes Go.ChangeAt Go.RowKit Go.Deep

theorem sz24 (W : World) : (sizeOf 24).run Yba.prog W = .ok 1 W := by kernel_rfl
theorem sz39 (W : World) : (sizeOf 39).run Yba.prog W = .ok 3 W := by kernel_rfl
theorem sz5 (W : World) : (sizeOf 5).run Yba.prog W = .ok 1 W := by kernel_rfl
theorem cells24 : Yba.prog.cellsOf 24 = 1 := by kernel_rfl
theorem cells39 : Yba.prog.cellsOf 39 = 3 := by kernel_rfl
theorem cells5 : Yba.prog.cellsOf 5 = 1 := by kernel_rfl
theorem cells4 : Yba.prog.cellsOf 4 = 1 := by kernel_rfl
theorem bytes39 : Yba.prog.bytesOf 39 = 3 := by kernel_rfl
theorem ixRun22 (a : Addr) (len cap : Nat) (j : Nat) (W : World) (h : j < len) : (Instr.indexAt 22 (.slice (some a) len cap) (.int .i64 (j : Int))).run Yba.prog W = .ok (.pointer (some (a.add j))) W := by
  have e : Yba.prog.elem 22 = 24 := by kernel_rfl
  rw [run_indexAt_slice (h := by rw [e]; exact Yba.underlying22), if_pos (by omega), e, sz24]
  simp
theorem ixRun24 (a : Addr) (len cap : Nat) (j : Nat) (W : World) (h : j < len) : (Instr.indexAt 24 (.slice (some a) len cap) (.int .i64 (j : Int))).run Yba.prog W = .ok (.pointer (some (a.add (j * 3)))) W := by
  have e : Yba.prog.elem 24 = 39 := by kernel_rfl
  rw [run_indexAt_slice (h := by rw [e]; exact Yba.underlying24), if_pos (by omega), e, sz39]
  simp
theorem ixRun23 (a : Addr) (len cap : Nat) (j : Nat) (W : World) (h : j < len) : (Instr.indexAt 23 (.slice (some a) len cap) (.int .i64 (j : Int))).run Yba.prog W = .ok (.pointer (some (a.add j))) W := by
  have e : Yba.prog.elem 23 = 5 := by kernel_rfl
  rw [run_indexAt_slice (h := by rw [e]; exact Yba.underlying23), if_pos (by omega), e, sz5]
  simp

theorem u8_in {n : Int} (h : (Lit.int .u8 n).wf = true) : 0 ≤ n ∧ n ≤ 255 := by
  simp [Lit.wf, IntKind.min, IntKind.max, IntKind.signed, IntKind.bits] at h
  omega
theorem len3 {α : Type} {xs : List α} (h : xs.length = 3) : ∃ a b c, xs = [a, b, c] := by
  match xs, h with
  | [a, b, c], _ => exact ⟨a, b, c, rfl⟩
theorem len1 {α : Type} {xs : List α} (h : xs.length = 1) : ∃ a, xs = [a] := by
  match xs, h with
  | [a], _ => exact ⟨a, rfl⟩
theorem weights_mem {H : Type} {P : Program} {e : TypeId} {k : Nat} : ∀ {l : List (DataW H)} {d : DataW H}, d ∈ l → k ∈ d.weights P e → k ∈ DataW.weightsAll P e l
  | x :: l, d, hd, hk => by
    simp only [DataW.weightsAll, List.mem_append]
    rcases List.mem_cons.1 hd with rfl | h
    · exact Or.inl hk
    · exact Or.inr (weights_mem h hk)

/-- One role's bodies. -/
structure Bod where
  ra : Option Addr
  len : Nat
  rc : Nat
  bd : Nat → Addr
  kk : Nat → Nat
  tt : Nat → Nat
  X : Nat → Bool

structure Bod.Is (b : Bod) (w : World) : Prop where
  bound : ∀ i, b.kk i ≤ 255 ∧ b.tt i ≤ 255
  ix : ∀ (i : Nat) (W : World), i < b.len → (Instr.indexAt 24 (.slice b.ra b.len b.rc) (.int .i64 (i : Int))).run Yba.prog W = .ok (.pointer (some (b.bd i))) W
  cell : ∀ i, i < b.len → w.cell? (b.bd i) = some (.int .u8 (b.kk i)) ∧ w.cell? ((b.bd i).add 1) = some (.int .u8 (b.tt i)) ∧ w.cell? ((b.bd i).add 2) = some (.bool (b.X i))

theorem open_bodies {H : Type} {enc : TypeId × Value → H} {w : World} {base : Nat} {spare : Nat → Bool} {held : Bool} {fuel : Nat} {cs : List Value} {x : DataW H × List MemPlace} (h : DataW.trod enc Yba.prog w base spare held fuel 24 cs = some x) :
    ∃ b : Bod, cs = [.slice b.ra b.len b.rc] ∧ b.Is w ∧ ((∀ k ∈ x.1.weights Yba.prog 24, k ≤ reachBytes) → b.len ≤ 140737488355328) := by
  rcases open_slice Yba.underlying24 h with ⟨h0, _⟩ | ⟨a, len, cap, m, n, D, Pl, rfl, hb, hl, hm, hmm, rfl, hx⟩
  · exact ⟨⟨none, 0, 0, fun _ => ⟨0, 0, none⟩, fun _ => 0, fun _ => 0, fun _ => false⟩, h0, ⟨fun _ => by simp, fun i _ hi => absurd hi (Nat.not_lt_zero i), fun i hi => absurd hi (Nat.not_lt_zero i)⟩, fun _ => by simp⟩
  have hlm : len ≤ m := by rw [hmm]; split <;> omega
  have each : ∀ i, ∃ r : Nat × Nat × Bool, (r.1 ≤ 255 ∧ r.2.1 ≤ 255) ∧ (i < len → w.cell? (a.add (i * 3)) = some (.int .u8 r.1) ∧ w.cell? ((a.add (i * 3)).add 1) = some (.int .u8 r.2.1) ∧ w.cell? ((a.add (i * 3)).add 2) = some (.bool r.2.2)) := by
    intro i
    by_cases hi : i < len
    · obtain ⟨cs', h1, h2⟩ := hx i (by omega)
      rw [cells39] at h1
      obtain ⟨_, hlen, hcell⟩ := World.cells?_some h1
      obtain ⟨y0, y1, y2, k, _, _, g0, g1, g2⟩ := trod_struct3 Yba.underlying39 h2
      obtain ⟨v0, v1, v2, rfl⟩ := len3 hlen
      simp only [cells5, cells4] at g0 g1 g2
      obtain ⟨p, e0, _, w0⟩ := DataW.trod_int Yba.underlying5 g0
      obtain ⟨q, e1, _, w1⟩ := DataW.trod_int Yba.underlying5 g1
      obtain ⟨z, e2, _⟩ := DataW.trod_bool Yba.underlying4 g2
      simp at e0 e1 e2
      subst e0
      subst e1
      subst e2
      have c0 := hcell 0 (by omega)
      have c1 := hcell 1 (by omega)
      have c2 := hcell 2 (by omega)
      obtain ⟨p0, p1⟩ := u8_in w0
      obtain ⟨q0, q1⟩ := u8_in w1
      obtain ⟨p, rfl⟩ := Int.eq_ofNat_of_zero_le p0
      obtain ⟨q, rfl⟩ := Int.eq_ofNat_of_zero_le q0
      exact ⟨(p, q, z), ⟨by show p ≤ 255; omega, by show q ≤ 255; omega⟩, fun _ => ⟨by simpa [Addr.add] using c0, by simpa using c1, by simpa using c2⟩⟩
    · exact ⟨(0, 0, false), by simp, fun h => absurd h hi⟩
  obtain ⟨r, hr⟩ := Classical.skolem.1 each
  refine ⟨⟨some a, len, cap, fun i => a.add (i * 3), fun j => (r j).1, fun j => (r j).2.1, fun j => (r j).2.2⟩, rfl, ⟨fun j => (hr j).1, fun i W hi => ixRun24 a len cap i W hi, fun j hj => (hr j).2 hj⟩, fun hw => ?_⟩
  have := hw _ (by simp only [DataW.weights, Yba.underlying24]; exact List.mem_cons_self)
  rw [bytes39, reachBytes] at this
  simp at this
  show len ≤ _
  omega

theorem open_roles {H : Type} {enc : TypeId × Value → H} {w : World} {base : Nat} {spare : Nat → Bool} {held : Bool} {fuel : Nat} {cs : List Value} {x : DataW H × List MemPlace} (h : DataW.trod enc Yba.prog w base spare held fuel 22 cs = some x) (hw : ∀ k ∈ x.1.weights Yba.prog 22, k ≤ reachBytes) :
    ∃ (ao : Option Addr) (n cap : Nat) (ad : Nat → Addr) (b : Nat → Bod), cs = [.slice ao n cap] ∧ n ≤ maxLen ∧ (∀ q, (b q).Is w) ∧ (∀ q, q < n → (b q).len ≤ 140737488355328) ∧
      (∀ (q : Nat) (W : World), q < n → (Instr.indexAt 22 (.slice ao n cap) (.int .i64 (q : Int))).run Yba.prog W = .ok (.pointer (some (ad q))) W) ∧ ∀ q, q < n → w.cell? (ad q) = some (.slice (b q).ra (b q).len (b q).rc) := by
  have nob : Bod.Is ⟨none, 0, 0, fun _ => ⟨0, 0, none⟩, fun _ => 0, fun _ => 0, fun _ => false⟩ w := ⟨fun _ => by simp, fun i _ hi => absurd hi (Nat.not_lt_zero i), fun i hi => absurd hi (Nat.not_lt_zero i)⟩
  rcases open_slice Yba.underlying22 h with ⟨h0, _⟩ | ⟨a, len, cap, m, n, D, Pl, rfl, hb, hl, hm, hmm, rfl, hx⟩
  · exact ⟨none, 0, 0, fun _ => ⟨0, 0, none⟩, fun _ => _, h0, by decide, fun _ => nob, fun q hq => absurd hq (Nat.not_lt_zero q), fun q _ hq => absurd hq (Nat.not_lt_zero q), fun q hq => absurd hq (Nat.not_lt_zero q)⟩
  have hlm : len ≤ m := by rw [hmm]; split <;> omega
  have each : ∀ q, ∃ b : Bod, b.Is w ∧ (q < len → b.len ≤ 140737488355328 ∧ w.cell? (a.add q) = some (.slice b.ra b.len b.rc)) := by
    intro q
    by_cases hq : q < len
    · obtain ⟨cs', h1, h2⟩ := hx q (by omega)
      rw [cells24] at h1
      obtain ⟨_, hlen, hcell⟩ := World.cells?_some h1
      obtain ⟨b, rfl, hb, hbl⟩ := open_bodies h2
      have c0 := hcell 0 (by omega)
      refine ⟨b, hb, fun _ => ⟨hbl fun k hk => hw k ?_, by simpa [Addr.add] using c0⟩⟩
      simp only [DataW.weights, Yba.underlying22]
      refine List.mem_cons_of_mem _ (List.mem_append_left _ (weights_mem ?_ hk))
      exact List.mem_map.2 ⟨q, List.mem_range.2 hq, rfl⟩
    · exact ⟨_, nob, fun h => absurd h hq⟩
  obtain ⟨r, hr⟩ := Classical.skolem.1 each
  exact ⟨some a, len, cap, fun q => a.add q, r, rfl, Nat.le_trans hl hm, fun q => (hr q).1, fun q hq => ((hr q).2 hq).1, fun q W hq => ixRun22 a len cap q W hq, fun q hq => ((hr q).2 hq).2⟩

theorem open_starts {H : Type} {enc : TypeId × Value → H} {w : World} {base : Nat} {spare : Nat → Bool} {held : Bool} {fuel : Nat} {cs : List Value} {x : DataW H × List MemPlace} (h : DataW.trod enc Yba.prog w base spare held fuel 23 cs = some x) :
    ∃ (ao : Option Addr) (n cap : Nat) (sd : Nat → Addr) (st : Nat → Int), cs = [.slice ao n cap] ∧ n ≤ maxLen ∧ (∀ j, 0 ≤ st j ∧ st j ≤ 255) ∧
      (∀ (j : Nat) (W : World), j < n → (Instr.indexAt 23 (.slice ao n cap) (.int .i64 (j : Int))).run Yba.prog W = .ok (.pointer (some (sd j))) W) ∧ ∀ j, j < n → w.cell? (sd j) = some (.int .u8 (st j)) := by
  rcases open_slice Yba.underlying23 h with ⟨h0, _⟩ | ⟨a, len, cap, m, n, D, Pl, rfl, hb, hl, hm, hmm, rfl, hx⟩
  · exact ⟨none, 0, 0, fun _ => ⟨0, 0, none⟩, fun _ => 0, h0, by decide, fun _ => by simp, fun j _ hj => absurd hj (Nat.not_lt_zero j), fun j hj => absurd hj (Nat.not_lt_zero j)⟩
  have hlm : len ≤ m := by rw [hmm]; split <;> omega
  have each : ∀ q, ∃ b : Int, (0 ≤ b ∧ b ≤ 255) ∧ (q < len → w.cell? (a.add q) = some (.int .u8 b)) := by
    intro q
    by_cases hq : q < len
    · obtain ⟨cs', h1, h2⟩ := hx q (by omega)
      rw [cells5] at h1
      obtain ⟨_, hlen, hcell⟩ := World.cells?_some h1
      obtain ⟨p, rfl, _, w0⟩ := DataW.trod_int Yba.underlying5 h2
      have c0 := hcell 0 (by omega)
      exact ⟨p, u8_in w0, fun _ => by simpa [Addr.add] using c0⟩
    · exact ⟨0, by simp, fun h => absurd h hq⟩
  obtain ⟨r, hr⟩ := Classical.skolem.1 each
  exact ⟨some a, len, cap, fun q => a.add q, r, rfl, Nat.le_trans hl hm, fun q => (hr q).1, fun q W hq => ixRun23 a len cap q W hq, fun q hq => (hr q).2 hq⟩
end Go.Proofs.Ybulkqmo
