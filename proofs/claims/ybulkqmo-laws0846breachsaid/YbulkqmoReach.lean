/-
  DERIVED. THE WALK of eval's reach.
-/
import Derived.Test.YbulkqmoEnv
namespace Go.Proofs.Ybulkqmo
open Go.RowKit
set_option linter.unusedVariables false

theorem RS.jcells {d : Dat} {base J A N : Nat} {s : Bfs.S} {k : Nat} {rv : Value} {xs : List Value} {w : World} (H : RS d base J A N s k rv xs w) :
    w.cell? ⟨J, 0, none⟩ = some (.pointer (some ⟨N, 0, none⟩)) ∧ w.cell? ⟨J, 1, none⟩ = some rv ∧ w.cell? ⟨J, 2, none⟩ = some (.slice (some ⟨A, 0, none⟩) d.n d.n) ∧ J < w.heap.size := by
  obtain ⟨f, hj, f0, f1, f2⟩ := H.j
  have a := hj.cell (i := 0) (by omega); rw [f0] at a
  have b := hj.cell (i := 1) (by omega); rw [f1] at b
  have c := hj.cell (i := 2) (by omega); rw [f2] at c
  exact ⟨a, b, c, hj.lt⟩

theorem RS.cellsAt {d : Dat} {base J A N : Nat} {s : Bfs.S} {k k' q : Nat} {rv : Value} {xs : List Value} {w : World} (H : RS d base J A N s k rv xs w) (hp : s.1[k']? = some q) :
    ∃ R cR v2 v3, rv = .slice (some ⟨R, 0, none⟩) s.1.length cR ∧ w.cell? ⟨R, 9 * k', none⟩ = some (.int .i32 q) ∧ w.cell? ⟨R, 9 * k' + 2, none⟩ = some v2 ∧ w.cell? ⟨R, 9 * k' + 3, none⟩ = some v3 ∧ (∀ o, w.frozen? ⟨R, o, none⟩ = false) ∧ base ≤ R ∧ J ≠ R ∧ A ≠ R := by
  obtain ⟨hJA, hrJ, hrA⟩ := H.apart
  have hpl := (List.getElem?_eq_some_iff.1 hp).1
  have hr := H.r
  have hxl : xs.length = s.1.length * 9 := hr.1
  rcases hr.2 with ⟨_, h0⟩ | ⟨g, cap, cur, he, hb, _⟩
  · omega
  · subst he
    exact ⟨g, cap, xs[9 * k' + 2], xs[9 * k' + 3], rfl, by rw [hr.cellAt _ (by omega)]; exact H.role k' q hp, by rw [hr.cellAt _ (by omega)]; exact List.getElem?_eq_getElem (by omega), by rw [hr.cellAt _ (by omega)]; exact List.getElem?_eq_getElem (by omega), fun o => hr.frozenAt o, hb, fun e => hrJ (by rw [e]; rfl), fun e => hrA (by rw [e]; rfl)⟩

/-- The search's state at the head of a round. -/
def RI (d : Dat) (b : Bl) (base J A : Nat) (s : Bfs.S) (k : Nat) (w wr : World) : Prop := (∃ rv xs, RS d base J A b.N s k rv xs wr) ∧ Env d b base wr ∧ Fr (fun x => base ≤ x) w wr ∧ FQ J A w wr

theorem RI.new {d : Dat} {b : Bl} {base J A : Nat} {s : Bfs.S} {k : Nat} {w w1 w2 : World} (H : RI d b base J A s k w w1) (h : New w1 w2) : RI d b base J A s k w w2 := by
  obtain ⟨⟨rv, xs, h1⟩, h2, h3, h4⟩ := H
  exact ⟨⟨rv, xs, h1.new h⟩, h2.fr (New.since h), h3.trans (New.since h), h4.trans (FQ.new h) h3.size⟩

theorem inner_succ (d : Dat) (q i : Nat) (s : Bfs.S) (h : d.incl q i = true) : d.inner q (i + 1) s = Bfs.visit (d.T q i) (d.inner q i s) := by
  show Bfs.stp _ _ _ _ _ _ = _
  unfold Bfs.stp
  rw [if_pos h]
theorem inner_same (d : Dat) (q i : Nat) (s : Bfs.S) (h : d.incl q i = false) : d.inner q (i + 1) s = d.inner q i s := by
  show Bfs.stp _ _ _ _ _ _ = _
  unfold Bfs.stp
  rw [if_neg (by simpa using h)]

theorem visit_bd (t u : Nat) (s : Bfs.S) : (Bfs.visit t s).2 u ≤ s.2 u + 1 := by
  unfold Bfs.visit
  by_cases h : u = t <;> simp [h]
theorem inner_bd (d : Dat) (q i u : Nat) (s : Bfs.S) : (d.inner q i s).2 u ≤ s.2 u + i := by
  induction i with
  | zero => exact Nat.le_refl _
  | succ i ih =>
    by_cases h : d.incl q i = true
    · rw [inner_succ d q i s h]
      have := visit_bd (d.T q i) u (d.inner q i s)
      omega
    · rw [inner_same d q i s (by simpa using h)]
      omega
theorem len_bd {d : Dat} (hd : d.Good) {q : Nat} (hq : q < d.n) : d.len q ≤ 4096 := by
  have h1 : off d.len (q + 1) ≤ off d.len d.n := off_le hq
  have := hd.tot
  simp only [off] at h1
  omega
theorem outer_bd {d : Dat} (hd : d.Good) {s0 : Bfs.S} (h0 : Bfs.Ok d.n s0) (hz : ∀ u, s0.2 u = 0) (k u : Nat) (hk : ∀ j, j < k → j < (d.outer s0 j).1.length) : (d.outer s0 k).2 u ≤ 4096 * k := by
  induction k with
  | zero => show s0.2 u ≤ _; rw [hz]; omega
  | succ k ih =>
    have h1 := ih fun j hj => hk j (by omega)
    have hok := Bfs.outer_ok (len := d.len) s0 h0 (fun q i hq hi => hd.t q i hq hi) k (K := d.K) (X := d.X) fun j hj => hk j (by omega)
    have hlt := hk k (by omega)
    have hq : (d.outer s0 k).1.getD k 0 < d.n := hok.lt _ (by rw [List.getD_eq_getElem?_getD, List.getElem?_eq_getElem hlt]; exact List.getElem_mem _)
    have h2 := inner_bd d ((d.outer s0 k).1.getD k 0) (d.len ((d.outer s0 k).1.getD k 0)) u (d.outer s0 k)
    have h3 := len_bd hd hq
    have h4 : (d.outer s0 (k + 1)).2 u ≤ (d.outer s0 k).2 u + d.len ((d.outer s0 k).1.getD k 0) := h2
    omega
theorem bare_succ (d : Dat) (q i : Nat) : d.bareF q (i + 1) = (d.bareF q i && !d.incl q i) := rfl
theorem read_succ (d : Dat) (q i : Nat) : d.readF q (i + 1) = (d.readF q i || (!d.incl q i && (d.K q i == 2 && d.T q i == q))) := rfl

/-- One role more, at the search's state. -/
theorem RI.add {d : Dat} {b : Bl} {base J A t : Nat} {s : Bfs.S} {k : Nat} {w wr : World} (H : RI d b base J A s k w wr) (hd : d.Good) (ht : t < d.n) (hts : t ∉ s.1) (hk : k ≤ s.1.length) :
    Calls Yba.prog 6 #[.pointer (some ⟨J, 0, none⟩), .int .i32 (t : Int)] wr fun e w' => e = .returned (.tuple #[]) ∧ RI d b base J A (s.1 ++ [t], s.2) k w w' := by
  obtain ⟨⟨rv, xs, h1⟩, h2, h3, h6⟩ := H
  refine (h1.add hd ht hts hk).mono ?_
  rintro e w' ⟨he, rv', xs', h4, h5, h7⟩
  exact ⟨he, ⟨rv', xs', h4⟩, h2.fr h5, h3.trans h5, h6.trans h7 h3.size⟩

/-- Where a role's record lies, at the search's state; what a store there leaves. -/
theorem RI.at_ {d : Dat} {b : Bl} {base J A t : Nat} {s : Bfs.S} {k : Nat} {w wr : World} (H : RI d b base J A s k w wr) (hd : d.Good) (hts : t ∈ s.1) :
    ∃ R p : Nat, (Calls Yba.prog 15 #[.pointer (some ⟨J, 0, none⟩), .int .i32 (t : Int)] wr fun e w' => e = .returned (.pointer (some ⟨R, 9 * p, none⟩)) ∧ Sm w' wr) ∧ wr.cell? ⟨R, 9 * p + 1, none⟩ = some (.int .i32 (s.2 t)) ∧ wr.frozen? ⟨R, 9 * p + 1, none⟩ = false ∧
      ∀ W, Sm W wr → RI d b base J A (s.1, fun u => if u = t then s.2 u + 1 else s.2 u) k w (W.setCell ⟨R, 9 * p + 1, none⟩ (.int .i32 ((s.2 t : Int) + 1))) := by
  obtain ⟨⟨rv, xs, h1⟩, h2, h3, h6⟩ := H
  obtain ⟨R, cR, p, rfl, hp, hpt, hA, hR, hb⟩ := h1.at_ hts
  refine ⟨R, p, of_env h1 hd hts hp hA, hR, h1.r.frozenAt _, fun W hW => ?_⟩
  have h4 := h1.bump hpt
  have hs : Sm (W.setCell ⟨R, 9 * p + 1, none⟩ (.int .i32 ((s.2 t : Int) + 1))) (wr.setCell ⟨R, 9 * p + 1, none⟩ (.int .i32 ((s.2 t : Int) + 1))) := hW.setCell _ _
  have hf : Fr (fun x => base ≤ x) wr (wr.setCell ⟨R, 9 * p + 1, none⟩ (.int .i32 ((s.2 t : Int) + 1))) := (Fr.refl _ wr).setCell _ _ (Or.inl hb)
  have hn : New (wr.setCell ⟨R, 9 * p + 1, none⟩ (.int .i32 ((s.2 t : Int) + 1))) (W.setCell ⟨R, 9 * p + 1, none⟩ (.int .i32 ((s.2 t : Int) + 1))) := Fr.sm (Fr.refl _ _) hs
  have hq : FQ J A wr (wr.setCell ⟨R, 9 * p + 1, none⟩ (.int .i32 ((s.2 t : Int) + 1))) := FQ.owned h1.r ((Fr.refl _ wr).setCell _ _ (Or.inl (Or.inr (Or.inr rfl))))
  exact RI.new ⟨⟨_, _, h4⟩, h2.fr hf, h3.trans hf, h6.trans hq h3.size⟩ hn

/-- The number that stands at a role. -/
theorem RI.num {d : Dat} {b : Bl} {base J A t : Nat} {s : Bfs.S} {k : Nat} {w wr : World} (H : RI d b base J A s k w wr) (ht : t < d.n) : ∃ z : Int, wr.cell? ⟨A, t, none⟩ = some (.int .i32 z) ∧ (t ∈ s.1 → z ≠ 0) ∧ (t ∉ s.1 → z = 0) := by
  obtain ⟨⟨rv, xs, h1⟩, h2, h3⟩ := H
  obtain ⟨at', ha, a1, a2⟩ := h1.a
  refine ⟨at' t, ha.cell ht, fun h => ?_, fun h => a2 t h⟩
  obtain ⟨p, hp⟩ := List.getElem?_of_mem h
  rw [a1 p t hp]
  omega
/-- The round's end. -/
theorem RI.fin {d : Dat} {b : Bl} {base J A q : Nat} {s : Bfs.S} {k : Nat} {w wr : World} (H : RI d b base J A s k w wr) (hp : s.1[k]? = some q) :
    ∃ R cR v2 v3, wr.cell? ⟨J, 1, none⟩ = some (.slice (some ⟨R, 0, none⟩) s.1.length cR) ∧ wr.cell? ⟨R, 9 * k + 2, none⟩ = some v2 ∧ wr.cell? ⟨R, 9 * k + 3, none⟩ = some v3 ∧ (∀ o, wr.frozen? ⟨R, o, none⟩ = false) ∧ J ≠ R ∧ k < s.1.length ∧
      ∀ W, Sm W ((wr.setCell ⟨R, 9 * k + 2, none⟩ (.bool (d.bareF q (d.len q)))).setCell ⟨R, 9 * k + 3, none⟩ (.bool (d.readF q (d.len q)))) → RI d b base J A s (k + 1) w W := by
  obtain ⟨⟨rv, xs, h1⟩, h2, h3, h6⟩ := H
  obtain ⟨R, cR, v2, v3, rfl, r0, c2, c3, hfz, hb, hJR, hAR⟩ := h1.cellsAt hp
  refine ⟨R, cR, v2, v3, h1.jcells.2.1, c2, c3, hfz, hJR, (List.getElem?_eq_some_iff.1 hp).1, fun W hW => ?_⟩
  have hf : Fr (fun x => base ≤ x) wr ((wr.setCell ⟨R, 9 * k + 2, none⟩ (.bool (d.bareF q (d.len q)))).setCell ⟨R, 9 * k + 3, none⟩ (.bool (d.readF q (d.len q)))) := ((Fr.refl _ wr).setCell _ _ (Or.inl hb)).setCell _ _ (Or.inl hb)
  have hq : FQ J A wr ((wr.setCell ⟨R, 9 * k + 2, none⟩ (.bool (d.bareF q (d.len q)))).setCell ⟨R, 9 * k + 3, none⟩ (.bool (d.readF q (d.len q)))) := FQ.owned h1.r (((Fr.refl _ wr).setCell _ _ (Or.inl (Or.inr (Or.inr rfl)))).setCell _ _ (Or.inl (Or.inr (Or.inr rfl))))
  exact RI.new ⟨⟨_, _, h1.fin hp⟩, h2.fr hf, h3.trans hf, h6.trans hq h3.size⟩ (Fr.sm (Fr.refl _ _) hW)
theorem RI.jcells {d : Dat} {b : Bl} {base J A : Nat} {s : Bfs.S} {k : Nat} {w wr : World} (H : RI d b base J A s k w wr) :
    wr.cell? ⟨J, 0, none⟩ = some (.pointer (some ⟨b.N, 0, none⟩)) ∧ wr.cell? ⟨J, 2, none⟩ = some (.slice (some ⟨A, 0, none⟩) d.n d.n) ∧ J < wr.heap.size ∧ Bfs.Ok d.n s := by
  obtain ⟨⟨rv, xs, h1⟩, h2, h3⟩ := H
  obtain ⟨a, _, c, e⟩ := h1.jcells
  exact ⟨a, c, e, h1.ok⟩

set_option maxHeartbeats 2000000 in
set_option maxRecDepth 100000 in
theorem reach_env {d : Dat} {b : Bl} {base J A : Nat} {s0 : Bfs.S} {rv : Value} {xs : List Value} {w : World} (E : Env d b base w) (hd : d.Good) (H : RS d base J A b.N s0 0 rv xs w) (hz : ∀ u, s0.2 u = 0) :
    Calls Yba.prog 7 #[.pointer (some ⟨J, 0, none⟩)] w fun e w' => e = .returned (.tuple #[]) ∧
      ∃ k, RI d b base J A (d.outer s0 k) k w w' ∧ (∀ j, j < k → j < (d.outer s0 j).1.length) ∧ ¬ k < (d.outer s0 k).1.length := by
  have hok0 := H.ok
  have hbd : Hid (∀ k u : Nat, (∀ j, j < k → j < (d.outer s0 j).1.length) → (d.outer s0 k).2 u ≤ 4096 * k) := fun k u => outer_bd hd hok0 hz k u
  have HI : Hid (RI d b base J A (d.outer s0 0) 0 w w) := ⟨⟨rv, xs, H⟩, E, Fr.refl _ _, FQ.refl _ _ _⟩
  have hn1 := hd.n1
  have HD : Hid d.Good := hd
  clear E H hd hz hok0
  go_enter Yba.func7, Yba.ntmps7
  go_wp2_with fail
  go_loopw [2] (fun kv wr => ∃ k : Nat, kv = .int .i64 k ∧ k ≤ d.n ∧ Hid (RI d b base J A (d.outer s0 k) k w wr ∧ ∀ j, j < k → j < (d.outer s0 j).1.length)) (fun kv _ => d.n - (intOf kv).toNat)
  case atStart => exact ⟨0, rfl, by omega, HI.out, fun j hj => absurd hj (Nat.not_lt_zero j)⟩
  case round =>
    clear HI
    obtain ⟨k, rfl, hk, HK⟩ := hrel
    obtain ⟨⟨⟨rv1, xs1, hrs⟩, henv, hfr, _⟩, hall⟩ := HK.out
    obtain ⟨j0, j1, j2, jl⟩ := hrs.jcells
    have hlen := Bfs.length_le hrs.ok.nodup hrs.ok.lt
    obtain ⟨ao, cap, hrv⟩ := owns_slice hrs.r
    by_cases hlt : k < (d.outer s0 k).1.length
    · have hqk : (d.outer s0 k).1[k]? = some ((d.outer s0 k).1.getD k 0) := by rw [List.getD_eq_getElem?_getD, List.getElem?_eq_getElem hlt]; rfl
      generalize hq : (d.outer s0 k).1.getD k 0 = q at hqk
      obtain ⟨R, cR, v2, v3, hrv2, r0, _, _, _, hbR, hJR, hAR⟩ := hrs.cellsAt hqk
      have hqn : q < d.n := hrs.ok.lt q (List.mem_of_getElem? hqk)
      have i1 := fun W => ix79 R _ cR k .i64 W hlt
      have i2 := fun W => ix25 b.F (d.n + 1) b.cF q .i32 W (by omega)
      have n0 := henv.n0
      have p12 := henv.p12
      have fq := henv.fi q (by omega)
      rw [hrv2] at j1
      have hcb : ∀ u, (d.outer s0 k).2 u ≤ 4096 * k := fun u => hbd.out k u hall
      have HL : Hid ((d.outer s0 k).1[k]? = some q ∧ (d.outer s0 k).1.getD k 0 = q ∧ d.len q ≤ 4096 ∧ k < (d.outer s0 k).1.length) := ⟨hqk, hq, len_bd HD.out hqn, hlt⟩
      have hlq : d.len q ≤ 4096 := HL.out.2.2.1
      have hoq : off d.len q ≤ 4096 := Nat.le_trans (off_le (Nat.le_of_lt hqn)) HD.out.tot
      have HS : Hid (RI d b base J A (d.outer s0 k) k w wr ∧ ∀ j, j < k → j < (d.outer s0 j).1.length) := HK
      have hkm : k < d.n := by omega
      clear hrv hrv2 hrs henv hfr hall hqk HK
      generalize hso : d.outer s0 k = so at *
      generalize hm : so.1.length = m at j1 i1 hlt hlen
      go_wp2_with fail
      go_loopw [4, 5, 6] (fun bv rd jv wq => ∃ i : Nat, i ≤ d.len q ∧ bv = .bool (d.bareF q i) ∧ rd = .bool (d.readF q i) ∧ jv = .int .i32 ((off d.len q : Int) + i) ∧ Hid (RI d b base J A (d.inner q i so) k w wq)) (fun _ _ jv _ => off d.len q + d.len q - (intOf jv).toNat)
      case atStart => exact ⟨0, by omega, rfl, rfl, by simp, HS.out.1⟩
      case round =>
        obtain ⟨i, hi, rfl, rfl, rfl, HX⟩ := hrel
        clear j0 j1 j2 r0 n0 p12 fq i1 jl
        obtain ⟨j0, j2, jl, hok⟩ := HX.out.jcells
        have n0 := HX.out.2.1.n0
        have p12 := HX.out.2.1.p12
        have fq : _ = some (Value.int .i32 ((off d.len (q + 1) : Nat) : Int)) := HX.out.2.1.fi (q + 1) (by omega)
        rw [show ((off d.len (q + 1) : Nat) : Int) = (off d.len q : Int) + d.len q by simp [off]] at fq
        have i3 : ∀ W, (Instr.indexAt 25 (.slice (some ⟨b.F, 0, none⟩) (d.n + 1) b.cF) (.int .i32 ((q : Int) + 1))).run Yba.prog W = .ok (.pointer (some ⟨b.F, q + 1, none⟩)) W := fun W => ix25 b.F (d.n + 1) b.cF (q + 1) .i32 W (by omega)
        by_cases hil : i < d.len q
        · have HN : Hid (Calls Yba.prog 13 #[.pointer (some ⟨b.N, 0, none⟩), .int .i32 ((off d.len q : Int) + i)] wr fun e w' =>
              ((d.incl q i = true ∧ e = .returned (.tuple #[.int .i32 (d.T q i : Int), .bool true])) ∨ (d.incl q i = false ∧ e = .returned (.tuple #[.int .i32 0, .bool false]))) ∧ New wr w') := by
            have := included_env HX.out.2.1 HD.out hqn hil rfl
            rw [Int.natCast_add] at this
            exact this
          go_wp2_with fail
          refine HN.out.mono ?_
          rintro e w3 ⟨hc, hnew⟩
          have HX3 : Hid (RI d b base J A (d.inner q i so) k w w3) := HX.out.new hnew
          obtain ⟨j0', j2', jl', hok'⟩ := HX3.out.jcells
          rcases hc with ⟨hin, rfl⟩ | ⟨hin, rfl⟩
          · have htn := HD.out.t q i hqn hil
            obtain ⟨zt, hzt, z1, z2⟩ := HX3.out.num htn
            have i4 := fun W => ix25 A d.n d.n (d.T q i) .i32 W htn
            have hcl : ((d.inner q i so).2 (d.T q i) : Int) ≤ 2000000 := by
              have h1 := inner_bd d q i (d.T q i) so
              have h2 := hcb (d.T q i)
              omega
            have hkl : k ≤ (d.inner q i so).1.length := by
              obtain ⟨r, hr⟩ := Bfs.inner_pre (K := d.K) (T := d.T) (X := d.X) q i so
              have h1 := HL.out.2.2.2
              show k ≤ (Bfs.inner d.K d.T d.X q i so).1.length
              rw [hr, List.length_append]
              omega
            by_cases hmem : d.T q i ∈ (d.inner q i so).1
            · have hzn : (zt == 0) = false := by simpa using z1 hmem
              obtain ⟨R1, p1, HO, hR1, hF1, HB⟩ := HX3.out.at_ HD.out hmem
              have HO' : Hid (Calls Yba.prog 15 #[.pointer (some ⟨J, 0, none⟩), .int .i32 (d.T q i : Int)] w3 fun e w' => e = .returned (.pointer (some ⟨R1, 9 * p1, none⟩)) ∧ Sm w' w3) := HO
              have HB' : Hid _ := HB
              have hvis : d.inner q (i + 1) so = ((d.inner q i so).1, fun u => if u = d.T q i then (d.inner q i so).2 u + 1 else (d.inner q i so).2 u) := by
                rw [inner_succ _ _ _ _ hin]
                unfold Bfs.visit
                rw [if_pos hmem]
              clear HO HB HN HX hnew hok' hok z1 z2
              go_wp2_with fail
              refine HO'.out.mono ?_
              rintro e w5 ⟨rfl, hs5⟩
              have hR5 : w5.cell? ⟨R1, 9 * p1 + 1, none⟩ = some (.int .i32 ((d.inner q i so).2 (d.T q i))) := by rw [hs5.cell]; exact hR1
              have hF5 : w5.frozen? ⟨R1, 9 * p1 + 1, none⟩ = false := by rw [hs5.frozen]; exact hF1
              have HB5 : Hid _ := HB'.out w5 hs5
              clear HB' hs5
              go_wp2_with fail
              go_roundw
              case rel => exact ⟨i + 1, by omega, by rw [bare_succ, hin]; simp, by rw [read_succ, hin]; simp, by go_num, by rw [hvis]; exact HB5⟩
              case measure => simp [intOf]; omega
            · have hz0 := z2 hmem
              subst hz0
              have HAd : Hid (Calls Yba.prog 6 #[.pointer (some ⟨J, 0, none⟩), .int .i32 (d.T q i : Int)] w3 fun e w' => e = .returned (.tuple #[]) ∧ RI d b base J A ((d.inner q i so).1 ++ [d.T q i], (d.inner q i so).2) k w w') := HX3.out.add HD.out htn hmem hkl
              have hvis : d.inner q (i + 1) so = ((d.inner q i so).1 ++ [d.T q i], fun u => if u = d.T q i then (d.inner q i so).2 u + 1 else (d.inner q i so).2 u) := by
                rw [inner_succ _ _ _ _ hin]
                unfold Bfs.visit
                rw [if_neg hmem]
              clear HN HX hnew hok' hok z1 z2
              go_wp2_with fail
              refine HAd.out.mono ?_
              rintro e w4 ⟨rfl, hri4⟩
              obtain ⟨R1, p1, HO, hR1, hF1, HB⟩ := hri4.at_ HD.out (t := d.T q i) (by simp)
              have HO' : Hid (Calls Yba.prog 15 #[.pointer (some ⟨J, 0, none⟩), .int .i32 (d.T q i : Int)] w4 fun e w' => e = .returned (.pointer (some ⟨R1, 9 * p1, none⟩)) ∧ Sm w' w4) := HO
              have HB' : Hid _ := HB
              clear HO HB HAd hri4
              go_wp2_with fail
              refine HO'.out.mono ?_
              rintro e w5 ⟨rfl, hs5⟩
              have hR5 : w5.cell? ⟨R1, 9 * p1 + 1, none⟩ = some (.int .i32 ((d.inner q i so).2 (d.T q i))) := by rw [hs5.cell]; exact hR1
              have hF5 : w5.frozen? ⟨R1, 9 * p1 + 1, none⟩ = false := by rw [hs5.frozen]; exact hF1
              have HB5 : Hid _ := HB'.out w5 hs5
              clear HB' hs5
              go_wp2_with fail
              go_roundw
              case rel => exact ⟨i + 1, by omega, by rw [bare_succ, hin]; simp, by rw [read_succ, hin]; simp, by go_num, by rw [hvis]; exact HB5⟩
              case measure => simp [intOf]; omega
          · have HR : Hid (Calls Yba.prog 14 #[.pointer (some ⟨b.N, 0, none⟩), .int .i32 (q : Int), .int .i32 ((off d.len q : Int) + i)] w3 fun e w' => e = .returned (.bool (d.K q i == 2 && d.T q i == q)) ∧ New w3 w') := by
              have := reads_env HX3.out.2.1 HD.out (r := q) hqn hil rfl
              rw [Int.natCast_add] at this
              exact this
            have hsame := inner_same d q i so hin
            clear HN HX hnew hok' hok
            cases hrd : d.readF q i
            · go_wp2_with fail
              refine HR.out.mono ?_
              rintro e w5 ⟨rfl, hn5⟩
              have HX5 : Hid _ := HX3.out.new hn5
              clear hn5
              go_wp2_with fail
              go_roundw
              case rel => exact ⟨i + 1, by omega, by rw [bare_succ, hin]; simp, by rw [read_succ, hin, hrd]; simp, by go_num, by rw [hsame]; exact HX5⟩
              case measure => simp [intOf]; omega
            · go_wp2_with fail
              go_roundw
              case rel => exact ⟨i + 1, by omega, by rw [bare_succ, hin]; simp, by rw [read_succ, hin, hrd]; simp, by go_num, by rw [hsame]; exact HX3⟩
              case measure => simp [intOf]; omega
        · have hie : i = d.len q := by omega
          subst hie
          have hkq : (d.inner q (d.len q) so).1[k]? = some q := by
            obtain ⟨r, hr⟩ := Bfs.inner_pre (K := d.K) (T := d.T) (X := d.X) q (d.len q) so
            show (Bfs.inner d.K d.T d.X q (d.len q) so).1[k]? = some q
            rw [hr, List.getElem?_append_left HL.out.2.2.2]
            exact HL.out.1
          obtain ⟨R2, cR2, v2, v3, k1, k2, k3, kf, hJR2, hkl2, HF⟩ := HX.out.fin hkq
          have kf2 := kf (9 * k + 2)
          have kf3 := kf (9 * k + 3)
          have i5 := fun W => ix79 R2 _ cR2 k .i64 W hkl2
          have HF' : Hid _ := HF
          have hout : d.outer s0 (k + 1) = d.inner q (d.len q) so := by
            show d.inner ((d.outer s0 k).1.getD k 0) (d.len ((d.outer s0 k).1.getD k 0)) (d.outer s0 k) = _
            rw [hso, HL.out.2.1]
          clear HF kf HX hok
          generalize (d.inner q (d.len q) so).1.length = m2 at k1 i5 hkl2
          go_wp2_with fail
          go_region
          all_goals
            go_wp2_with fail
            go_roundw
            case rel =>
              refine ⟨k + 1, by go_num, by omega, ?_, ?_⟩
              · rw [hout]; exact HF'.out _ ⟨rfl, rfl, rfl, rfl⟩
              · intro j hj
                by_cases hjk : j = k
                · subst hjk; rw [hso]; exact HL.out.2.2.2
                · exact HS.out.2 j (by omega)
            case measure => simp [intOf]; omega
    · obtain ⟨hk1, hk2⟩ := HK.out
      clear hrs henv hfr
      rw [hrv] at j1
      generalize hm : (d.outer s0 k).1.length = m at *
      go_wp2_with fail
      go_end0
      exact ⟨rfl, k, HK.out.1, HK.out.2, by omega⟩
end Go.Proofs.Ybulkqmo
