/-
  DERIVED. The memory that eval's reach reads (Env) and that it writes (RS), and what add, of, included, readsOwn do there.
-/
import Derived.Test.YbulkqmoSmall
import Derived.Test.YbulkqmoBfs
namespace Go.Proofs.Ybulkqmo
open Go.RowKit
set_option linter.unusedVariables false

/-- The law's input, plainly: n roles; role q has len q bodies; body i: its kind, target, and whether it has an exclusion. -/
structure Dat where
  n : Nat
  len : Nat → Nat
  K : Nat → Nat → Nat
  T : Nat → Nat → Nat
  X : Nat → Nat → Bool

def off (len : Nat → Nat) : Nat → Nat
  | 0 => 0
  | q + 1 => off len q + len q
theorem off_le {len : Nat → Nat} {a b : Nat} (h : a ≤ b) : off len a ≤ off len b := by
  induction b with
  | zero =>
    have : a = 0 := by omega
    subst this
    exact Nat.le_refl _
  | succ b ih =>
    by_cases hab : a = b + 1
    · subst hab; exact Nat.le_refl _
    · have := ih (by omega); simp only [off]; omega
theorem off_lt {len : Nat → Nat} {q n i : Nat} (hq : q < n) (hi : i < len q) : off len q + i < off len n := by
  have : off len (q + 1) ≤ off len n := off_le hq
  simp only [off] at this
  omega

structure Dat.Good (d : Dat) : Prop where
  n0 : 0 < d.n
  n1 : d.n ≤ 256
  tot : off d.len d.n ≤ 4096
  t : ∀ q i, q < d.n → i < d.len q → d.T q i < d.n
  k : ∀ q i, q < d.n → i < d.len q → d.K q i ≤ 2

abbrev Dat.incl (d : Dat) (q i : Nat) : Bool := Bfs.incl d.K d.X q i
abbrev Dat.inner (d : Dat) (q i : Nat) (s : Bfs.S) : Bfs.S := Bfs.inner d.K d.T d.X q i s
abbrev Dat.outer (d : Dat) (s : Bfs.S) (k : Nat) : Bfs.S := Bfs.outer d.K d.T d.X d.len s k
abbrev Dat.bareF (d : Dat) (q i : Nat) : Bool := Bfs.bareF d.K d.X q i
abbrev Dat.readF (d : Dat) (q i : Nat) : Bool := Bfs.readF d.K d.T d.X q i

/-- Where it all lies. -/
structure Bl where
  N : Nat
  Pl : Nat
  AL : Nat
  U : Nat
  F : Nat
  cF : Nat
  nl : Nat
  bv : Value
  lv : Value
  xb : List Value
  xl : List Value

/-- One body as it lies in the row of bodies. -/
def BodyAt (d : Dat) (nl : Nat) (xb xl : List Value) (q i : Nat) : Prop :=
  ∃ x : Int, xb[3 * (off d.len q + i)]? = some (.int .u8 (d.K q i)) ∧ xb[3 * (off d.len q + i) + 1]? = some (.int .i32 x) ∧ xb[3 * (off d.len q + i) + 2]? = some (.int .i32 0) ∧
    (d.K q i = 1 → x = d.T q i) ∧ (d.K q i = 2 → ∃ l : Nat, x = l ∧ l < nl ∧ xl[6 * l]? = some (.int .i32 (d.T q i)))

structure Env (d : Dat) (b : Bl) (base : Nat) (w : World) : Prop where
  n0 : w.cell? ⟨b.N, 0, none⟩ = some (.pointer (some ⟨b.Pl, 0, none⟩))
  n6 : w.cell? ⟨b.N, 6, none⟩ = some (.map (some b.AL))
  p12 : w.cell? ⟨b.Pl, 12, none⟩ = some (.slice (some ⟨b.F, 0, none⟩) (d.n + 1) b.cF)
  p13 : w.cell? ⟨b.Pl, 13, none⟩ = some b.bv
  p15 : w.cell? ⟨b.Pl, 15, none⟩ = some b.lv
  p20 : w.cell? ⟨b.Pl, 20, none⟩ = some (.map (some b.U))
  fi : ∀ q, q ≤ d.n → w.cell? ⟨b.F, q, none⟩ = some (.int .i32 (off d.len q))
  bo : w.ownsRow 0 42 3 b.bv (off d.len d.n) b.xb
  li : w.ownsRow 0 44 6 b.lv b.nl b.xl
  body : ∀ q i, q < d.n → i < d.len q → BodyAt d b.nl b.xb b.xl q i
  un : ∃ sz S, SetM w b.U sz S ∧ ∀ q i, q < d.n → i < d.len q → S ((off d.len q + i : Nat) : Int) = d.X q i
  al : ∃ sz, AlM w b.AL sz d.n
  bN : b.N < base
  bP : b.Pl < base
  bA : b.AL < base
  bU : b.U < base
  bF : b.F < base
  bB : ∀ g, b.bv.ownBlock = some g → g < base
  bL : ∀ g, b.lv.ownBlock = some g → g < base
  bw : base ≤ w.heap.size

theorem Env.fr {d : Dat} {b : Bl} {base : Nat} {w w' : World} (E : Env d b base w) (hf : Fr (fun k => base ≤ k) w w') : Env d b base w' := by
  have lt : ∀ {k}, k < base → k < w.heap.size := fun {k} h => Nat.lt_of_lt_of_le h E.bw
  have cl : ∀ {k o}, k < base → w'.cell? ⟨k, o, none⟩ = w.cell? ⟨k, o, none⟩ := fun {k o} h => hf.cell (lt h) (by omega) o
  obtain ⟨sz, S, hS, hS2⟩ := E.un
  obtain ⟨sz2, hA⟩ := E.al
  exact ⟨by rw [cl E.bN]; exact E.n0, by rw [cl E.bN]; exact E.n6, by rw [cl E.bP]; exact E.p12, by rw [cl E.bP]; exact E.p13, by rw [cl E.bP]; exact E.p15, by rw [cl E.bP]; exact E.p20,
    fun q hq => by rw [cl E.bF]; exact E.fi q hq, owns_fr E.bo hf (fun g hg h => by have := E.bB g hg; omega), owns_fr E.li hf (fun g hg h => by have := E.bL g hg; omega), E.body,
    ⟨sz, S, hS.fr hf (by have := E.bU; omega), hS2⟩, ⟨sz2, hA.fr hf (by have := E.bA; omega)⟩, E.bN, E.bP, E.bA, E.bU, E.bF, E.bB, E.bL, Nat.le_trans E.bw hf.size⟩
theorem New.since {base : Nat} {w w' : World} (h : New w w') : Fr (fun k => base ≤ k) w w' := Fr.mono h fun _ _ h => h.elim

theorem Env.slices {d : Dat} {b : Bl} {base : Nat} {w : World} (E : Env d b base w) {q i : Nat} (hq : q < d.n) (hi : i < d.len q) :
    ∃ Bo cB, b.bv = .slice (some ⟨Bo, 0, none⟩) (off d.len d.n) cB ∧ Bo < w.heap.size ∧ ∀ j, j < off d.len d.n * 3 → w.cell? ⟨Bo, j, none⟩ = b.xb[j]? := by
  have hlt := off_lt (n := d.n) hq hi
  have ho := E.bo
  rcases ho.2 with ⟨_, h0⟩ | ⟨g, cap, cur, he, _⟩
  · omega
  · rw [he] at ho
    exact ⟨g, cap, he, (ho.lt g rfl).2, fun j hj => ho.cellAt j hj⟩

theorem included_env {d : Dat} {b : Bl} {base : Nat} {w : World} (E : Env d b base w) (hd : d.Good) {q i J : Nat} (hq : q < d.n) (hi : i < d.len q) (hJ : J = off d.len q + i) :
    Calls Yba.prog 13 #[.pointer (some ⟨b.N, 0, none⟩), .int .i32 (J : Int)] w fun e w' =>
      ((d.incl q i = true ∧ e = .returned (.tuple #[.int .i32 (d.T q i : Int), .bool true])) ∨ (d.incl q i = false ∧ e = .returned (.tuple #[.int .i32 0, .bool false]))) ∧ New w w' := by
  have hlt := off_lt (n := d.n) hq hi
  have htot := hd.tot
  obtain ⟨Bo, cB, hbv, hBo, hc⟩ := E.slices hq hi
  obtain ⟨x, x0, x1, x2, y1, y2⟩ := E.body q i hq hi
  obtain ⟨sz, S, hS, hS2⟩ := E.un
  obtain ⟨sz2, hA⟩ := E.al
  have hk := hd.k q i hq hi
  have htn := hd.t q i hq hi
  have hn1 := hd.n1
  have p13 := E.p13
  rw [hbv] at p13
  subst hJ
  have hX := hS2 q i hq hi
  refine (included_raw b.N b.Pl b.U Bo (off d.len q + i) (off d.len d.n) cB (d.T q i) (d.K q i) x (d.X q i) w hlt (by omega) hBo (Nat.lt_of_lt_of_le E.bN E.bw) (Nat.lt_of_lt_of_le E.bP E.bw) E.n0 p13 E.p20 (by rw [hc _ (by omega)]; exact x0) (by rw [hc _ (by omega)]; exact x1) (by rw [hc _ (by omega)]; exact x2) (by omega) (by omega) (fun h => y1 (by omega)) ?_ ?_).mono ?_
  · rw [← hX]
    exact (hS.fr (F := fun _ => False) ((Fr.refl _ w).alloc _) (fun h => h)).look _ (by omega) (by omega)
  · intro W hW
    exact alias_raw b.N b.AL (d.T q i) W (by omega) (by rw [hW.cell (Nat.lt_of_lt_of_le E.bN E.bw) (fun h => h)]; exact E.n6) ((hA.fr hW (fun h => h)).look _ htn (by omega))
  · rintro e w' ⟨h, hn⟩
    refine ⟨?_, hn⟩
    rcases h with ⟨h1, h2, rfl⟩ | ⟨h1, rfl⟩
    · refine Or.inl ⟨?_, rfl⟩
      have : d.K q i = 1 := by omega
      simp [Dat.incl, Bfs.incl, this, h2]
    · refine Or.inr ⟨?_, rfl⟩
      simp only [Dat.incl, Bfs.incl]
      by_cases hk1 : d.K q i = 1
      · simp [hk1]
        by_cases hx : d.X q i = true
        · exact hx
        · exact absurd ⟨by omega, by simpa using hx⟩ h1
      · simp [hk1]

theorem reads_env {d : Dat} {b : Bl} {base : Nat} {w : World} (E : Env d b base w) (hd : d.Good) {q i J r : Nat} (hq : q < d.n) (hi : i < d.len q) (hJ : J = off d.len q + i) :
    Calls Yba.prog 14 #[.pointer (some ⟨b.N, 0, none⟩), .int .i32 (r : Int), .int .i32 (J : Int)] w fun e w' => e = .returned (.bool (d.K q i == 2 && d.T q i == r)) ∧ New w w' := by
  have hlt := off_lt (n := d.n) hq hi
  have htot := hd.tot
  obtain ⟨Bo, cB, hbv, hBo, hc⟩ := E.slices hq hi
  obtain ⟨x, x0, x1, x2, y1, y2⟩ := E.body q i hq hi
  have hk := hd.k q i hq hi
  have p13 := E.p13
  rw [hbv] at p13
  subst hJ
  obtain ⟨Li, cL, l, hl⟩ : ∃ Li cL l : Nat, d.K q i = 2 → x = l ∧ l < b.nl ∧ b.lv = .slice (some ⟨Li, 0, none⟩) b.nl cL ∧ w.cell? ⟨Li, 6 * l, none⟩ = some (.int .i32 (d.T q i)) := by
    by_cases hk2 : d.K q i = 2
    · obtain ⟨l, hxl, hln, hcl⟩ := y2 hk2
      have ho := E.li
      rcases ho.2 with ⟨_, h0⟩ | ⟨g, cap, cur, he, _⟩
      · omega
      · rw [he] at ho
        exact ⟨g, cap, l, fun _ => ⟨hxl, hln, he, by rw [ho.cellAt _ (by omega)]; exact hcl⟩⟩
    · exact ⟨0, 0, 0, fun h => absurd h hk2⟩
  refine (reads_raw b.N b.Pl Bo Li (off d.len q + i) (off d.len d.n) cB b.nl cL l (d.T q i) r (d.K q i) x b.lv w hlt (by omega) hBo (Nat.lt_of_lt_of_le E.bN E.bw) (Nat.lt_of_lt_of_le E.bP E.bw) E.n0 p13 E.p15 (by rw [hc _ (by omega)]; exact x0) (by rw [hc _ (by omega)]; exact x1) (by rw [hc _ (by omega)]; exact x2) (by omega) (by omega) (fun h => hl (by omega))).mono ?_
  rintro e w' ⟨rfl, hn⟩
  refine ⟨?_, hn⟩
  have e1 : decide ((d.K q i : Int) = 2) = (d.K q i == 2) := by
    by_cases h : d.K q i = 2
    · simp [h]
    · have : ¬ ((d.K q i : Int) = 2) := by omega
      simp [h, this]
  have e2 : decide (d.T q i = r) = (d.T q i == r) := by
    by_cases h : d.T q i = r <;> simp [h]
  rw [e1, e2]

/-- Nothing has turned but J, A, rows of records, and new blocks. -/
def FQ (J A : Nat) (w w' : World) : Prop := ∀ k, k < w.heap.size → k ≠ J → k ≠ A → (∀ c z, w.heap[k]? ≠ some (.cells c 87 z)) → w'.heap[k]? = w.heap[k]?
theorem FQ.refl (J A : Nat) (w : World) : FQ J A w w := fun _ _ _ _ _ => rfl
theorem FQ.trans {J A : Nat} {w w1 w2 : World} (h : FQ J A w w1) (k : FQ J A w1 w2) (hs : w.heap.size ≤ w1.heap.size) : FQ J A w w2 := fun i hi h1 h2 h3 => by
  have e := h i hi h1 h2 h3
  rw [k i (Nat.lt_of_lt_of_le hi hs) h1 h2 (fun c z hc => h3 c z (by rw [← e]; exact hc))]
  exact e
theorem FQ.new {J A : Nat} {w w' : World} (h : New w w') : FQ J A w w' := fun i hi _ _ _ => h.block i hi (fun h => h)
theorem FQ.row {J A : Nat} {w w' : World} (h : FQ J A w w') {k n : Nat} {t : TypeId} {f : Nat → Value} (hr : w.rowIs k t n f) (h1 : k ≠ J) (h2 : k ≠ A) (ht : t ≠ 87) : w'.rowIs k t n f :=
  hr.of_block (h k hr.lt h1 h2 fun c z hc => by
    obtain ⟨c', h3, _⟩ := hr
    rw [h3] at hc
    simp at hc
    exact ht hc.2.1)
theorem FQ.owns {J A : Nat} {w w' : World} (h : FQ J A w w') {base n e size : Nat} {v : Value} {xs : List Value} (hr : w.ownsRow base e size v n xs) (h1 : v.ownBlock ≠ some J) (h2 : v.ownBlock ≠ some A) (ht : e ≠ 87) : w'.ownsRow base e size v n xs :=
  owns_block hr fun g hg => h g (hr.lt g hg).2 (fun e => h1 (by rw [hg, e])) (fun e => h2 (by rw [hg, e])) fun c z hc => by
    rcases hr.2 with ⟨rfl, _⟩ | ⟨g', cap, cur, rfl, _, h3, _⟩
    · simp [Value.ownBlock] at hg
    · simp [Value.ownBlock] at hg
      subst hg
      rw [h3] at hc
      simp at hc
      exact ht hc.2.1
/-- Stores into J, A or a row of records. -/
theorem FQ.owned {J A : Nat} {w w' : World} {base n : Nat} {rv : Value} {xs : List Value} (hr : w.ownsRow base 87 9 rv n xs) (hf : Fr (fun k => k = J ∨ k = A ∨ rv.ownBlock = some k) w w') : FQ J A w w' := fun i hi h1 h2 h3 => hf.block i hi (fun h => by
  rcases h with h | h | h
  · exact h1 h
  · exact h2 h
  · rcases hr.2 with ⟨rfl, _⟩ | ⟨g, cap, cur, rfl, _, h4, _⟩
    · simp [Value.ownBlock] at h
    · simp [Value.ownBlock] at h
      subst h
      exact h3 _ _ h4)

/-- What nobody stores into a record: its last five cells. -/
abbrev RestV : List Value := [.bool false, .bool false, .bool false, .pointer none, .slice none 0 0]
/-- What the search writes: the roles reached so far are s.1, each with the inclusions counted in s.2; the first k are done. -/
structure RS (d : Dat) (base J A N : Nat) (s : Bfs.S) (k : Nat) (rv : Value) (xs : List Value) (w : World) : Prop where
  j : ∃ f : Nat → Value, w.rowIs J 82 8 f ∧ f 0 = .pointer (some ⟨N, 0, none⟩) ∧ f 1 = rv ∧ f 2 = .slice (some ⟨A, 0, none⟩) d.n d.n
  a : ∃ at' : Nat → Int, w.rowIs A 21 d.n (fun i => .int .i32 (at' i)) ∧ (∀ (i q : Nat), s.1[i]? = some q → at' q = (i : Int) + 1) ∧ (∀ q, q ∉ s.1 → at' q = 0)
  r : w.ownsRow base 87 9 rv s.1.length xs
  jb : base ≤ J
  ab : base ≤ A
  role : ∀ (i q : Nat), s.1[i]? = some q → xs[9 * i]? = some (.int .i32 q)
  inc : ∀ (i q : Nat), s.1[i]? = some q → xs[9 * i + 1]? = some (.int .i32 (s.2 q))
  done : ∀ (i q : Nat), i < k → s.1[i]? = some q → xs[9 * i + 2]? = some (.bool (d.bareF q (d.len q))) ∧ xs[9 * i + 3]? = some (.bool (d.readF q (d.len q)))
  rest : ∀ i, i < s.1.length → ∀ j, j < 5 → xs[9 * i + 4 + j]? = RestV[j]?
  ok : Bfs.Ok d.n s
  bw : base ≤ w.heap.size

theorem RS.apart {d : Dat} {base J A N : Nat} {s : Bfs.S} {k : Nat} {rv : Value} {xs : List Value} {w : World} (H : RS d base J A N s k rv xs w) : J ≠ A ∧ rv.ownBlock ≠ some J ∧ rv.ownBlock ≠ some A := by
  obtain ⟨f, hf, _⟩ := H.j
  obtain ⟨at', ha, _⟩ := H.a
  refine ⟨?_, owns_ne_row H.r hf (by decide), owns_ne_row H.r ha (by decide)⟩
  rintro rfl
  obtain ⟨c1, h1, _⟩ := hf
  obtain ⟨c2, h2, _⟩ := ha
  rw [h1] at h2
  simp at h2

theorem RS.fr {d : Dat} {base J A N : Nat} {s : Bfs.S} {k : Nat} {rv : Value} {xs : List Value} {w w' : World} {S : Nat → Prop} (H : RS d base J A N s k rv xs w) (hf : Fr S w w') (h1 : ¬ S J) (h2 : ¬ S A) (h3 : ∀ g, rv.ownBlock = some g → ¬ S g) : RS d base J A N s k rv xs w' := by
  obtain ⟨f, hj, hj'⟩ := H.j
  obtain ⟨at', ha, ha'⟩ := H.a
  exact ⟨⟨f, hf.row hj h1, hj'⟩, ⟨at', hf.row ha h2, ha'⟩, owns_fr H.r hf h3, H.jb, H.ab, H.role, H.inc, H.done, H.rest, H.ok, Nat.le_trans H.bw hf.size⟩
theorem RS.new {d : Dat} {base J A N : Nat} {s : Bfs.S} {k : Nat} {rv : Value} {xs : List Value} {w w' : World} (H : RS d base J A N s k rv xs w) (hf : New w w') : RS d base J A N s k rv xs w' := H.fr hf (fun h => h) (fun h => h) (fun _ _ h => h)

/-- One role more. -/
theorem RS.add {d : Dat} {base J A N t : Nat} {s : Bfs.S} {k : Nat} {rv : Value} {xs : List Value} {w : World} (H : RS d base J A N s k rv xs w) (hd : d.Good) (ht : t < d.n) (hts : t ∉ s.1) (hk : k ≤ s.1.length) :
    Calls Yba.prog 6 #[.pointer (some ⟨J, 0, none⟩), .int .i32 (t : Int)] w fun e w' => e = .returned (.tuple #[]) ∧ ∃ rv' xs', RS d base J A N (s.1 ++ [t], s.2) k rv' xs' w' ∧ Fr (fun x => base ≤ x) w w' ∧ FQ J A w w' := by
  obtain ⟨hJA, hrJ, hrA⟩ := H.apart
  obtain ⟨f, hj, f0, f1, f2⟩ := H.j
  obtain ⟨at', ha, a1, a2⟩ := H.a
  have hlen := Bfs.length_le H.ok.nodup H.ok.lt
  have hn1 := hd.n1
  refine (add_raw J A t d.n s.1.length base rv xs f w ht (by omega) hj f1 f2 (by rw [ha.cell ht]; rfl) (ha.frozen t) hJA H.r hrA H.bw).mono ?_
  rintro e w' ⟨he, rv', w1, ho, hf, hs⟩
  refine ⟨he, rv', xs ++ Rec t, ?_, ?_, ?_⟩
  · have hj1 := hf.row hj hrJ
    have ha1 := hf.row ha hrA
    have hxl : xs.length = s.1.length * 9 := H.r.1
    have old : ∀ (i q : Nat), (s.1 ++ [t])[i]? = some q → (i < s.1.length ∧ s.1[i]? = some q) ∨ (i = s.1.length ∧ q = t) := by
      intro i q h
      by_cases hi : i < s.1.length
      · rw [List.getElem?_append_left hi] at h
        exact Or.inl ⟨hi, h⟩
      · have hi2 := (List.getElem?_eq_some_iff.1 h).1
        simp at hi2
        have : i = s.1.length := by omega
        subst this
        simp at h
        exact Or.inr ⟨rfl, h.symm⟩
    have hrv' := owns_ne_row ho hj1 (by decide)
    have hrA' := owns_ne_row ho ha1 (by decide)
    refine ⟨⟨_, hs.row ((hj1.set 1 rv').setOther hJA _), by simp [f0], by simp, by simp [f2]⟩, ⟨fun i => if i = t then (s.1.length : Int) + 1 else at' i, ?_, ?_, ?_⟩, ?_, H.jb, H.ab, ?_, ?_, ?_, ?_, ?_, ?_⟩
    · refine hs.row (((ha1.setOther (fun e => hJA e.symm) _).set t _).congr fun i hi => ?_)
      by_cases hit : i = t <;> simp [hit]
    · intro i q h
      rcases old i q h with ⟨h1, h2⟩ | ⟨h1, h2⟩
      · have : q ≠ t := fun e => hts (e ▸ List.mem_of_getElem? h2)
        simp [this, a1 i q h2]
      · subst h1; subst h2; simp
    · intro q hq
      simp at hq
      simp [hq.2, a2 q hq.1]
    · rw [List.length_append]
      refine owns_block ho fun g hg => ?_
      rw [hs.heap, Go.Deep.blk_setCell_other _ _ _ _ (fun e => hrA' (by rw [hg, e])), Go.Deep.blk_setCell_other _ _ _ _ (fun e => hrv' (by rw [hg, e]))]
    · intro i q h
      rcases old i q h with ⟨h1, h2⟩ | ⟨h1, h2⟩
      · rw [List.getElem?_append_left (by omega)]; exact H.role i q h2
      · subst h1; subst h2
        rw [List.getElem?_append_right (by omega), show 9 * s.1.length - xs.length = 0 by omega]; rfl
    · intro i q h
      rcases old i q h with ⟨h1, h2⟩ | ⟨h1, h2⟩
      · rw [List.getElem?_append_left (by omega)]; exact H.inc i q h2
      · subst h1; subst h2
        rw [List.getElem?_append_right (by omega), show 9 * s.1.length + 1 - xs.length = 1 by omega, H.ok.zero _ hts]; rfl
    · intro i q hi h
      rcases old i q h with ⟨h1, h2⟩ | ⟨h1, h2⟩
      · rw [List.getElem?_append_left (by omega), List.getElem?_append_left (by omega)]; exact H.done i q hi h2
      · omega
    · intro i hi j hj
      simp only [List.length_append, List.length_cons, List.length_nil] at hi
      by_cases hil : i < s.1.length
      · rw [List.getElem?_append_left (by omega)]; exact H.rest i hil j hj
      · have hie : i = s.1.length := by omega
        subst hie
        rw [List.getElem?_append_right (by omega), show 9 * s.1.length + 4 + j - xs.length = 4 + j by omega]
        have hj5 : j = 0 ∨ j = 1 ∨ j = 2 ∨ j = 3 ∨ j = 4 := by omega
        rcases hj5 with rfl | rfl | rfl | rfl | rfl <;> rfl
    · refine ⟨?_, ?_, ?_⟩
      · rw [List.nodup_append]
        exact ⟨H.ok.nodup, by simp, fun a ha b hb => by simp at hb; subst hb; exact fun e => hts (e ▸ ha)⟩
      · intro q hq
        simp at hq
        rcases hq with hq | rfl
        · exact H.ok.lt q hq
        · exact ht
      · intro q hq
        simp at hq
        exact H.ok.zero q hq.1
    · rw [hs.heap]
      have := hf.size
      have := H.bw
      simp
      omega
  · have hb := H.r.lt
    exact Fr.sm (((hf.mono (S' := fun x => base ≤ x) fun x _ hx => (hb x hx).1).setCell _ _ (Or.inl H.jb)).setCell _ _ (Or.inl H.ab)) hs
  · exact FQ.owned H.r (Fr.sm (((hf.mono (S' := fun x => x = J ∨ x = A ∨ rv.ownBlock = some x) fun x _ hx => Or.inr (Or.inr hx)).setCell _ _ (Or.inl (Or.inl rfl))).setCell _ _ (Or.inl (Or.inr (Or.inl rfl)))) hs)

/-- Where the record of a role lies. -/
theorem RS.at_ {d : Dat} {base J A N t : Nat} {s : Bfs.S} {k : Nat} {rv : Value} {xs : List Value} {w : World} (H : RS d base J A N s k rv xs w) (hts : t ∈ s.1) :
    ∃ R cR p : Nat, rv = .slice (some ⟨R, 0, none⟩) s.1.length cR ∧ p < s.1.length ∧ s.1[p]? = some t ∧ w.cell? ⟨A, t, none⟩ = some (.int .i32 ((p : Int) + 1)) ∧ w.cell? ⟨R, 9 * p + 1, none⟩ = some (.int .i32 (s.2 t)) ∧ base ≤ R := by
  obtain ⟨p, hp⟩ := List.getElem?_of_mem hts
  have hpl := (List.getElem?_eq_some_iff.1 hp).1
  obtain ⟨at', ha, a1, a2⟩ := H.a
  have hr := H.r
  rcases hr.2 with ⟨_, h0⟩ | ⟨g, cap, cur, he, hb, _⟩
  · omega
  · subst he
    refine ⟨g, cap, p, rfl, hpl, hp, ?_, ?_, hb⟩
    · rw [ha.cell (H.ok.lt t hts), a1 p t hp]
    · rw [hr.cellAt _ (by omega)]; exact H.inc p t hp

theorem of_env {d : Dat} {base J A N t : Nat} {s : Bfs.S} {k : Nat} {xs : List Value} {w : World} {R cR p : Nat} (H : RS d base J A N s k (.slice (some ⟨R, 0, none⟩) s.1.length cR) xs w) (hd : d.Good) (hts : t ∈ s.1) (hp : p < s.1.length) (hA : w.cell? ⟨A, t, none⟩ = some (.int .i32 ((p : Int) + 1))) :
    Calls Yba.prog 15 #[.pointer (some ⟨J, 0, none⟩), .int .i32 (t : Int)] w fun e w' => e = .returned (.pointer (some ⟨R, 9 * p, none⟩)) ∧ Sm w' w := by
  obtain ⟨f, hj, f0, f1, f2⟩ := H.j
  have hlen := Bfs.length_le H.ok.nodup H.ok.lt
  have hn1 := hd.n1
  have j1 := hj.cell (i := 1) (by omega); rw [f1] at j1
  have j2 := hj.cell (i := 2) (by omega); rw [f2] at j2
  exact of_raw J A R t p d.n s.1.length cR ((p : Int) + 1) w (H.ok.lt t hts) hp (by omega) (by omega) (by omega) j1 j2 hA

/-- One inclusion more. -/
theorem RS.bump {d : Dat} {base J A N t : Nat} {s : Bfs.S} {k : Nat} {xs : List Value} {w : World} {R cR p : Nat} (H : RS d base J A N s k (.slice (some ⟨R, 0, none⟩) s.1.length cR) xs w) (hp : s.1[p]? = some t) :
    RS d base J A N (s.1, fun u => if u = t then s.2 u + 1 else s.2 u) k (.slice (some ⟨R, 0, none⟩) s.1.length cR) (xs.set (9 * p + 1) (.int .i32 ((s.2 t : Int) + 1))) (w.setCell ⟨R, 9 * p + 1, none⟩ (.int .i32 ((s.2 t : Int) + 1))) := by
  obtain ⟨hJA, hrJ, hrA⟩ := H.apart
  obtain ⟨f, hj, hj'⟩ := H.j
  obtain ⟨at', ha, ha'⟩ := H.a
  have hpl := (List.getElem?_eq_some_iff.1 hp).1
  have hxl : xs.length = s.1.length * 9 := H.r.1
  have inj : ∀ (i q : Nat), s.1[i]? = some q → (i = p ↔ q = t) := by
    intro i q h
    constructor
    · rintro rfl
      rw [hp] at h
      cases h
      rfl
    · rintro rfl
      obtain ⟨l1, e1⟩ := List.getElem?_eq_some_iff.1 h
      obtain ⟨l2, e2⟩ := List.getElem?_eq_some_iff.1 hp
      exact (List.getElem_inj H.ok.nodup).1 (e1.trans e2.symm)
  refine ⟨⟨f, hj.setOther (fun e => hrJ (by rw [e]; rfl)) _, hj'⟩, ⟨at', ha.setOther (fun e => hrA (by rw [e]; rfl)) _, ha'⟩, (H.r.stored _ _).1, H.jb, H.ab, ?_, ?_, ?_, fun i hi j hj => by rw [List.getElem?_set_ne (by omega)]; exact H.rest i hi j hj, ⟨H.ok.nodup, H.ok.lt, ?_⟩, by simpa using H.bw⟩
  · intro i q h
    rw [List.getElem?_set_ne (by omega)]
    exact H.role i q h
  · intro i q h
    have hiff := inj i q h
    by_cases hi : i = p
    · obtain rfl := hiff.1 hi
      subst hi
      rw [List.getElem?_set_self (by omega)]
      simp
    · have hq : q ≠ t := fun e => hi (hiff.2 e)
      rw [List.getElem?_set_ne (by omega)]
      simp [hq, H.inc i q h]
  · intro i q hi h
    rw [List.getElem?_set_ne (by omega), List.getElem?_set_ne (by omega)]
    exact H.done i q hi h
  · intro q hq
    have : q ≠ t := fun e => hq (by rw [e]; exact List.mem_of_getElem? hp)
    simp [this, H.ok.zero q hq]

/-- One role done. -/
theorem RS.fin {d : Dat} {base J A N q : Nat} {s : Bfs.S} {k : Nat} {xs : List Value} {w : World} {R cR : Nat} (H : RS d base J A N s k (.slice (some ⟨R, 0, none⟩) s.1.length cR) xs w) (hp : s.1[k]? = some q) :
    RS d base J A N s (k + 1) (.slice (some ⟨R, 0, none⟩) s.1.length cR) ((xs.set (9 * k + 2) (.bool (d.bareF q (d.len q)))).set (9 * k + 3) (.bool (d.readF q (d.len q)))) ((w.setCell ⟨R, 9 * k + 2, none⟩ (.bool (d.bareF q (d.len q)))).setCell ⟨R, 9 * k + 3, none⟩ (.bool (d.readF q (d.len q)))) := by
  obtain ⟨hJA, hrJ, hrA⟩ := H.apart
  obtain ⟨f, hj, hj'⟩ := H.j
  obtain ⟨at', ha, ha'⟩ := H.a
  have hpl := (List.getElem?_eq_some_iff.1 hp).1
  have hxl : xs.length = s.1.length * 9 := H.r.1
  have nJ : J ≠ R := fun e => hrJ (by rw [e]; rfl)
  have nA : A ≠ R := fun e => hrA (by rw [e]; rfl)
  refine ⟨⟨f, (hj.setOther nJ _).setOther nJ _, hj'⟩, ⟨at', (ha.setOther nA _).setOther nA _, ha'⟩, ((H.r.stored _ _).1.stored _ _).1, H.jb, H.ab, ?_, ?_, ?_, fun i hi j hj => by rw [List.getElem?_set_ne (by omega), List.getElem?_set_ne (by omega)]; exact H.rest i hi j hj, H.ok, by simpa using H.bw⟩
  · intro i q' h
    rw [List.getElem?_set_ne (by omega), List.getElem?_set_ne (by omega)]
    exact H.role i q' h
  · intro i q' h
    rw [List.getElem?_set_ne (by omega), List.getElem?_set_ne (by omega)]
    exact H.inc i q' h
  · intro i q' hi h
    by_cases hik : i = k
    · subst hik
      rw [hp] at h
      cases h
      rw [List.getElem?_set_ne (by omega), List.getElem?_set_self (by omega), List.getElem?_set_self (by simp; omega)]
      exact ⟨rfl, rfl⟩
    · rw [List.getElem?_set_ne (by omega), List.getElem?_set_ne (by omega), List.getElem?_set_ne (by omega), List.getElem?_set_ne (by omega)]
      exact H.done i q' (by omega) h
end Go.Proofs.Ybulkqmo
