/-
  DERIVED. The states of eval.LawS0846BReach's loops.
-/
import Derived.Test.YbulkqmoBuild
namespace Go.Proofs.Ybulkqmo
open Go.RowKit
set_option linter.unusedVariables false

/-- The law's zero exclusion, cell by cell. -/
def z37 : Nat → Value := fun i => if i = 0 ∨ i = 5 then .nilIface else if i = 1 ∨ i = 3 then .bool false else if i = 6 then .slice none 0 0 else .int .i32 0
abbrev Zobj : Obj := .cells #[.nilIface, .bool false, .int .i32 0, .bool false, .int .i32 0, .nilIface, .slice none 0 0] 37
theorem z37_row (w : World) : (w.alloc Zobj).rowIs w.heap.size 37 7 z37 := World.rowIs_alloc w _ 37 _ (fun i hi => by
  have : i = 0 ∨ i = 1 ∨ i = 2 ∨ i = 3 ∨ i = 4 ∨ i = 5 ∨ i = 6 := by simp at hi; omega
  rcases this with rfl | rfl | rfl | rfl | rfl | rfl | rfl <;> rfl)

/-- The loop's state: rows and set stand at the bodies below cr, cm. -/
structure BS (d : Dat) (w0 : World) (U Z cr cm nf : Nat) (fv bv lv : Value) (nl : Nat) (w : World) : Prop where
  r : ∃ xf xb xl, BR d w0.heap.size cr nf fv bv lv nl xf xb xl w
  nl : nl ≤ cr
  m : BM d U cm w
  z : w.rowIs Z 37 7 z37
  be : Below w0.heap.size w0 w
  u : w0.heap.size ≤ U
  zb : w0.heap.size ≤ Z

theorem BS.new {d : Dat} {w0 : World} {U Z cr cm nf : Nat} {fv bv lv : Value} {nl : Nat} {w w' : World} (H : BS d w0 U Z cr cm nf fv bv lv nl w) (hf : New w w') : BS d w0 U Z cr cm nf fv bv lv nl w' := by
  obtain ⟨xf, xb, xl, h⟩ := H.r
  exact ⟨⟨xf, xb, xl, h.new hf⟩, H.nl, H.m.fr hf (fun h => h), hf.row H.z (fun h => h), H.be.trans (hf.below (B := w0.heap.size) H.be.size fun k _ h => h), H.u, H.zb⟩
theorem BS.slices {d : Dat} {w0 : World} {U Z cr cm nf : Nat} {fv bv lv : Value} {nl : Nat} {w : World} (H : BS d w0 U Z cr cm nf fv bv lv nl w) : (∃ a c, fv = .slice a nf c) ∧ (∃ a c, bv = .slice a cr c) ∧ (∃ a c, lv = .slice a nl c) := by
  obtain ⟨xf, xb, xl, h⟩ := H.r
  exact ⟨owns_slice h.f, owns_slice h.b, owns_slice h.l⟩

theorem BS.first {d : Dat} {w0 : World} {U Z c cm nf : Nat} {fv bv lv : Value} {nl : Nat} {w : World} (H : BS d w0 U Z c cm nf fv bv lv nl w) (hc : c = off d.len nf) (hn : nf ≤ 100000) :
    ∃ v' w1, (Builtin.append_ #[25, 25] 25 #[fv, .slice (some ⟨w.heap.size, 0, none⟩) 1 1]).run Yba.prog (w.alloc (.cells #[.int .i32 (c : Int)] 21)) = .ok v' w1 ∧ BS d w0 U Z c cm (nf + 1) v' bv lv nl w1 := by
  obtain ⟨xf, xb, xl, h⟩ := H.r
  obtain ⟨v', w1, hr, hb, hf⟩ := h.first hc hn H.be.size
  refine ⟨v', w1, hr, ⟨_, _, _, hb⟩, H.nl, H.m.fr hf (H.m.apart h.f), hf.row H.z (owns_ne_row h.f H.z (by decide)), H.be.trans (hf.below (B := w0.heap.size) H.be.size fun k hk hx => ?_), H.u, H.zb⟩
  have := (h.f.lt k hx).1; omega

theorem BS.push {d : Dat} {w0 : World} {U Z c cm nf : Nat} {fv bv lv : Value} {nl : Nat} {w : World} (H : BS d w0 U Z c cm nf fv bv lv nl w) {q i : Nat} (hq : q < d.n) (hi : i < d.len q) (hc : c = off d.len q + i) (x : Int) (h1 : d.K q i = 1 → x = d.T q i) (h2 : d.K q i ≠ 2) (hn : c ≤ 100000) :
    ∃ v' w1, (Builtin.append_ #[26, 26] 26 #[bv, .slice (some ⟨w.heap.size, 0, none⟩) 1 1]).run Yba.prog (w.alloc (.cells #[.int .u8 (d.K q i : Int), .int .i32 x, .int .i32 0] 42)) = .ok v' w1 ∧ BS d w0 U Z (c + 1) cm nf fv v' lv nl w1 ∧ (∀ k' n f, w.rowIs k' 39 n f → w1.rowIs k' 39 n f) := by
  obtain ⟨xf, xb, xl, h⟩ := H.r
  obtain ⟨v', w1, hr, hb, hf⟩ := h.push hq hi hc x h1 (fun e => absurd e h2) hn H.be.size
  refine ⟨v', w1, hr, ⟨⟨_, _, _, hb⟩, by have := H.nl; omega, H.m.fr hf (H.m.apart h.b), hf.row H.z (owns_ne_row h.b H.z (by decide)), H.be.trans (hf.below (B := w0.heap.size) H.be.size fun k hk hx => ?_), H.u, H.zb⟩, fun k' n f hr' => hf.row hr' (owns_ne_row h.b hr' (by decide))⟩
  have := (h.b.lt k hx).1; omega

theorem BS.push2 {d : Dat} {w0 : World} {U Z c cm nf : Nat} {fv bv lv : Value} {nl : Nat} {w : World} (H : BS d w0 U Z c cm nf fv bv lv nl w) {q i : Nat} (hq : q < d.n) (hi : i < d.len q) (hc : c = off d.len q + i) (hk : d.K q i = 2) (hn : c ≤ 100000) :
    ∃ v1 w1, (Builtin.append_ #[27, 27] 27 #[lv, .slice (some ⟨w.heap.size, 0, none⟩) 1 1]).run Yba.prog (w.alloc (.cells (Lrec (d.T q i)).toArray 44)) = .ok v1 w1 ∧ (∃ a cc, v1 = .slice a (nl + 1) cc) ∧
      ∃ v2 w2, (Builtin.append_ #[26, 26] 26 #[bv, .slice (some ⟨w1.heap.size, 0, none⟩) 1 1]).run Yba.prog (w1.alloc (.cells #[.int .u8 2, .int .i32 (nl : Int), .int .i32 0] 42)) = .ok v2 w2 ∧ BS d w0 U Z (c + 1) cm nf fv v2 v1 (nl + 1) w2 ∧ (∀ k' n f, w.rowIs k' 39 n f → w2.rowIs k' 39 n f) := by
  obtain ⟨xf, xb, xl, h⟩ := H.r
  have hnl := H.nl
  obtain ⟨v1, w1, hr1, hb1, hf1, hx1⟩ := h.link (d.T q i) (by omega) H.be.size
  have hsz : w0.heap.size ≤ w1.heap.size := Nat.le_trans H.be.size hf1.size
  obtain ⟨v2, w2, hr2, hb2, hf2⟩ := hb1.push hq hi hc (nl : Int) (fun e => by omega) (fun _ => ⟨nl, rfl, by omega, hx1⟩) hn hsz
  rw [hk] at hr2
  have hm1 := H.m.fr hf1 (H.m.apart h.l)
  have hz1 := hf1.row H.z (owns_ne_row h.l H.z (by decide))
  refine ⟨v1, w1, hr1, owns_slice hb1.l, v2, w2, hr2, ⟨⟨_, _, _, hb2⟩, by omega, hm1.fr hf2 (hm1.apart hb1.b), hf2.row hz1 (owns_ne_row hb1.b hz1 (by decide)), (H.be.trans (hf1.below (B := w0.heap.size) H.be.size fun k hk hx => ?_)).trans (hf2.below (B := w0.heap.size) hsz fun k hk hx => ?_), H.u, H.zb⟩, fun k' n f hr' => hf2.row (hf1.row hr' (owns_ne_row h.l hr' (by decide))) (owns_ne_row hb1.b (hf1.row hr' (owns_ne_row h.l hr' (by decide))) (by decide))⟩
  · have := (h.l.lt k hx).1; omega
  · have := (hb1.b.lt k hx).1; omega

theorem BS.skip {d : Dat} {w0 : World} {U Z c cr nf : Nat} {fv bv lv : Value} {nl : Nat} {w : World} (H : BS d w0 U Z cr c nf fv bv lv nl w) {q i : Nat} (hi : i < d.len q) (hc : c = off d.len q + i) (hX : d.X q i = false) : BS d w0 U Z cr (c + 1) nf fv bv lv nl w := ⟨H.r, H.nl, H.m.skip hi hc hX, H.z, H.be, H.u, H.zb⟩
theorem BS.store {d : Dat} {w0 : World} {U Z c cr nf : Nat} {fv bv lv : Value} {nl : Nat} {w : World} (H : BS d w0 U Z cr c nf fv bv lv nl w) {q i : Nat} (hi : i < d.len q) (hc : c = off d.len q + i) (hX : d.X q i = true) (hn : c ≤ 100000) :
    ∃ w', (Instr.mapUpdate 28 (.map (some U)) (.int .i32 (c : Int)) Z37).run Yba.prog w = .ok () w' ∧ BS d w0 U Z cr (c + 1) nf fv bv lv nl w' := by
  obtain ⟨xf, xb, xl, h⟩ := H.r
  obtain ⟨w', hr, hm, hf⟩ := H.m.store hi hc hX hn
  exact ⟨w', hr, ⟨_, _, _, h.fr hf (fun g hg e => H.m.apart h.f (by rw [hg, e])) (fun g hg e => H.m.apart h.b (by rw [hg, e])) (fun g hg e => H.m.apart h.l (by rw [hg, e]))⟩, H.nl, hm, hf.row H.z (H.m.apartRow H.z), H.be.trans (hf.below (B := w0.heap.size) H.be.size fun k hk e => by have := H.u; omega), H.u, H.zb⟩
theorem BS.zcells {d : Dat} {w0 : World} {U Z cr cm nf : Nat} {fv bv lv : Value} {nl : Nat} {w : World} (H : BS d w0 U Z cr cm nf fv bv lv nl w) :
    w.cell? ⟨Z, 0, none⟩ = some .nilIface ∧ w.cell? ⟨Z, 1, none⟩ = some (.bool false) ∧ w.cell? ⟨Z, 2, none⟩ = some (.int .i32 0) ∧ w.cell? ⟨Z, 3, none⟩ = some (.bool false) ∧ w.cell? ⟨Z, 4, none⟩ = some (.int .i32 0) ∧ w.cell? ⟨Z, 5, none⟩ = some .nilIface ∧ w.cell? ⟨Z, 6, none⟩ = some (.slice none 0 0) :=
  ⟨H.z.cell (i := 0) (by omega), H.z.cell (i := 1) (by omega), H.z.cell (i := 2) (by omega), H.z.cell (i := 3) (by omega), H.z.cell (i := 4) (by omega), H.z.cell (i := 5) (by omega), H.z.cell (i := 6) (by omega)⟩
theorem BS.start (d : Dat) (w : World) (n : Nat) (hn : n ≤ 1000) : BS d w (w.heap.size + 1) (w.heap.size + 1 + 1) 0 0 0 (.slice (some ⟨w.heap.size, 0, none⟩) 0 (n + 1)) (.slice none 0 0) (.slice none 0 0) 0 (((w.alloc (.cells (madeCells #[.int .i32 0] (n + 1)) 21)).alloc (.map #[] 0)).alloc Zobj) := by
  have e1 : (w.alloc (.cells (madeCells #[.int .i32 0] (n + 1)) 21)).heap.size = w.heap.size + 1 := by simp
  have e2 : ((w.alloc (.cells (madeCells #[.int .i32 0] (n + 1)) 21)).alloc (.map #[] 0)).heap.size = w.heap.size + 1 + 1 := by simp
  have h1 : (w.alloc (.cells (madeCells #[.int .i32 0] (n + 1)) 21)).ownsRow w.heap.size 21 1 (.slice (some ⟨w.heap.size, 0, none⟩) 0 (n + 1)) 0 [] := World.ownsRow_made w _ (n + 1) (Nat.le_refl _) (by unfold maxLen; omega) (by simp [madeCells])
  have h2 := SetM.made (w.alloc (.cells (madeCells #[.int .i32 0] (n + 1)) 21))
  rw [e1] at h2
  have h3 := z37_row ((w.alloc (.cells (madeCells #[.int .i32 0] (n + 1)) 21)).alloc (.map #[] 0))
  rw [e2] at h3
  exact ⟨⟨[], [], [], (h1.alloc _).alloc _, World.ownsRow_nil _ _ _ _, World.ownsRow_nil _ _ _ _, fun r hr => absurd hr (Nat.not_lt_zero r), fun q i _ _ h => absurd h (Nat.not_lt_zero _)⟩, Nat.le_refl _,
    ⟨0, _, h2.fr (F := fun _ => False) ((Fr.refl _ _).alloc _) (fun h => h), Nat.le_refl _, fun q i _ _ h => absurd h (Nat.not_lt_zero _), fun k _ => rfl⟩, h3, (((Below.refl _ w).alloc (Nat.le_refl _) _).alloc (by simp) _).alloc (by simp; omega) _, by omega, by omega⟩

theorem map_apart {w : World} {b : Nat} {es : Array MapEntry} {cl : Nat} (h1 : w.heap[b]? = some (.map es cl)) {base e size n : Nat} {v : Value} {xs : List Value} (h : w.ownsRow base e size v n xs) : v.ownBlock ≠ some b := fun hx => by
  rcases h.2 with ⟨rfl, _⟩ | ⟨gg, cp, cur, rfl, hb, hg, _⟩
  · simp [Value.ownBlock] at hx
  · simp only [Value.ownBlock, Option.some.injEq] at hx
    subst hx
    rw [h1] at hg
    cases hg

/-- The aliases' loop. -/
structure AS (d : Dat) (w0 : World) (U Z AL k : Nat) (fv bv lv : Value) (nl : Nat) (w : World) : Prop where
  b : BS d w0 U Z (off d.len d.n) (off d.len d.n) (d.n + 1) fv bv lv nl w
  a : AlM w AL k k
  ne : AL ≠ U
  ab : w0.heap.size ≤ AL

theorem AS.start {d : Dat} {w0 : World} {U Z : Nat} {fv bv lv : Value} {nl : Nat} {w : World} (H : BS d w0 U Z (off d.len d.n) (off d.len d.n) (d.n + 1) fv bv lv nl w) : AS d w0 U Z w.heap.size 0 fv bv lv nl (w.alloc (.map #[] 0)) :=
  ⟨H.new ((Fr.refl _ w).alloc _), AlM.made w, fun e => by have := H.m.lt; omega, H.be.size⟩
theorem AS.store {d : Dat} {w0 : World} {U Z AL k : Nat} {fv bv lv : Value} {nl : Nat} {w : World} (H : AS d w0 U Z AL k fv bv lv nl w) (hk : k ≤ 100000) :
    ∃ w', (Instr.mapUpdate 45 (.map (some AL)) (.int .i32 (k : Int)) (.int .i32 (k : Int))).run Yba.prog w = .ok () w' ∧ AS d w0 U Z AL (k + 1) fv bv lv nl w' := by
  obtain ⟨w', hr, ha, hg⟩ := H.a.store (by unfold maxLen; omega) (by omega)
  have hf : Fr (fun x => x = AL) w w' := (Fr.refl _ w).grown hg fun k hk => Or.inl (by cases hk; rfl)
  obtain ⟨xf, xb, xl, h⟩ := H.b.r
  obtain ⟨D, ⟨es, cl, h1, _⟩, _⟩ := H.a
  have hz : Z ≠ AL := fun e => by
    obtain ⟨c', h2, _⟩ := H.b.z
    rw [e, h1] at h2
    cases h2
  exact ⟨w', hr, ⟨⟨_, _, _, h.fr hf (fun g hg e => map_apart h1 h.f (by rw [hg, e])) (fun g hg e => map_apart h1 h.b (by rw [hg, e])) (fun g hg e => map_apart h1 h.l (by rw [hg, e]))⟩, H.b.nl, H.b.m.fr hf (fun e => H.ne e.symm), hf.row H.b.z hz, H.b.be.trans (hf.below (B := w0.heap.size) H.b.be.size fun k hk e => by have := H.ab; omega), H.b.u, H.b.zb⟩, ha, H.ne, H.ab⟩
end Go.Proofs.Ybulkqmo
