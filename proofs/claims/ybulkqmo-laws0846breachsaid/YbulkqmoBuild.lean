/-
  DERIVED. What eval.LawS0846BReach builds: the rows first, bodies, links, and the set of bodies with an exclusion.
-/
import Derived.Test.YbulkqmoReach
namespace Go.Proofs.Ybulkqmo
open Go.RowKit
set_option linter.unusedVariables false

theorem info42 : (Yba.prog.info? 42).map (fun i => (i.zero, i.size, i.bytes)) = some (some (.agg #[.int .u8 0, .int .i32 0, .int .i32 0]), 3, 12) := by kernel_rfl
/-- A link as the law lays it. -/
abbrev Lrec (t : Int) : List Value := [.int .i32 t, .int .i32 0, .int .i64 0, .int .i64 0, .nilIface, .bool false]
theorem info44 : (Yba.prog.info? 44).map (fun i => (i.zero, i.size, i.bytes)) = some (some (.agg (Lrec 0).toArray), 6, 48) := by kernel_rfl
theorem info21 : (Yba.prog.info? 21).map (fun i => (i.zero, i.size, i.bytes)) = some (some (.int .i32 0), 1, 4) := by kernel_rfl
theorem info3 : (Yba.prog.info? 3).map (fun i => (i.zero, i.size, i.bytes)) = some (some (.int .i64 0), 1, 8) := by kernel_rfl
theorem info4 : (Yba.prog.info? 4).map (fun i => (i.zero, i.size, i.bytes)) = some (some (.bool false), 1, 1) := by kernel_rfl

theorem off_inj {len : Nat → Nat} {q i q' i' : Nat} (hi : i < len q) (hi' : i' < len q') (h : off len q + i = off len q' + i') : q = q' ∧ i = i' := by
  rcases Nat.lt_trichotomy q q' with hq | hq | hq
  · have := off_lt (n := q') hq hi; omega
  · subst hq; omega
  · have := off_lt (n := q) hq hi'; omega

structure BR (d : Dat) (B c nf : Nat) (fv bv lv : Value) (nl : Nat) (xf xb xl : List Value) (w : World) : Prop where
  f : w.ownsRow B 21 1 fv nf xf
  b : w.ownsRow B 42 3 bv c xb
  l : w.ownsRow B 44 6 lv nl xl
  fi : ∀ r, r < nf → xf[r]? = some (.int .i32 (off d.len r))
  body : ∀ q i, q < d.n → i < d.len q → off d.len q + i < c → BodyAt d nl xb xl q i

theorem BR.fr {d : Dat} {B c nf : Nat} {fv bv lv : Value} {nl : Nat} {xf xb xl : List Value} {w w' : World} {S : Nat → Prop} (H : BR d B c nf fv bv lv nl xf xb xl w) (hf : Fr S w w') (h1 : ∀ g, fv.ownBlock = some g → ¬ S g) (h2 : ∀ g, bv.ownBlock = some g → ¬ S g) (h3 : ∀ g, lv.ownBlock = some g → ¬ S g) : BR d B c nf fv bv lv nl xf xb xl w' :=
  ⟨owns_fr H.f hf h1, owns_fr H.b hf h2, owns_fr H.l hf h3, H.fi, H.body⟩
theorem BR.new {d : Dat} {B c nf : Nat} {fv bv lv : Value} {nl : Nat} {xf xb xl : List Value} {w w' : World} (H : BR d B c nf fv bv lv nl xf xb xl w) (hf : New w w') : BR d B c nf fv bv lv nl xf xb xl w' := H.fr hf (fun _ _ h => h) (fun _ _ h => h) (fun _ _ h => h)

theorem BR.first {d : Dat} {B c nf : Nat} {fv bv lv : Value} {nl : Nat} {xf xb xl : List Value} {w : World} (H : BR d B c nf fv bv lv nl xf xb xl w) (hc : c = off d.len nf) (hn : nf ≤ 100000) (hB : B ≤ w.heap.size) :
    ∃ v' w1, (Builtin.append_ #[25, 25] 25 #[fv, .slice (some ⟨w.heap.size, 0, none⟩) 1 1]).run Yba.prog (w.alloc (.cells #[.int .i32 (c : Int)] 21)) = .ok v' w1 ∧ BR d B c (nf + 1) v' bv lv nl (xf ++ [.int .i32 (c : Int)]) xb xl w1 ∧ Fr (fun k => fv.ownBlock = some k) w w1 := by
  obtain ⟨v', w1, hr, ho, hf⟩ := pushN B nf 1 4 25 21 _ fv xf [.int .i32 (c : Int)] w _ Yba.underlying25 info21 (by rfl) (by omega) (by intro u hu; simp at hu; subst hu; rfl) H.f (by rfl) hn (by omega) hB (Sm.refl _)
  refine ⟨v', w1, hr, ⟨ho, owns_fr H.b hf fun g hg hx => owns_ne_owns H.f H.b (by decide) hx hg, owns_fr H.l hf fun g hg hx => owns_ne_owns H.f H.l (by decide) hx hg, fun r hr' => ?_, H.body⟩, hf⟩
  have hl : xf.length = nf * 1 := H.f.1
  by_cases h : r < nf
  · rw [List.getElem?_append_left (by omega)]; exact H.fi r h
  · have : r = nf := by omega
    subst this
    rw [List.getElem?_append_right (by omega), show r - xf.length = 0 by omega, hc]; rfl

theorem BR.push {d : Dat} {B c nf : Nat} {fv bv lv : Value} {nl : Nat} {xf xb xl : List Value} {w : World} (H : BR d B c nf fv bv lv nl xf xb xl w) {q i : Nat} (hq : q < d.n) (hi : i < d.len q) (hc : c = off d.len q + i) (x : Int) (h1 : d.K q i = 1 → x = d.T q i) (h2 : d.K q i = 2 → ∃ l : Nat, x = l ∧ l < nl ∧ xl[6 * l]? = some (.int .i32 (d.T q i))) (hn : c ≤ 100000) (hB : B ≤ w.heap.size) :
    ∃ v' w1, (Builtin.append_ #[26, 26] 26 #[bv, .slice (some ⟨w.heap.size, 0, none⟩) 1 1]).run Yba.prog (w.alloc (.cells #[.int .u8 (d.K q i : Int), .int .i32 x, .int .i32 0] 42)) = .ok v' w1 ∧ BR d B (c + 1) nf fv v' lv nl xf (xb ++ [.int .u8 (d.K q i : Int), .int .i32 x, .int .i32 0]) xl w1 ∧ Fr (fun k => bv.ownBlock = some k) w w1 := by
  obtain ⟨v', w1, hr, ho, hf⟩ := pushN B c 3 12 26 42 _ bv xb [.int .u8 (d.K q i : Int), .int .i32 x, .int .i32 0] w _ Yba.underlying26 info42 (by rfl) (by omega) (by intro u hu; simp at hu; rcases hu with rfl | rfl | rfl <;> rfl) H.b (by rfl) hn (by omega) hB (Sm.refl _)
  refine ⟨v', w1, hr, ⟨owns_fr H.f hf fun g hg hx => owns_ne_owns H.b H.f (by decide) hx hg, ho, owns_fr H.l hf fun g hg hx => owns_ne_owns H.b H.l (by decide) hx hg, H.fi, fun q' i' hq' hi' hlt => ?_⟩, hf⟩
  have hl : xb.length = c * 3 := H.b.1
  by_cases h : off d.len q' + i' < c
  · obtain ⟨x', a, b, e, f, g⟩ := H.body q' i' hq' hi' h
    exact ⟨x', by rw [List.getElem?_append_left (by omega)]; exact a, by rw [List.getElem?_append_left (by omega)]; exact b, by rw [List.getElem?_append_left (by omega)]; exact e, f, g⟩
  · have he : off d.len q' + i' = off d.len q + i := by omega
    obtain ⟨rfl, rfl⟩ := off_inj hi' hi he
    refine ⟨x, ?_, ?_, ?_, h1, h2⟩
    · rw [List.getElem?_append_right (by omega), show 3 * (off d.len q' + i') - xb.length = 0 by omega]; rfl
    · rw [List.getElem?_append_right (by omega), show 3 * (off d.len q' + i') + 1 - xb.length = 1 by omega]; rfl
    · rw [List.getElem?_append_right (by omega), show 3 * (off d.len q' + i') + 2 - xb.length = 2 by omega]; rfl

theorem BR.link {d : Dat} {B c nf : Nat} {fv bv lv : Value} {nl : Nat} {xf xb xl : List Value} {w : World} (H : BR d B c nf fv bv lv nl xf xb xl w) (t : Nat) (hn : nl ≤ 100000) (hB : B ≤ w.heap.size) :
    ∃ v' w1, (Builtin.append_ #[27, 27] 27 #[lv, .slice (some ⟨w.heap.size, 0, none⟩) 1 1]).run Yba.prog (w.alloc (.cells (Lrec t).toArray 44)) = .ok v' w1 ∧ BR d B c nf fv bv v' (nl + 1) xf xb (xl ++ Lrec t) w1 ∧ Fr (fun k => lv.ownBlock = some k) w w1 ∧ (xl ++ Lrec t)[6 * nl]? = some (.int .i32 (t : Int)) := by
  obtain ⟨v', w1, hr, ho, hf⟩ := pushN B nl 6 48 27 44 _ lv xl (Lrec t) w _ Yba.underlying27 info44 (by rfl) (by omega) (by intro u hu; simp at hu; rcases hu with rfl | rfl | rfl | rfl | rfl | rfl <;> rfl) H.l (by rfl) hn (by omega) hB (Sm.refl _)
  have hl : xl.length = nl * 6 := H.l.1
  refine ⟨v', w1, hr, ⟨owns_fr H.f hf fun g hg hx => owns_ne_owns H.l H.f (by decide) hx hg, owns_fr H.b hf fun g hg hx => owns_ne_owns H.l H.b (by decide) hx hg, ho, H.fi, fun q' i' hq' hi' hlt => ?_⟩, hf, ?_⟩
  · obtain ⟨x', a, b, e, f, g⟩ := H.body q' i' hq' hi' hlt
    refine ⟨x', a, b, e, f, fun h2 => ?_⟩
    obtain ⟨l, h3, h4, h5⟩ := g h2
    exact ⟨l, h3, by omega, by rw [List.getElem?_append_left (by omega)]; exact h5⟩
  · rw [List.getElem?_append_right (by omega), show 6 * nl - xl.length = 0 by omega]; rfl

/-- The set of bodies with an exclusion. -/
def BM (d : Dat) (U c : Nat) (w : World) : Prop := ∃ sz S, SetM w U sz S ∧ sz ≤ c ∧ (∀ q i, q < d.n → i < d.len q → off d.len q + i < c → S ((off d.len q + i : Nat) : Int) = d.X q i) ∧ ∀ k : Nat, c ≤ k → S (k : Int) = false
theorem BM.fr {d : Dat} {U c : Nat} {w w' : World} {F : Nat → Prop} (H : BM d U c w) (hf : Fr F w w') (hU : ¬ F U) : BM d U c w' := by
  obtain ⟨sz, S, a, b⟩ := H
  exact ⟨sz, S, a.fr hf hU, b⟩
theorem BM.skip {d : Dat} {U c q i : Nat} {w : World} (H : BM d U c w) (hi : i < d.len q) (hc : c = off d.len q + i) (hX : d.X q i = false) : BM d U (c + 1) w := by
  obtain ⟨sz, S, a, b, e, f⟩ := H
  refine ⟨sz, S, a, by omega, fun q' i' hq' hi' h => ?_, fun k hk => f k (by omega)⟩
  by_cases hlt : off d.len q' + i' < c
  · exact e q' i' hq' hi' hlt
  · obtain ⟨rfl, rfl⟩ := off_inj hi' hi (by omega)
    rw [hX, ← hc]
    exact f c (Nat.le_refl _)
theorem BM.store {d : Dat} {U c q i : Nat} {w : World} (H : BM d U c w) (hi : i < d.len q) (hc : c = off d.len q + i) (hX : d.X q i = true) (hn : c ≤ 100000) :
    ∃ w', (Instr.mapUpdate 28 (.map (some U)) (.int .i32 (c : Int)) Z37).run Yba.prog w = .ok () w' ∧ BM d U (c + 1) w' ∧ Fr (fun k => k = U) w w' := by
  obtain ⟨sz, S, a, b, e, f⟩ := H
  obtain ⟨w', hr, hs, hg⟩ := a.store (by unfold maxLen; omega) (c : Int) (by omega) (by omega)
  refine ⟨w', hr, ⟨_, _, hs, by omega, fun q' i' hq' hi' h => ?_, fun k hk => ?_⟩, (Fr.refl _ w).grown hg fun k hk => Or.inl (by cases hk; rfl)⟩
  · by_cases hlt : off d.len q' + i' < c
    · have hne : ¬ ((off d.len q' + i' : Nat) : Int) = (c : Int) := by omega
      have h2 : (((off d.len q' + i' : Nat) : Int) == (c : Int)) = false := by simpa using hne
      show ((((off d.len q' + i' : Nat) : Int) == (c : Int)) || S ((off d.len q' + i' : Nat) : Int)) = d.X q' i'
      rw [h2, e q' i' hq' hi' hlt]
      rfl
    · obtain ⟨rfl, rfl⟩ := off_inj hi' hi (by omega)
      rw [hX, hc]
      simp
  · have hne : ¬ (k : Int) = (c : Int) := by omega
    have h2 : ((k : Int) == (c : Int)) = false := by simpa using hne
    show (((k : Int) == (c : Int)) || S (k : Int)) = false
    rw [h2, f k (by omega)]
    rfl
theorem BM.lt {d : Dat} {U c : Nat} {w : World} (H : BM d U c w) : U < w.heap.size := by
  obtain ⟨sz, S, a, _⟩ := H
  exact a.lt
theorem BM.apart {d : Dat} {U c : Nat} {w : World} (H : BM d U c w) {base e size n : Nat} {v : Value} {xs : List Value} (h : w.ownsRow base e size v n xs) : v.ownBlock ≠ some U := fun hx => by
  obtain ⟨sz, S, ⟨D, ⟨es, cl, h1, _⟩, _⟩, _⟩ := H
  rcases h.2 with ⟨rfl, _⟩ | ⟨gg, cp, cur, rfl, hb, hg, _⟩
  · simp [Value.ownBlock] at hx
  · simp only [Value.ownBlock, Option.some.injEq] at hx
    subst hx
    rw [h1] at hg
    cases hg
theorem BM.apartRow {d : Dat} {U c : Nat} {w : World} (H : BM d U c w) {t k n : Nat} {f : Nat → Value} (h : w.rowIs k t n f) : k ≠ U := fun hx => by
  obtain ⟨sz, S, ⟨D, ⟨es, cl, h1, _⟩, _⟩, _⟩ := H
  subst hx
  obtain ⟨c', h2, _⟩ := h
  rw [h1] at h2
  cases h2
end Go.Proofs.Ybulkqmo
