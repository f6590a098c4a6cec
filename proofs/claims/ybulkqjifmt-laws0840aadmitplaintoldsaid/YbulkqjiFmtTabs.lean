/-
  DERIVED. The law's two slices: the tables that were admitted, and what each holds.
-/
import Derived.Test.YbulkqjiFmtRel
import Derived.Laws.OwnMore
namespace Go.Proofs.YbulkqjiFmt
open Go.RowKit
set_option linter.unusedVariables false

abbrev ptr (T : Nat) : Value := .pointer (some ⟨T, 0, none⟩)
theorem info34 : (Ybaf.prog.info? 34).map (fun i => (i.zero, i.size, i.bytes)) = some (some (.pointer none), 1, 8) := by kernel_rfl
theorem info3 : (Ybaf.prog.info? 3).map (fun i => (i.zero, i.size, i.bytes)) = some (some (.int .i64 0), 1, 8) := by kernel_rfl

/-- A row that is owned and a row of another type lie apart. -/
theorem owns_ne_row {w : World} {base n k e size : Nat} {v : Value} {xs : List Value} (h : w.ownsRow base e size v n xs) {t : TypeId} {f : Nat → Value} {c : Nat} (hr : w.rowIs c t k f) (ht : t ≠ e) : v.ownBlock ≠ some c := fun hx => by
  rcases h.2 with ⟨rfl, _⟩ | ⟨gg, cp, cur, rfl, hb, hg, _⟩
  · simp [Value.ownBlock] at hx
  · simp only [Value.ownBlock, Option.some.injEq] at hx
    subst hx
    obtain ⟨c', hc', _, _⟩ := hr
    rw [hc'] at hg
    cases hg
    exact ht rfl
theorem owns_ne_owns {w : World} {b1 b2 n1 n2 e1 e2 s1 s2 : Nat} {v1 v2 : Value} {xs1 xs2 : List Value} (h1 : w.ownsRow b1 e1 s1 v1 n1 xs1) (h2 : w.ownsRow b2 e2 s2 v2 n2 xs2) (ht : e1 ≠ e2) {c : Nat} (a : v1.ownBlock = some c) : v2.ownBlock ≠ some c := fun hx => by
  rcases h1.2 with ⟨rfl, _⟩ | ⟨gg, cp, cur, rfl, hb, hg, _⟩
  · simp [Value.ownBlock] at a
  rcases h2.2 with ⟨rfl, _⟩ | ⟨gg2, cp2, cur2, rfl, hb2, hg2, _⟩
  · simp [Value.ownBlock] at hx
  simp only [Value.ownBlock, Option.some.injEq] at hx a
  subst a
  subst hx
  rw [hg] at hg2
  cases hg2
  exact ht rfl
theorem owns_fr {w w' : World} {base e size n : Nat} {v : Value} {xs : List Value} {S : Nat → Prop} (h : w.ownsRow base e size v n xs) (hf : Fr S w w') (hn : ∀ g, v.ownBlock = some g → ¬ S g) : w'.ownsRow base e size v n xs :=
  owns_block h fun g hg => hf.block g (h.lt g hg).2 (hn g hg)

/-- One element more, of one cell. -/
theorem push1 (base n : Nat) (t e : TypeId) (z x v : Value) (xs : List Value) (w W : World) (ht : Ybaf.prog.underlying t = some (.slice e)) (hinfo : (Ybaf.prog.info? e).map (fun i => (i.zero, i.size, i.bytes)) = some (some z, 1, 8)) (hz : z.cells.size = 1) (h1 : x.oneCell' = true)
    (hown : w.ownsRow base e 1 v n xs) (hn : n ≤ 100000) (hbase : base ≤ w.heap.size) (hW : Sm W (w.alloc (.cells #[x] e))) :
    ∃ v' w1, (Builtin.append_ #[t, t] t #[v, .slice (some ⟨w.heap.size, 0, none⟩) 1 1]).run Ybaf.prog W = .ok v' w1 ∧ w1.ownsRow base e 1 v' (n + 1) (xs ++ [x]) ∧ Fr (fun k => v.ownBlock = some k) w w1 := by
  obtain ⟨i0, hi, hzz⟩ := Option.map_eq_some_iff.1 hinfo
  simp only [Prod.mk.injEq] at hzz
  obtain ⟨hz', hs, hb⟩ := hzz
  have hownW : W.ownsRow base e 1 v n xs := owns_block (hown.alloc (.cells #[x] e)) fun g _ => by rw [hW.heap]
  obtain ⟨v', w1, hr, ho, hg, _⟩ := run_append_own (P := Ybaf.prog) W base t t e i0 z 1 8 ht hi hz' hs hb hz (by omega) v n xs hownW ⟨w.heap.size, 0, none⟩ 1 1 [x] (by rfl) (fun j u hj => by
      match j, hj with
      | 0, hj => simp at hj; subst hj; rw [hW.cell]; simp [Addr.add]
      | j + 1, hj => simp at hj) (by intro u hu; simp at hu; subst hu; exact h1) (by unfold maxLen; omega) (by omega) (by rw [hW.heap]; simp; omega)
  exact ⟨v', w1, hr, ho, (Fr.sm ((Fr.refl _ w).alloc _) hW).grown hg fun k hk => Or.inl hk⟩

/-- The tables and what each holds. -/
structure LS (w : World) (base : Nat) (tv hv : Value) (n : Nat) (ts : List Nat) (hs : List Int) : Prop where
  t : w.ownsRow base 34 1 tv n (ts.map ptr)
  h : w.ownsRow base 3 1 hv n (hs.map (Value.int .i64))
  each : ∀ (j T : Nat) (h : Int), ts[j]? = some T → hs[j]? = some h → TB w T h ∧ base ≤ T ∧ 0 ≤ h ∧ h ≤ 199
  nodup : ts.Nodup
theorem LS.len {w : World} {base : Nat} {tv hv : Value} {n : Nat} {ts : List Nat} {hs : List Int} (H : LS w base tv hv n ts hs) : ts.length = n ∧ hs.length = n := ⟨by have := H.t.1; simpa using this, by have := H.h.1; simpa using this⟩

/-- Nothing of the slices or of the tables turns. -/
theorem LS.fr {w w' : World} {base : Nat} {tv hv : Value} {n : Nat} {ts : List Nat} {hs : List Int} {S : Nat → Prop} (H : LS w base tv hv n ts hs) (hf : Fr S w w') (h1 : ∀ g, tv.ownBlock = some g → ¬ S g) (h2 : ∀ g, hv.ownBlock = some g → ¬ S g) (h3 : ∀ T ∈ ts, ¬ S T) : LS w' base tv hv n ts hs :=
  ⟨owns_fr H.t hf h1, owns_fr H.h hf h2, fun j T h hT hh => by
    obtain ⟨a, b⟩ := H.each j T h hT hh
    exact ⟨a.fr hf (h3 T (List.mem_of_getElem? hT)), b⟩, H.nodup⟩

theorem LS.apart {w : World} {base : Nat} {tv hv : Value} {n : Nat} {ts : List Nat} {hs : List Int} (H : LS w base tv hv n ts hs) {T : Nat} {h : Int} (hT : TB w T h) : tv.ownBlock ≠ some T ∧ hv.ownBlock ≠ some T := by
  obtain ⟨t, a, _⟩ := hT
  exact ⟨owns_ne_row H.t a (by decide), owns_ne_row H.h a (by decide)⟩
theorem LS.apartP {w : World} {base : Nat} {tv hv : Value} {n : Nat} {ts : List Nat} {hs : List Int} (H : LS w base tv hv n ts hs) {C G k : Nat} {bs tot used peak : Int} (hP : PP w C G k bs tot used peak) : tv.ownBlock ≠ some C ∧ tv.ownBlock ≠ some G ∧ hv.ownBlock ≠ some C ∧ hv.ownBlock ≠ some G := by
  obtain ⟨⟨f, fr, hC, _⟩, ⟨g, hG, _⟩, _⟩ := hP
  exact ⟨owns_ne_row H.t hC (by decide), owns_ne_row H.t hG (by decide), owns_ne_row H.h hC (by decide), owns_ne_row H.h hG (by decide)⟩
theorem LS.mem {w : World} {base : Nat} {tv hv : Value} {n : Nat} {ts : List Nat} {hs : List Int} (H : LS w base tv hv n ts hs) {T : Nat} (hT : T ∈ ts) : ∃ h, TB w T h ∧ base ≤ T := by
  obtain ⟨j, hj⟩ := List.getElem?_of_mem hT
  have hl := H.len
  have hjl : j < ts.length := (List.getElem?_eq_some_iff.1 hj).1
  have hjh : j < hs.length := by omega
  obtain ⟨a, b, _⟩ := H.each j T hs[j] hj (List.getElem?_eq_getElem hjh)
  exact ⟨_, a, b⟩

/-- What lies at one place. -/
theorem LS.pick {w : World} {base : Nat} {tv hv : Value} {n : Nat} {ts : List Nat} {hs : List Int} (H : LS w base tv hv n ts hs) {j : Nat} (hj : j < n) :
    ∃ gt ct gh ch T h, tv = .slice (some ⟨gt, 0, none⟩) n ct ∧ hv = .slice (some ⟨gh, 0, none⟩) n ch ∧ ts[j]? = some T ∧ hs[j]? = some h ∧ TB w T h ∧ 0 ≤ h ∧ h ≤ 199 ∧ w.cell? ⟨gt, j, none⟩ = some (ptr T) ∧ w.cell? ⟨gh, j, none⟩ = some (.int .i64 h) ∧ w.frozen? ⟨gh, j, none⟩ = false ∧ gt ≠ gh ∧ gt ≠ T ∧ gh ≠ T := by
  have hl := H.len
  have hjt : j < ts.length := by omega
  have hjh : j < hs.length := by omega
  have hT : ts[j]? = some ts[j] := List.getElem?_eq_getElem hjt
  have hh : hs[j]? = some hs[j] := List.getElem?_eq_getElem hjh
  obtain ⟨a, b, c, d⟩ := H.each j _ _ hT hh
  obtain ⟨x1, x2⟩ := H.apart a
  have htt := H.t
  have hhh := H.h
  have hne := fun c => @owns_ne_owns _ _ _ _ _ _ _ _ _ _ _ _ _ htt hhh (by decide) c
  rcases htt.2 with ⟨_, h0⟩ | ⟨gt, ct, cur, rfl, _⟩
  · omega
  rcases hhh.2 with ⟨_, h0⟩ | ⟨gh, ch, cur2, rfl, _⟩
  · omega
  refine ⟨gt, ct, gh, ch, _, _, rfl, rfl, hT, hh, a, c, d, ?_, ?_, hhh.frozenAt j, ?_, ?_, ?_⟩
  · rw [htt.cellAt j (by omega), List.getElem?_map, hT]; rfl
  · rw [hhh.cellAt j (by omega), List.getElem?_map, hh]; rfl
  · intro e; exact hne gt rfl (by rw [e]; rfl)
  · intro e; exact x1 (by rw [← e]; rfl)
  · intro e; exact x2 (by rw [← e]; rfl)

/-- One table is released, and its number set to nothing. -/
theorem LS.release {w w1 : World} {base C G k n j T : Nat} {gh ch : Nat} {tv : Value} {ts : List Nat} {hs : List Int} {bs tot used peak : Int} (H : LS w base tv (.slice (some ⟨gh, 0, none⟩) n ch) n ts hs) (hP : PP w C G k bs tot used peak) (hT : ts[j]? = some T) (hj : j < n)
    (hf : Fr (fun k => k = C ∨ k = G ∨ k = T) w w1) (hT0 : TB w1 T 0) : LS (w1.setCell ⟨gh, j, none⟩ (.int .i64 0)) base tv (.slice (some ⟨gh, 0, none⟩) n ch) n ts (hs.set j 0) := by
  obtain ⟨hv, hTB, hbT⟩ := H.mem (List.mem_of_getElem? hT)
  obtain ⟨p1, p2, p3, p4⟩ := H.apartP hP
  obtain ⟨x1, x2⟩ := H.apart hTB
  have ht1 : w1.ownsRow base 34 1 tv n (ts.map ptr) := owns_fr H.t hf fun g hg hS => by
    rcases hS with rfl | rfl | rfl
    · exact p1 hg
    · exact p2 hg
    · exact x1 hg
  have hh1 : w1.ownsRow base 3 1 (.slice (some ⟨gh, 0, none⟩) n ch) n (hs.map (Value.int .i64)) := owns_fr H.h hf fun g hg hS => by
    rcases hS with rfl | rfl | rfl
    · exact p3 hg
    · exact p4 hg
    · exact x2 hg
  have hst := (hh1.stored j (.int .i64 0)).1
  refine ⟨owns_block ht1 fun g hg => Go.Deep.blk_setCell_other _ _ _ _ (fun e => owns_ne_owns ht1 hh1 (by decide) hg (by rw [e]; rfl)), by rw [List.map_set]; exact hst, ?_, H.nodup⟩
  intro i T' h hT' hh
  have keep : ∀ {T' h}, TB w1 T' h → TB (w1.setCell ⟨gh, j, none⟩ (.int .i64 0)) T' h := by
    rintro T' h ⟨t, a, b⟩
    exact ⟨t, a.setOther (fun e => owns_ne_row hh1 a (by decide) (by rw [e]; rfl)) _, b⟩
  by_cases hij : i = j
  · subst hij
    rw [hT] at hT'
    cases hT'
    have hl := H.len
    rw [List.getElem?_set_self (by omega)] at hh
    cases hh
    exact ⟨keep hT0, hbT, by omega, by omega⟩
  · rw [List.getElem?_set_ne (fun e => hij e.symm)] at hh
    obtain ⟨a, b, c, d⟩ := H.each i T' h hT' hh
    obtain ⟨n1, n2⟩ := hP.ne a
    have hne : T' ≠ T := fun e => hij (by
      subst e
      have h1 := List.getElem?_eq_some_iff.1 hT'
      have h2 := List.getElem?_eq_some_iff.1 hT
      obtain ⟨l1, e1⟩ := h1
      obtain ⟨l2, e2⟩ := h2
      exact (List.getElem_inj H.nodup).1 (e1.trans e2.symm))
    exact ⟨keep (a.fr hf fun hS => by rcases hS with e | e | e; exact n1 e.symm; exact n2 e.symm; exact hne e), b, c, d⟩

/-- One table more. -/
theorem LS.push {w w1 w2 : World} {base n T : Nat} {m : Int} {tv hv v1 v2 : Value} {ts : List Nat} {hs : List Int} (H : LS w base tv hv n ts hs) (hT : TB w T m) (hTn : T ∉ ts) (hb : base ≤ T) (m0 : 0 ≤ m) (m1 : m ≤ 199)
    (o1 : w1.ownsRow base 34 1 v1 (n + 1) (ts.map ptr ++ [ptr T])) (f1 : Fr (fun k => tv.ownBlock = some k) w w1) (o2 : w2.ownsRow base 3 1 v2 (n + 1) (hs.map (Value.int .i64) ++ [.int .i64 m])) (f2 : Fr (fun k => hv.ownBlock = some k) w1 w2) :
    LS w2 base v1 v2 (n + 1) (ts ++ [T]) (hs ++ [m]) := by
  have hh1 : w1.ownsRow base 3 1 hv n (hs.map (Value.int .i64)) := owns_fr H.h f1 fun g hg hx => owns_ne_owns H.t H.h (by decide) hx hg
  have keep : ∀ {T h}, TB w T h → TB w2 T h := fun {T h} a => (a.fr f1 (H.apart a).1).fr f2 (H.apart a).2
  have hl := H.len
  refine ⟨?_, by simpa using o2, ?_, ?_⟩
  · rw [List.map_append]
    exact owns_fr o1 f2 fun g hg hx => owns_ne_owns o1 hh1 (by decide) hg hx
  · intro j T' h hT' hh
    by_cases hj : j < n
    · rw [List.getElem?_append_left (by omega)] at hT' hh
      obtain ⟨a, b⟩ := H.each j T' h hT' hh
      exact ⟨keep a, b⟩
    · have hjn : j < n + 1 := by have := (List.getElem?_eq_some_iff.1 hT').1; simp at this; omega
      have : j = n := by omega
      subst this
      rw [List.getElem?_append_right (by omega)] at hT' hh
      simp [hl.1, hl.2] at hT' hh
      subst hT'
      subst hh
      exact ⟨keep hT, hb, m0, m1⟩
  · rw [List.nodup_append]
    exact ⟨H.nodup, by simp, fun a ha b hb => by simp at hb; subst hb; exact fun e => hTn (e ▸ ha)⟩
end Go.Proofs.YbulkqjiFmt
