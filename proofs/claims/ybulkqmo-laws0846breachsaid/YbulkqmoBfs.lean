/-
  DERIVED. The plain search behind eval.LawS0846BReach: no Go here.
-/
namespace Go.Proofs.Ybulkqmo.Bfs

abbrev S := List Nat × (Nat → Nat)

section
variable (K T : Nat → Nat → Nat) (X : Nat → Nat → Bool) (len : Nat → Nat)

/-- Body i of role q is an inclusion without an exclusion. -/
def incl (q i : Nat) : Bool := K q i == 1 && !X q i
def visit (t : Nat) (s : S) : S := (if t ∈ s.1 then s.1 else s.1 ++ [t], fun u => if u = t then s.2 u + 1 else s.2 u)
def stp (q i : Nat) (s : S) : S := if incl K X q i = true then visit (T q i) s else s
def inner (q : Nat) : Nat → S → S
  | 0, s => s
  | i + 1, s => stp K T X q i (inner q i s)
def outer (s0 : S) : Nat → S
  | 0 => s0
  | k + 1 => inner K T X ((outer s0 k).1.getD k 0) (len ((outer s0 k).1.getD k 0)) (outer s0 k)
def bareF (q : Nat) : Nat → Bool
  | 0 => true
  | i + 1 => bareF q i && !incl K X q i
def readF (q : Nat) : Nat → Bool
  | 0 => false
  | i + 1 => readF q i || (!incl K X q i && (K q i == 2 && T q i == q))
end

/-- What both searches keep. -/
structure Ok (n : Nat) (s : S) : Prop where
  nodup : s.1.Nodup
  lt : ∀ q ∈ s.1, q < n
  zero : ∀ q, q ∉ s.1 → s.2 q = 0

theorem Ok.visit {n t : Nat} {s : S} (h : Ok n s) (ht : t < n) : Ok n (visit t s) := by
  unfold Bfs.visit
  by_cases hm : t ∈ s.1
  · refine ⟨by simp only [hm, if_true]; exact h.nodup, by simp only [hm, if_true]; exact h.lt, ?_⟩
    simp only [hm, if_true]
    intro q hq
    have : q ≠ t := fun e => hq (e ▸ hm)
    simp [this, h.zero q hq]
  · refine ⟨?_, ?_, ?_⟩
    · simp only [hm, if_false]
      rw [List.nodup_append]
      exact ⟨h.nodup, by simp, fun a ha b hb => by simp at hb; subst hb; exact fun e => hm (e ▸ ha)⟩
    · simp only [hm, if_false]
      intro q hq
      rw [List.mem_append] at hq
      rcases hq with hq | hq
      · exact h.lt q hq
      · simp at hq; omega
    · simp only [hm, if_false]
      intro q hq
      rw [List.mem_append, not_or] at hq
      have : q ≠ t := by simpa using hq.2
      simp [this, h.zero q hq.1]

theorem visit_pre (t : Nat) (s : S) : ∃ r, (visit t s).1 = s.1 ++ r := by
  unfold visit
  by_cases hm : t ∈ s.1
  · exact ⟨[], by simp [hm]⟩
  · exact ⟨[t], by simp [hm]⟩
theorem visit_mem (t : Nat) (s : S) : t ∈ (visit t s).1 := by
  unfold visit
  by_cases hm : t ∈ s.1 <;> simp [hm]

section
variable {K T : Nat → Nat → Nat} {X : Nat → Nat → Bool} {len : Nat → Nat} {n : Nat}

theorem stp_pre (q i : Nat) (s : S) : ∃ r, (stp K T X q i s).1 = s.1 ++ r := by
  unfold stp
  split
  · exact visit_pre _ _
  · exact ⟨[], by simp⟩
theorem inner_pre (q i : Nat) (s : S) : ∃ r, (inner K T X q i s).1 = s.1 ++ r := by
  induction i with
  | zero => exact ⟨[], by simp [inner]⟩
  | succ i ih =>
    obtain ⟨r, hr⟩ := ih
    obtain ⟨r2, hr2⟩ := stp_pre (K := K) (T := T) (X := X) q i (inner K T X q i s)
    exact ⟨r ++ r2, by rw [inner, hr2, hr, List.append_assoc]⟩
theorem Ok.stp {q i : Nat} {s : S} (h : Ok n s) (ht : T q i < n) : Ok n (stp K T X q i s) := by
  unfold Bfs.stp
  split
  · exact h.visit ht
  · exact h
theorem Ok.inner {q i : Nat} {s : S} (h : Ok n s) (ht : ∀ j, j < i → T q j < n) : Ok n (inner K T X q i s) := by
  induction i with
  | zero => exact h
  | succ i ih => exact (ih fun j hj => ht j (by omega)).stp (ht i (by omega))
theorem outer_pre (s0 : S) (k : Nat) : ∃ r, (outer K T X len s0 (k + 1)).1 = (outer K T X len s0 k).1 ++ r := inner_pre _ _ _
theorem outer_ok (s0 : S) (h : Ok n s0) (ht : ∀ q i, q < n → i < len q → T q i < n) (k : Nat) (hk : ∀ j, j < k → j < (outer K T X len s0 j).1.length) : Ok n (outer K T X len s0 k) := by
  induction k with
  | zero => exact h
  | succ k ih =>
    have hok := ih fun j hj => hk j (by omega)
    refine hok.inner fun j hj => ht _ _ (hok.lt _ ?_) hj
    have := hk k (by omega)
    rw [List.getD_eq_getElem?_getD, List.getElem?_eq_getElem this]
    exact List.getElem_mem _
/-- Both searches stop at the same round. -/
theorem same_end (s0 : S) {a b : Nat} (ha : ∀ j, j < a → j < (outer K T X len s0 j).1.length) (ha' : ¬ a < (outer K T X len s0 a).1.length) (hb : ∀ j, j < b → j < (outer K T X len s0 j).1.length) (hb' : ¬ b < (outer K T X len s0 b).1.length) : a = b := by
  rcases Nat.lt_trichotomy a b with h | h | h
  · exact absurd (hb a h) ha'
  · exact h
  · exact absurd (ha b h) hb'
end

/-- Numbers below n, none twice: at most n. -/
theorem length_le {n : Nat} : ∀ {l : List Nat}, l.Nodup → (∀ q ∈ l, q < n) → l.length ≤ n := by
  induction n with
  | zero =>
    intro l _ hl
    cases l with
    | nil => simp
    | cons a l => exact absurd (hl a (by simp)) (by omega)
  | succ n ih =>
    intro l hd hl
    by_cases hm : n ∈ l
    · have h1 : (l.erase n).length = l.length - 1 := List.length_erase_of_mem hm
      have h2 : (l.erase n).length ≤ n := ih (hd.erase n) fun q hq => by
        have h3 := (hd.mem_erase_iff).1 hq
        have h4 := hl q h3.2
        omega
      have := List.length_pos_of_mem hm
      omega
    · have := ih hd fun q hq => by
        have h4 := hl q hq
        have : q ≠ n := fun e => hm (e ▸ hq)
        omega
      omega
end Go.Proofs.Ybulkqmo.Bfs
