/-
  DERIVED. The two maps of eval.LawS0846BReach: a set of bodies, and a map of aliases.
-/
import Derived.Test.YbulkqmoMem
namespace Go.Proofs.Ybulkqmo
open Go.RowKit Go.Maps
set_option linter.unusedVariables false

/-- An exclusion's zero. -/
abbrev Z37 : Value := .agg #[.nilIface, .bool false, .int .i32 0, .bool false, .int .i32 0, .nilIface, .slice none 0 0]
theorem zero37 (w : World) : (zeroValue 37).run Yba.prog w = .ok Z37 w := by kernel_rfl
theorem zero31 (w : World) : (zeroValue 31).run Yba.prog w = .ok (.int .i32 0) w := by kernel_rfl

def z37B : Value → Bool
  | .agg a => match a.toList with
    | [.nilIface, .bool b1, .int k1 n1, .bool b2, .int k2 n2, .nilIface, .slice s l c] => !b1 && !b2 && decide (k1 = .i32) && decide (n1 = 0) && decide (k2 = .i32) && decide (n2 = 0) && s.isNone && decide (l = 0) && decide (c = 0)
    | _ => false
  | _ => false
theorem z37_inv {v : Value} (h : z37B v = true) : v = Z37 := by
  unfold z37B at h
  split at h
  · split at h
    · rename_i a _ b1 k1 n1 b2 k2 n2 s l c ha
      simp at h
      obtain ⟨⟨⟨⟨⟨⟨⟨⟨h1, h2⟩, h3⟩, h4⟩, h5⟩, h6⟩, h7⟩, h8⟩, h9⟩ := h
      subst h1 h2 h3 h4 h5 h6 h7 h8 h9
      exact congrArg Value.agg (Array.toList_inj.1 (by simpa using ha))
    · cases h
  · cases h
def exElem (v : Value) : Option (DataW Unit × List MemPlace) := if z37B v = true then some (.agg [], []) else none
theorem exElem_mk : exElem Z37 = some (.agg [], []) := rfl
theorem exElem_inv {v : Value} {z : DataW Unit × List MemPlace} (h : exElem v = some z) : v = Z37 := by
  unfold exElem at h
  split at h
  · rename_i hz
    exact z37_inv hz
  · cases h
theorem law21 : Keyed Yba.prog 21 := int_keyed Yba.underlying21
theorem law31 : Keyed Yba.prog 31 := int_keyed Yba.underlying31
theorem wf32 {a : Int} (h0 : -2147483648 ≤ a) (h1 : a ≤ 2147483647) : (Lit.int .i32 a).wf = true := by
  simp [Lit.wf, IntKind.min, IntKind.max, IntKind.signed, IntKind.bits]; omega

/-- A set of bodies. -/
def SetM (w : World) (b n : Nat) (S : Int → Bool) : Prop := ∃ D : DataW Unit, w.ownsMap Yba.prog 21 exElem b n D ∧ ∀ k : Int, Maps.has D (.int .i32 k) = S k
theorem SetM.made (w : World) : SetM (w.alloc (.map #[] 0)) w.heap.size 0 (fun _ => false) := ⟨_, World.ownsMap_made _ _ _ _, fun _ => rfl⟩
theorem SetM.store {w : World} {b n : Nat} {S : Int → Bool} (h : SetM w b n S) (hn : n < maxLen) (j : Int) (h0 : -2147483648 ≤ j) (h1 : j ≤ 2147483647) :
    ∃ w', (Instr.mapUpdate 28 (.map (some b)) (.int .i32 j) Z37).run Yba.prog w = .ok () w' ∧ SetM w' b (n + 1) (fun k => k == j || S k) ∧ w.grownBy w' (some b) := by
  obtain ⟨D, hD, hS⟩ := h
  obtain ⟨w', hr, ho, hg⟩ := hD.update law21 Yba.underlying28 hn (keyOf_int_mk Yba.underlying21 (wf32 h0 h1)) exElem_mk
  refine ⟨w', hr, ⟨_, ho, fun k => ?_⟩, hg⟩
  by_cases hk : k = j
  · subst hk
    rw [has_put_same hD.isMap (by trivial)]
    simp
  · rw [has_put_other (by simpa using hk), hS]
    simp [hk]
theorem SetM.look {w : World} {b n : Nat} {S : Int → Bool} (h : SetM w b n S) (j : Int) (h0 : -2147483648 ≤ j) (h1 : j ≤ 2147483647) :
    (Instr.lookup 28 (.map (some b)) (.int .i32 j) true).run Yba.prog w = .ok (.tuple #[Z37, .bool (S j)]) w := by
  obtain ⟨D, hD, hS⟩ := h
  obtain ⟨v, ps, hr, hv⟩ := hD.look_ok law21 Yba.underlying28 (zero37 w) exElem_mk (keyOf_int_mk Yba.underlying21 (wf32 h0 h1))
  rw [exElem_inv hv, hS] at hr
  exact hr
theorem SetM.fr {w w' : World} {b n : Nat} {S : Int → Bool} {F : Nat → Prop} (h : SetM w b n S) (hf : Fr F w w') (hb : ¬ F b) : SetM w' b n S := by
  obtain ⟨D, hD, hS⟩ := h
  have hlt := hD.lt
  obtain ⟨es, cl, h1, h2⟩ := hD
  exact ⟨D, ⟨es, cl, by rw [hf.block b hlt hb]; exact h1, h2⟩, hS⟩
theorem SetM.lt {w : World} {b n : Nat} {S : Int → Bool} (h : SetM w b n S) : b < w.heap.size := by
  obtain ⟨D, hD, _⟩ := h
  exact hD.lt

/-- A map of numbers in which each below r stands for itself. -/
def AlM (w : World) (b n r : Nat) : Prop := ∃ D : DataW Unit, w.ownsMap Yba.prog 31 (plainElem Yba.prog 31) b n D ∧ ∀ k : Nat, k < r → Maps.has D (.int .i32 k) = true ∧ ∀ z, D.atKey (.int .i32 k) z = .lit (.int .i32 k)
theorem AlM.made (w : World) : AlM (w.alloc (.map #[] 0)) w.heap.size 0 0 := ⟨_, World.ownsMap_made _ _ _ _, fun k hk => absurd hk (Nat.not_lt_zero k)⟩
theorem AlM.store {w : World} {b n r : Nat} (h : AlM w b n r) (hn : n < maxLen) (hr : r ≤ 1000000) :
    ∃ w', (Instr.mapUpdate 45 (.map (some b)) (.int .i32 r) (.int .i32 r)).run Yba.prog w = .ok () w' ∧ AlM w' b (n + 1) (r + 1) ∧ w.grownBy w' (some b) := by
  obtain ⟨D, hD, hS⟩ := h
  have hw : (Lit.int .i32 (r : Int)).wf = true := wf32 (by omega) (by omega)
  obtain ⟨w', hr', ho, hg⟩ := hD.update law31 Yba.underlying45 hn (keyOf_int_mk Yba.underlying31 hw) (plainElem_int Yba.underlying31 hw)
  refine ⟨w', hr', ⟨_, ho, fun k hk => ?_⟩, hg⟩
  by_cases hkr : k = r
  · subst hkr
    exact ⟨has_put_same hD.isMap (by trivial) _, fun z => atKey_put_same hD.isMap (by trivial) _ _⟩
  · have hne : Lit.int .i32 (k : Int) ≠ Lit.int .i32 (r : Int) := by simp; omega
    obtain ⟨a, b⟩ := hS k (by omega)
    exact ⟨by rw [has_put_other hne]; exact a, fun z => by rw [atKey_put_other hne]; exact b z⟩
theorem AlM.look {w : World} {b n r : Nat} (h : AlM w b n r) (j : Nat) (hj : j < r) (hr : r ≤ 1000000) :
    (Instr.lookup 45 (.map (some b)) (.int .i32 j) true).run Yba.prog w = .ok (.tuple #[.int .i32 j, .bool true]) w := by
  obtain ⟨D, hD, hS⟩ := h
  have hw : (Lit.int .i32 (j : Int)).wf = true := wf32 (by omega) (by omega)
  obtain ⟨v, ps, hr, hv⟩ := hD.look_ok law31 Yba.underlying45 (zero31 w) (plainElem_int Yba.underlying31 (by decide)) (keyOf_int_mk Yba.underlying31 hw)
  obtain ⟨c, rfl, hc, _⟩ := plainElem_int_inv Yba.underlying31 hv
  obtain ⟨a, b⟩ := hS j hj
  rw [b] at hc
  simp at hc
  rw [a, ← hc.1] at hr
  exact hr
theorem AlM.fr {w w' : World} {b n r : Nat} {F : Nat → Prop} (h : AlM w b n r) (hf : Fr F w w') (hb : ¬ F b) : AlM w' b n r := by
  obtain ⟨D, hD, hS⟩ := h
  have hlt := hD.lt
  obtain ⟨es, cl, h1, h2⟩ := hD
  exact ⟨D, ⟨es, cl, by rw [hf.block b hlt hb]; exact h1, h2⟩, hS⟩
theorem AlM.lt {w : World} {b n r : Nat} (h : AlM w b n r) : b < w.heap.size := by
  obtain ⟨D, hD, _⟩ := h
  exact hD.lt
end Go.Proofs.Ybulkqmo
