/-
  DERIVED. What '==' and '!=' answer in cli.LawS0847AEnter and in enter.
-/
import Derived.Test.YbulkqncMem
import Derived.LaidEqlPtr
namespace Go.Proofs.Ybulkqnc
open Go.RowKit
set_option linter.unusedVariables false

theorem neq_nil (W : World) : (binOp .neq 26 .nilFunc .nilFunc).run Yba.prog W = .ok (.bool false) W := by kernel_rfl
theorem neq_fun (fn : Fn) (a b : Array Value) (W : World) : (binOp .neq 26 (.func fn a b) .nilFunc).run Yba.prog W = .ok (.bool true) W := by kernel_rfl
theorem neq_leaf0 (W : World) : (binOp .neq 42 .nilIface .nilIface).run Yba.prog W = .ok (.bool false) W := by kernel_rfl

theorem neq_same {tp te : TypeId} (hp : Yba.prog.underlying tp = some (.pointer te)) (hte : (Yba.prog.info? te).isSome = true) (x : Option Addr) (W : World) : (binOp .neq tp (.pointer x) (.pointer x)).run Yba.prog W = .ok (.bool false) W := by
  obtain ⟨j, hj⟩ := Option.isSome_iff_exists.1 hte
  cases x with
  | none =>
    have h : ∀ d : Nat, (Op.equalIn (d + 1) tp (.pointer none) (.pointer none)).run Yba.prog W = .ok true W := fun d => by
      simp [Op.equalIn, run_underlying hp]
    simp only [binOp]
    simp [Op.equal, Op.maxDepth, h 9999]
  | some a =>
    have h : ∀ d : Nat, (Op.equalIn (d + 1) tp (.pointer (some a)) (.pointer (some a))).run Yba.prog W = .ok true W := fun d => by
      simp [Op.equalIn, run_underlying hp, sizeOf, typeInfo, hj, run_sameAddr_same]
    simp only [binOp]
    simp [Op.equal, Op.maxDepth, h 9999]
theorem neq24 (x : Option Addr) (W : World) : (binOp .neq 24 (.pointer x) (.pointer x)).run Yba.prog W = .ok (.bool false) W := neq_same Yba.underlying24 (by kernel_rfl) x W
theorem neq30 (x : Option Addr) (W : World) : (binOp .neq 30 (.pointer x) (.pointer x)).run Yba.prog W = .ok (.bool false) W := neq_same Yba.underlying30 (by kernel_rfl) x W
theorem neq35 (x : Option Addr) (W : World) : (binOp .neq 35 (.pointer x) (.pointer x)).run Yba.prog W = .ok (.bool false) W := neq_same Yba.underlying35 (by kernel_rfl) x W
/-- Two sets of flags that lie apart. -/
theorem eql35 {a b : Nat} {na nb : Nat} {f g : Nat → Value} {ta tb : TypeId} (W : World) (hne : a ≠ b) (ha : W.rowIs a ta na f) (hb : W.rowIs b tb nb g) : (binOp .eql 35 (.pointer (some ⟨a, 0, none⟩)) (.pointer (some ⟨b, 0, none⟩))).run Yba.prog W = .ok (.bool false) W := by
  obtain ⟨j, hj⟩ := Option.isSome_iff_exists.1 (show (Yba.prog.info? 38).isSome = true by kernel_rfl)
  have hs : (Yba.prog.info? 38).map (·.size) = some 2 := by kernel_rfl
  rw [hj] at hs
  simp at hs
  obtain ⟨ca, h1, _⟩ := ha
  obtain ⟨cb, h2, _⟩ := hb
  exact run_eql_ptr_other W Yba.underlying35 hj (by omega) (fun e => hne (by cases e; rfl)) h1 h2
theorem neq_leaf (a : Addr) (W : World) : (binOp .neq 42 (.iface 46 (.pointer (some a))) (.iface 46 (.pointer (some a)))).run Yba.prog W = .ok (.bool false) W := by
  obtain ⟨j, hj⟩ := Option.isSome_iff_exists.1 (show (Yba.prog.info? 48).isSome = true by kernel_rfl)
  obtain ⟨i, hi⟩ := Option.isSome_iff_exists.1 (show (Yba.prog.info? 46).isSome = true by kernel_rfl)
  have hc : (Yba.prog.info? 46).map (·.comparable) = some true := by kernel_rfl
  rw [hi] at hc
  simp at hc
  have h1 : ∀ d : Nat, (Op.equalIn (d + 1) 46 (.pointer (some a)) (.pointer (some a))).run Yba.prog W = .ok true W := fun d => by
    simp [Op.equalIn, run_underlying Yba.underlying46, sizeOf, typeInfo, hj, run_sameAddr_same]
  have h : ∀ d : Nat, (Op.equalIn (d + 1 + 1) 42 (.iface 46 (.pointer (some a))) (.iface 46 (.pointer (some a)))).run Yba.prog W = .ok true W := fun d => by
    rw [Op.equalIn]
    simp [run_underlying Yba.underlying42, typeInfo, hi, hc, h1]
  simp only [binOp]
  simp [Op.equal, Op.maxDepth, h 9998]
end Go.Proofs.Ybulkqnc
