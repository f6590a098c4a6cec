/-
  DERIVED. THE WALKS of kvcache's record and of the cache's take.
-/
import Derived.Test.YbulkqjiFmtTake
namespace Go.Proofs.YbulkqjiFmt
open Go.RowKit
set_option linter.unusedVariables false

/-- What record and take leave: one record more. -/
def Took (C n base : Nat) (v : Value) (S : Nat → Prop) (w : World) (upd : (Nat → Value) → Nat → Value) (w' : World) : Prop :=
  ∃ (v' : Value) (xs' : List Value), w'.ownsRow base 73 6 v' (n + 1) xs' ∧ (∀ f, w.rowIs C 65 25 f → w'.rowIs C 65 25 (fun j => if j = 5 then v' else upd f j)) ∧ Fr (fun k => k = C ∨ v.ownBlock = some k ∨ S k) w w'

set_option maxHeartbeats 1000000 in
set_option maxRecDepth 100000 in
theorem record_any (C n base : Nat) (v : Value) (xs : List Value) (w : World) (h5 : w.cell? ⟨C, 5, none⟩ = some v) (h6 : w.cell? ⟨C, 6, none⟩ = some (.slice none 0 0)) (f5 : w.frozen? ⟨C, 5, none⟩ = false)
    (hown : w.ownsRow base 73 6 v n xs) (hn : n ≤ 1000000) (hbase : base ≤ w.heap.size) (hC : C < base) :
    Calls Ybaf.prog 42 #[.pointer (some ⟨C, 0, none⟩)] w fun e w' => e = .returned (.int .i32 n) ∧ Took C n base v (fun _ => False) w (fun f => f) w' := by
  have HP : Hid (∀ q, Calls Ybaf.prog 43 #[.pointer (some ⟨C, 5, none⟩), .agg #[.int .i64 0, .int .i64 0, .int .i32 0, .int .i32 1, .int .i32 (-2), .int .i32 0]] (w.drewN q) fun e w' => e = .returned (.int .i32 n) ∧ Took C n base v (fun _ => False) w (fun f => f) w') := fun q => by
    refine (put_any C n base v xs (w.drewN q) h5 h6 f5 (owns_block hown fun _ _ => rfl) hn hbase hC).mono ?_
    rintro e w' ⟨he, v', xs', ho, hr, hf⟩
    exact ⟨he, v', xs', ho, fun f hrow => hr f ((Sm.drewN w q).row hrow), (⟨hf.os, hf.tape, hf.output, hf.size, fun k hk hn => hf.block k hk (fun h => hn (by rcases h with h | h; exact Or.inl h; exact Or.inr (Or.inl h)))⟩ : Fr _ w w')⟩
  obtain ⟨ao, cap, rfl⟩ := owns_slice hown
  have hne : ((n : Int) == 2147483647) = false := by simp; omega
  clear hown
  go_enter Ybaf.func42, Ybaf.ntmps42
  go_wp2_with fail
  refine (live_any C n cap ao _ h5 h6 (by omega)).mono ?_
  rintro e w' ⟨rfl, q, rfl⟩
  go_wp2_with fail
  refine (HP.out _).mono ?_
  rintro e w' ⟨rfl, ht⟩
  go_wp2_with fail
  go_ret
  exact ⟨rfl, ht⟩

set_option maxHeartbeats 1000000 in
set_option maxRecDepth 100000 in
/-- An unlimited pool takes a new record. -/
theorem take_unl (C n base : Nat) (v : Value) (xs : List Value) (w : World) (h1 : w.cell? ⟨C, 1, none⟩ = some (.int .i64 0)) (h5 : w.cell? ⟨C, 5, none⟩ = some v) (h6 : w.cell? ⟨C, 6, none⟩ = some (.slice none 0 0)) (f5 : w.frozen? ⟨C, 5, none⟩ = false)
    (hown : w.ownsRow base 73 6 v n xs) (hn : n ≤ 1000000) (hbase : base ≤ w.heap.size) (hC : C < base) :
    Calls Ybaf.prog 40 #[.pointer (some ⟨C, 0, none⟩)] w fun e w' => e = .returned (.int .i32 n) ∧ Took C n base v (fun _ => False) w (fun f => f) w' := by
  have HP : Hid (Calls Ybaf.prog 42 #[.pointer (some ⟨C, 0, none⟩)] w fun e w' => e = .returned (.int .i32 n) ∧ Took C n base v (fun _ => False) w (fun f => f) w') := record_any C n base v xs w h5 h6 f5 hown hn hbase hC
  clear hown h5
  go_enter Ybaf.func40, Ybaf.ntmps40
  go_wp2_with fail
  refine HP.out.mono ?_
  rintro e w' ⟨rfl, ht⟩
  go_wp2_with fail
  go_ret
  exact ⟨rfl, ht⟩

set_option maxHeartbeats 1000000 in
set_option maxRecDepth 100000 in
/-- A limited pool: the free list gives a block that holds nothing, and a new record stands for it. -/
theorem take_lim (C n base : Nat) (v : Value) (tot : Int) (w : World) (h1 : w.cell? ⟨C, 1, none⟩ = some (.int .i64 tot)) (t0 : 0 < tot) (Mid : World → Prop) (Post : World → Prop)
    (HL : Hid (Calls Ybaf.prog 41 #[.pointer (some ⟨C, 7, none⟩)] w fun e w' => e = .returned (.int .i32 (-1)) ∧ Mid w'))
    (HP : Hid (∀ W, Mid W → Calls Ybaf.prog 42 #[.pointer (some ⟨C, 0, none⟩)] W fun e w' => e = .returned (.int .i32 n) ∧ Post w')) :
    Calls Ybaf.prog 40 #[.pointer (some ⟨C, 0, none⟩)] w fun e w' => e = .returned (.int .i32 n) ∧ Post w' := by
  go_enter Ybaf.func40, Ybaf.ntmps40
  go_wp2_with fail
  refine HL.out.mono ?_
  rintro e w1 ⟨rfl, hm⟩
  go_wp2_with fail
  refine (HP.out _ hm).mono ?_
  rintro e w' ⟨rfl, ht⟩
  go_wp2_with fail
  go_ret
  exact ⟨rfl, ht⟩
end Go.Proofs.YbulkqjiFmt
