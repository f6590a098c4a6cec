/-
  DERIVED. THE WALKS of octets.digit and of the laws' own small functions (zzs0838aval, zzs0838achar).
-/
import Derived.Test.YbulkqigFmtStops
namespace Go.Proofs.YbulkqigFmt
open Go.RowKit Go.Extern.Stop Go.Stop Go.Extern

/-- The value of a hex digit, or -1. -/
def dg (c : Int) : Int := if 48 ≤ c ∧ c ≤ 57 then c - 48 else if 65 ≤ c ∧ c ≤ 70 then c - 55 else if 97 ≤ c ∧ c ≤ 102 then c - 87 else -1

set_option maxHeartbeats 400000 in
theorem digit_any (c : Int) (w : World) (h0 : 0 ≤ c) (h1 : c ≤ 255) :
    Calls Ybaf.prog 14 #[.int .u8 c] w fun e w' => e = .returned (.int .i64 (dg c)) ∧ w' = w := by
  by_cases a : 48 ≤ c ∧ c ≤ 57
  · have e : Hid (dg c = c - 48) := by unfold dg; rw [if_pos a]; rfl
    obtain ⟨a1, a2⟩ := a
    go_enter Ybaf.func14, Ybaf.ntmps14
    go_wp2
    go_ret
    rw [e.out]
    exact ⟨rfl, rfl⟩
  by_cases b : 65 ≤ c ∧ c ≤ 70
  · have e : Hid (dg c = c - 55) := by unfold dg; rw [if_neg a, if_pos b]; rfl
    obtain ⟨b1, b2⟩ := b
    have a' : ¬ c ≤ 57 := by omega
    clear a
    go_enter Ybaf.func14, Ybaf.ntmps14
    go_wp2
    go_ret
    rw [e.out]
    exact ⟨by go_num, rfl⟩
  by_cases d : 97 ≤ c ∧ c ≤ 102
  · have e : Hid (dg c = c - 87) := by unfold dg; rw [if_neg a, if_neg b, if_pos d]; rfl
    obtain ⟨d1, d2⟩ := d
    have a' : ¬ c ≤ 57 := by omega
    have b' : ¬ c ≤ 70 := by omega
    clear a b
    go_enter Ybaf.func14, Ybaf.ntmps14
    go_wp2
    go_ret
    rw [e.out]
    exact ⟨by go_num, rfl⟩
  have e : Hid (dg c = -1) := by unfold dg; rw [if_neg a, if_neg b, if_neg d]; rfl
  go_enter Ybaf.func14, Ybaf.ntmps14
  go_wp2
  all_goals
    first
    | (exfalso; omega)
    | (go_ret; rw [e.out]; exact ⟨rfl, rfl⟩)

abbrev LO : ByteArray := ⟨#[48, 49, 50, 51, 52, 53, 54, 55, 56, 57, 97, 98, 99, 100, 101, 102]⟩
abbrev UP : ByteArray := ⟨#[48, 49, 50, 51, 52, 53, 54, 55, 56, 57, 65, 66, 67, 68, 69, 70]⟩
/-- The hex digit of value n. -/
def loAt (n : Int) : Int := if n < 10 then 48 + n else 87 + n
def upAt (n : Int) : Int := if n < 10 then 48 + n else 55 + n

theorem loRun (q : IntKind) (n : Int) (h0 : 0 ≤ n) (h1 : n < 16) (w : World) : (Instr.index 9 (.string LO) (.int q n)).run Ybaf.prog w = .ok (.int .u8 (loAt n)) w := by
  have : n = 0 ∨ n = 1 ∨ n = 2 ∨ n = 3 ∨ n = 4 ∨ n = 5 ∨ n = 6 ∨ n = 7 ∨ n = 8 ∨ n = 9 ∨ n = 10 ∨ n = 11 ∨ n = 12 ∨ n = 13 ∨ n = 14 ∨ n = 15 := by omega
  rcases this with rfl | rfl | rfl | rfl | rfl | rfl | rfl | rfl | rfl | rfl | rfl | rfl | rfl | rfl | rfl | rfl
  all_goals (refine Eq.symm (Eq.symm ?_); kernel_rfl)
theorem upRun (q : IntKind) (n : Int) (h0 : 0 ≤ n) (h1 : n < 16) (w : World) : (Instr.index 9 (.string UP) (.int q n)).run Ybaf.prog w = .ok (.int .u8 (upAt n)) w := by
  have : n = 0 ∨ n = 1 ∨ n = 2 ∨ n = 3 ∨ n = 4 ∨ n = 5 ∨ n = 6 ∨ n = 7 ∨ n = 8 ∨ n = 9 ∨ n = 10 ∨ n = 11 ∨ n = 12 ∨ n = 13 ∨ n = 14 ∨ n = 15 := by omega
  rcases this with rfl | rfl | rfl | rfl | rfl | rfl | rfl | rfl | rfl | rfl | rfl | rfl | rfl | rfl | rfl | rfl
  all_goals (refine Eq.symm (Eq.symm ?_); kernel_rfl)

/-- No digit below k is c. -/
def none_below (c : Int) (k : Nat) : Prop := ∀ j : Nat, j < k → ¬ loAt j = c ∧ ¬ upAt j = c

theorem none_step {c : Int} {k : Nat} (h : none_below c k) (h1 : ¬ loAt k = c) (h2 : ¬ upAt k = c) : none_below c (k + 1) := fun j hj => by
  by_cases e : j = k
  · subst e; exact ⟨h1, h2⟩
  · exact h j (by omega)
theorem none_all {c : Int} (h : none_below c 16) : dg c = -1 := by
  unfold dg
  by_cases a : 48 ≤ c ∧ c ≤ 57
  · have := h (c - 48).toNat (by omega)
    unfold loAt at this
    rw [if_pos (by omega)] at this
    omega
  rw [if_neg a]
  by_cases b : 65 ≤ c ∧ c ≤ 70
  · have := h (c - 55).toNat (by omega)
    unfold upAt at this
    rw [if_neg (by omega)] at this
    omega
  rw [if_neg b]
  by_cases d : 97 ≤ c ∧ c ≤ 102
  · have := h (c - 87).toNat (by omega)
    unfold loAt at this
    rw [if_neg (by omega)] at this
    omega
  rw [if_neg d]
theorem hit_lo {c : Int} {k : Nat} (hk : k < 16) (h : loAt k = c) : dg c = k := by
  unfold loAt at h
  unfold dg
  split at h <;> repeat' split
  all_goals omega
theorem hit_up {c : Int} {k : Nat} (hk : k < 16) (h : upAt k = c) : dg c = k := by
  unfold upAt at h
  unfold dg
  split at h <;> repeat' split
  all_goals omega

set_option maxHeartbeats 400000 in
theorem aval_any (c : Int) (w : World) (h0 : 0 ≤ c) (h1 : c ≤ 255) :
    Calls Ybaf.prog 9 #[.int .u8 c] w fun e w' => e = .returned (.int .i64 (dg c)) ∧ w' = w := by
  go_enter Ybaf.func9, Ybaf.ntmps9
  go_wp2
  go_loop [3] (fun i => ∃ k : Nat, k ≤ 16 ∧ i = .int .i64 k ∧ none_below c k) (fun i => 16 - (intOf i).toNat)
  case atStart => exact ⟨0, by omega, rfl, fun j hj => by omega⟩
  case round =>
    obtain ⟨k, hk, rfl, hnone⟩ := hrel
    have HN : Hid (none_below c k) := hnone
    clear hnone
    by_cases hlt : k < 16
    · have r1 := loRun .i64 k (by omega) (by omega)
      have r2 := upRun .i64 k (by omega) (by omega)
      generalize e1 : loAt k = l at r1
      generalize e2 : upAt k = u at r2
      have E1 : Hid (loAt k = l) := e1
      have E2 : Hid (upAt k = u) := e2
      clear e1 e2
      by_cases c1 : l = c
      · have H : Hid (dg c = k) := hit_lo hlt (E1.out.trans c1)
        subst c1
        go_wp2
        go_ret
        rw [H.out]
        exact ⟨rfl, rfl⟩
      have c1' : (l == c) = false := by simp [c1]
      by_cases c2 : u = c
      · have H : Hid (dg c = k) := hit_up hlt (E2.out.trans c2)
        subst c2
        clear c1
        go_wp2
        go_ret
        rw [H.out]
        exact ⟨rfl, rfl⟩
      have c2' : (u == c) = false := by simp [c2]
      have HS : Hid (none_below c (k + 1)) := none_step HN.out (by rw [E1.out]; exact c1) (by rw [E2.out]; exact c2)
      clear c1 c2
      go_wp2
      go_round
      case rel => exact ⟨k + 1, by omega, by go_num, HS.out⟩
      case measure => simp [intOf]; omega
    · obtain rfl : k = 16 := by omega
      have H : Hid (dg c = -1) := none_all HN.out
      go_wp2
      go_ret
      rw [H.out]
      exact ⟨rfl, rfl⟩

/-- The law's own digit. -/
def chr (n : Int) (up : Bool) : Int := if up then upAt n else loAt n

set_option maxHeartbeats 400000 in
theorem achar_any (v : Int) (up : Bool) (w : World) (h0 : 0 ≤ v) (h1 : v < 256) :
    Calls Ybaf.prog 7 #[.int .u8 v, .bool up] w fun e w' => e = .returned (.int .u8 (chr (v % 16) up)) ∧ w' = w := by
  have r1 := loRun .u8 (v % 16) (by omega) (by omega)
  have r2 := upRun .u8 (v % 16) (by omega) (by omega)
  have e := u8_and15 v h0 h1
  cases up
  · go_enter Ybaf.func7, Ybaf.ntmps7
    go_wp2
    go_ret
    exact ⟨rfl, rfl⟩
  · go_enter Ybaf.func7, Ybaf.ntmps7
    go_wp2
    go_ret
    exact ⟨rfl, rfl⟩

theorem dg_chr (n : Int) (up : Bool) (h0 : 0 ≤ n) (h1 : n < 16) : dg (chr n up) = n := by
  have : n = ((n.toNat : Nat) : Int) := by omega
  rw [this]
  cases up
  · exact hit_lo (by omega) rfl
  · exact hit_up (by omega) rfl
theorem chr_bounds (n : Int) (up : Bool) (h0 : 0 ≤ n) (h1 : n < 16) : 48 ≤ chr n up ∧ chr n up ≤ 102 := by
  unfold chr loAt upAt
  cases up <;> simp <;> split <;> omega
end Go.Proofs.YbulkqigFmt
