/-
  DERIVED. cli's leaf: the closure that makes it, and its Flags.
-/
import Derived.Test.YbulkqncMem
namespace Go.Proofs.Ybulkqnc
open Go.RowKit
set_option linter.unusedVariables false

abbrev ptr (b : Nat) : Value := .pointer (some ⟨b, 0, none⟩)
theorem info30 : (Yba.prog.info? 30).map (fun i => (i.zero, i.size, i.bytes)) = some (some (.pointer none), 1, 8) := by kernel_rfl
theorem info24 : (Yba.prog.info? 24).map (fun i => (i.zero, i.size, i.bytes)) = some (some (.pointer none), 1, 8) := by kernel_rfl
/-- A flag with a name alone. -/
abbrev FlagC (s : ByteArray) : Array Value := #[.string s, .int .u8 0, .string ⟨#[]⟩, .string ⟨#[]⟩, .string ⟨#[]⟩, .bool false, .nilFunc, .nilFunc, .bool false, .bool false, .slice none 0 0, .string ⟨#[]⟩]

/-- append as one step of a region that draws, whatever has been drawn. -/
theorem step_app' {P : Program} {ops : Array Oper} {o : Oper} {a : Act} {w X : World} {K : Act → World → Prop} {Q : Exit → Act → World → Prop} {E : Prop}
    (hg : o.guard = none) (s x : Operand) (t : TypeId) (hop : o.op = Op.call { callee := Callee.builtin Builtin.append, args := #[s, x], argTypes := #[t, t] })
    (sv xv : Value) (hs : a.eval s = sv) (hx : a.eval x = xv) {Φ : Value → World → Prop} (HP : ∀ W, Sm W X → ∃ v' w', (Builtin.append_ #[t, t] o.type #[sv, xv]).run P W = .ok v' w' ∧ Φ v' w') (hw : Sm w X) (hK : ∀ v' w', Φ v' w' → K (a.put o.dst v') w') :
    if Region.wanted o (yielded ops a.tmps) = true then Oper.wp P o a w K Q else E := by
  obtain ⟨v', w', hr, hp⟩ := HP w hw
  exact step_app hg s x t hop sv xv v' w' hs hx hr (hK v' w' hp)

set_option maxHeartbeats 1000000 in
theorem new_any (NW LV LF : Nat) (w : World) (h0 : w.cell? ⟨NW, 0, none⟩ = some (.int .i64 0)) (hf : w.frozen? ⟨NW, 0, none⟩ = false) (h1 : w.cell? ⟨LV, 0, none⟩ = some (ptr LF)) (hne : LV ≠ NW) :
    Calls Yba.prog 4 #[ptr NW, ptr LV] w fun e w' => e = .returned (.iface 46 (ptr LF)) ∧ w' = w.setCell ⟨NW, 0, none⟩ (.int .i64 1) := by
  go_enter Yba.func4, Yba.ntmps4
  go_wp2
  go_ret
  exact ⟨rfl, rfl⟩

/-- The state of Flags' loop: the flags of the first i names have been made. -/
structure FS (LF SE : Nat) (nv : Value) (nm : Nat → ByteArray) (w0 : World) (i : Nat) (fs : List Nat) (fv : Value) (w : World) : Prop where
  lf : w.rowIs LF 48 2 (fun j => if j = 0 then nv else .int .i64 1)
  se : w.rowIs SE 38 2 (fun j => if j = 0 then fv else .slice none 0 0)
  o : w.ownsRow w0.heap.size 30 1 fv i (fs.map ptr)
  nm : ∀ j f, fs[j]? = some f → w.rowIs f 34 12 (fun k => (FlagC (nm j))[k]?.getD undef) ∧ w0.heap.size ≤ f
  len : fs.length = i
  fr : Fr (fun k => k = LF ∨ k = SE) w0 w

theorem FS.push {LF SE : Nat} {nv : Value} {nm : Nat → ByteArray} {w0 : World} {i : Nat} {fs : List Nat} {fv : Value} {w : World} (H : FS LF SE nv nm w0 i fs fv w) (hi : i ≤ 1024) (hLF : LF < w0.heap.size) (hSE : SE < w0.heap.size) :
    ∀ W, Sm W ((w.alloc (.cells (FlagC (nm i)) 34)).alloc (.cells #[ptr w.heap.size] 30)) → ∃ fv' w1, (Builtin.append_ #[29, 29] 29 #[fv, .slice (some ⟨w.heap.size + 1, 0, none⟩) 1 1]).run Yba.prog W = .ok fv' w1 ∧
      ((∃ a c, fv' = .slice a (i + 1) c) ∧ w1.cell? ⟨SE, 0, none⟩ = some fv ∧ w1.frozen? ⟨SE, 0, none⟩ = false ∧ FS LF SE nv nm w0 (i + 1) (fs ++ [w.heap.size]) fv' (w1.setCell ⟨SE, 0, none⟩ fv')) := by
  intro W hW
  have hsz : (w.alloc (.cells (FlagC (nm i)) 34)).heap.size = w.heap.size + 1 := by simp
  have hbase : w0.heap.size ≤ w.heap.size := H.fr.size
  obtain ⟨fv', w1, hr, ho, hf⟩ := pushN w0.heap.size i 1 8 29 30 _ fv _ [ptr w.heap.size] (w.alloc (.cells (FlagC (nm i)) 34)) W Yba.underlying29 info30 (by rfl) (by omega) (by intro u hu; simp at hu; subst hu; rfl) (H.o.alloc _) (by rfl) (by omega) (by omega) (by omega) hW
  rw [hsz] at hr
  have hfl : (w.alloc (.cells (FlagC (nm i)) 34)).rowIs w.heap.size 34 12 (fun k => (FlagC (nm i))[k]?.getD undef) := World.rowIs_alloc w _ 34 _ (fun j hj => by rw [Array.getElem?_eq_getElem hj]; rfl)
  have hoA := H.o.alloc (.cells (FlagC (nm i)) 34)
  have hse := H.se.alloc (.cells (FlagC (nm i)) 34)
  have hlf := H.lf.alloc (.cells (FlagC (nm i)) 34)
  have se1 := hf.row hse (owns_ne_row hoA hse (by decide))
  have lf1 := hf.row hlf (owns_ne_row hoA hlf (by decide))
  have fl1 := hf.row hfl (owns_ne_row hoA hfl (by decide))
  have hne : LF ≠ SE := fun e => by
    subst e
    obtain ⟨c1, h1, _⟩ := H.lf
    obtain ⟨c2, h2, _⟩ := H.se
    rw [h1] at h2
    cases h2
  have hl := H.len
  refine ⟨fv', w1, hr, owns_slice ho, by have := se1.cell (i := 0) (by omega); simpa using this, se1.frozen 0, ?_⟩
  refine ⟨lf1.setOther hne _, (se1.set 0 fv').congr fun j hj => by by_cases h : j = 0 <;> simp [h], ?_, ?_, by simp [hl], ?_⟩
  · rw [List.map_append]
    exact owns_block ho fun g hg => Go.Deep.blk_setCell_other _ _ _ _ (fun e => owns_ne_row ho se1 (by decide) (by rw [hg, e]))
  · intro j f hj
    by_cases hjl : j < fs.length
    · rw [List.getElem?_append_left hjl] at hj
      obtain ⟨h1, h2⟩ := H.nm j f hj
      have h3 := h1.alloc (.cells (FlagC (nm i)) 34)
      have h4 := hf.row h3 (owns_ne_row hoA h3 (by decide))
      refine ⟨h4.setOther (fun e => ?_) _, h2⟩
      subst e
      omega
    · have hj2 := (List.getElem?_eq_some_iff.1 hj).1
      simp at hj2
      have : j = i := by omega
      subst this
      rw [← hl] at hj
      simp at hj
      subst hj
      exact ⟨fl1.setOther (fun e => by have e2 : w.heap.size = SE := e; omega) _, hbase⟩
  · have hA : Fr (fun k => k = LF ∨ k = SE) w0 (w.alloc (.cells (FlagC (nm i)) 34)) := H.fr.alloc _
    have hB : Fr (fun k => k = LF ∨ k = SE) w0 w1 := ⟨hf.os.trans hA.os, hf.tape.trans hA.tape, hf.output.trans hA.output, Nat.le_trans hA.size hf.size, fun k hk hn => by
      rw [hf.block k (Nat.lt_of_lt_of_le hk hA.size) (fun e => ?_)]
      · exact hA.block k hk hn
      · have := (hoA.lt k e).1
        omega⟩
    exact hB.setCell _ _ (Or.inl (Or.inr rfl))

set_option maxHeartbeats 2000000 in
set_option maxRecDepth 100000 in
theorem flags_any (LF SE : Nat) (na : Option Addr) (nl nc : Nat) (nm : Nat → ByteArray) (nd : Nat → Addr) (w : World) (hnl : nl ≤ 1024)
    (hLF : w.rowIs LF 48 2 (fun j => if j = 0 then .slice na nl nc else .int .i64 0)) (hSE : w.rowIs SE 38 2 (fun _ => .slice none 0 0))
    (hix : Hid (∀ (j : Nat) (W : World), j < nl → (Instr.indexAt 22 (.slice na nl nc) (.int .i64 (j : Int))).run Yba.prog W = .ok (.pointer (some (nd j))) W))
    (hc : Hid (∀ j, j < nl → w.cell? (nd j) = some (.string (nm j)) ∧ (nd j).block ≠ LF ∧ (nd j).block ≠ SE)) :
    Calls Yba.prog 26 #[ptr LF, ptr SE] w fun e w' => e = .returned (.tuple #[]) ∧ ∃ fs fv, FS LF SE (.slice na nl nc) nm w nl fs fv w' := by
  have hne : LF ≠ SE := fun e => by
    subst e
    obtain ⟨c1, h1, _⟩ := hLF
    obtain ⟨c2, h2, _⟩ := hSE
    rw [h1] at h2
    cases h2
  have l0 := hLF.cell (i := 0) (by omega)
  have l1 := hLF.cell (i := 1) (by omega)
  have lf1 := hLF.frozen 1
  simp at l0 l1
  have HF : Hid (FS LF SE (.slice na nl nc) nm w 0 [] (.slice none 0 0) (w.setCell ⟨LF, 1, none⟩ (.int .i64 1))) :=
    ⟨(hLF.set 1 _).congr fun j hj => by
        have : j = 0 ∨ j = 1 := by omega
        rcases this with rfl | rfl <;> simp,
      (hSE.setOther (fun e => hne e.symm) _).congr fun j hj => by by_cases h : j = 0 <;> simp [h], World.ownsRow_nil _ _ _ _, fun j f h => by simp at h, rfl, (Fr.refl _ w).setCell _ _ (Or.inl (Or.inl rfl))⟩
  have HL : Hid (LF < w.heap.size ∧ SE < w.heap.size) := ⟨hLF.lt, hSE.lt⟩
  clear hLF hSE
  go_enter Yba.func26, Yba.ntmps26
  go_wp2_with fail
  go_loopw [4] (fun iv wr => ∃ i fs fv, i ≤ nl ∧ iv = .int .i64 i ∧ Hid (FS LF SE (.slice na nl nc) nm w i fs fv wr)) (fun iv _ => nl - (intOf iv).toNat)
  case atStart => exact ⟨0, [], _, by omega, rfl, HF⟩
  case round =>
    clear l0 l1 lf1 HF
    obtain ⟨i, fs, fv, hi, rfl, HF⟩ := hrel
    have l0 := HF.out.lf.cell (i := 0) (by omega)
    have s0 := HF.out.se.cell (i := 0) (by omega)
    obtain ⟨fa, fc, rfl⟩ := owns_slice HF.out.o
    simp at l0 s0
    have hLw := HF.out.lf.lt
    have hSw := HF.out.se.lt
    by_cases hlt : i < nl
    · have i22 := fun W => hix.out i W hlt
      obtain ⟨c0, c1, c2⟩ := hc.out i hlt
      have cn : wr.cell? (nd i) = some (.string (nm i)) := by
        have hb := World.block_lt_of_cell? _ _ c0
        have := HF.out.fr.block (nd i).block hb (fun h => h.elim c1 c2)
        rw [← c0]
        simp only [World.cell?, this]
      have HP : Hid _ := HF.out.push (by omega) HL.out.1 HL.out.2
      clear HF c0 c1 c2
      go_wp2_with fail
      go_region_law (refine step_app' rfl (.tmp 25) (.tmp 35) 29 rfl _ _ rfl rfl HP.out ⟨rfl, rfl, rfl, rfl⟩ ?_; rintro v1 w1 ⟨⟨fa1, fc1, rfl⟩, hs1, hs2, HN⟩)
      all_goals
        go_wp2_with fail
        go_roundw
        case rel => exact ⟨i + 1, _, _, by omega, by go_num, HN⟩
        case measure => simp [intOf]; omega
    · have hie : i = nl := by omega
      subst hie
      go_wp2_with fail
      go_end0
      exact ⟨rfl, _, _, HF.out⟩
end Go.Proofs.Ybulkqnc
