/-
  DERIVED. A LAW THAT ANSWERS true AND TURNS NOTHING OLD: what the form asks behind the call ('post') in one step, whatever the parameters' types.
-/
import Derived.ProofKit
import Derived.OpenVars
namespace Go.Proofs.Ybulkqnc
open Go.ChangeShapes Go.WideShapes Go.ChangeAt Go.RowKit

theorem trodAll_below {H : Type} {enc : TypeId × Value → H} {P : Program} (hl : laidOutB P = true) {W W' : World} (hb : Below W.heap.size W W') :
    ∀ {ts : List TypeId} {vs : List Value} {ds : List (DataW H)} {ps : List MemPlace}, (ts.all fun t => P.readableRec t && decide (t < P.types.size)) = true →
      DataW.TrodAll enc P W 0 (fun _ => true) true ts vs ds ps → DataW.TrodAll enc P W' 0 (fun b => decide (b < W.heap.size)) true ts vs ds ps
  | [], [], [], _, _, h => h
  | t :: ts, v :: vs, d :: ds, ps, hr, h => by
    have hlt := h.lt
    obtain ⟨p, q, h1, h2, rfl⟩ := h
    simp only [List.all_cons, Bool.and_eq_true, decide_eq_true_eq] at hr
    exact ⟨p, q, Below.trod hl hr.1.1 hr.1.2 h1 hb (fun x hx => hlt x (by simp [hx])), trodAll_below hl hb hr.2 h2, rfl⟩
  | [], [], _ :: _, _, _, h => h.elim
  | [], _ :: _, _, _, _, h => h.elim
  | _ :: _, [], _, _, _, h => h.elim
  | _ :: _, _ :: _, [], _, _, h => h.elim

theorem law_post {H : Type} {enc : TypeId × Value → H} {P : Program} {f : Func} {s : ChangeSpec} {apart : Bool} {W W' : World} {args : Array Value} {ds gs : List (DataW H)} {before : List MemPlace} (hl : laidOutB P = true)
    (hr : (f.params.toList.all fun t => P.readableRec t && decide (t < P.types.size)) = true) (hv : varsRowed P s.vars = true) {tb : TypeId} (hres : f.resultTypes = #[tb]) (htb : P.underlying tb = some .bool)
    (hW : DataW.Whole enc P f.params.toList s.vars apart W args.toList ds gs before)
    (hfn : s.fn H (ds ++ gs) = { results := [.lit (.bool true)], args := ds, vars := gs }) (hb : Below W.heap.size W W') :
    s.post enc P f apart true false false W args (.bool true) W' := by
  have hW' := hW
  obtain ⟨p, q, hA, hV, rfl, _, _⟩ := hW
  refine ⟨ds, gs, p ++ q, [], p, q, hW', ?_, ?_, ?_, hb.frame _, fun h => by cases h⟩
  · rw [hfn, hres]
    exact trodAll_mk1 (shut_bool htb true)
  · rw [hfn]
    exact trodAll_below hl hb hr hA
  · rw [hfn]
    exact Below.trodVars hl hb hv hV
end Go.Proofs.Ybulkqnc
