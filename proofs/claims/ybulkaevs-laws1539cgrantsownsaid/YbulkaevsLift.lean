/-
  From a walk that ends 'true, and nothing old has turned' to the row's post: over whatever program.
-/
import Derived.WalkKit
import Derived.ProofKit
import Derived.SliceStrings
namespace Go.Proofs.Ybulkaevs
open Go.ChangeShapes Go.WideShapes Go.ChangeAt Go.RowKit
section
variable {H : Type} {enc : TypeId × Value → H} {P : Program}
/-- All arguments read behind the call as before it. -/
theorem trodAll_stay (hl : laidOutB P = true) {W W' : World} (hb : Below W.heap.size W W') : ∀ (ts : List TypeId) (vs : List Value) (ds : List (DataW H)) (ps : List MemPlace), (∀ t ∈ ts, P.readableRec t = true ∧ t < P.types.size) →
    (∀ x ∈ ps, x.block < W.heap.size) → DataW.TrodAll enc P W 0 (fun _ => true) true ts vs ds ps → DataW.TrodAll enc P W' 0 (fun b => decide (b < W.heap.size)) true ts vs ds ps
  | [], [], [], _, _, _, h => h
  | t :: ts, v :: vs, d :: ds, ps, ht, hlt, h => by
    obtain ⟨p, q, h1, h2, rfl⟩ := h
    have h0 := ht t (by simp)
    exact ⟨p, q, Below.trod hl h0.1 h0.2 h1 hb (fun x hx => hlt x (by simp [hx])), trodAll_stay hl hb ts vs ds q (fun t' h' => ht t' (by simp [h'])) (fun x hx => hlt x (by simp [hx])) h2, rfl⟩
  | [], [], _ :: _, _, _, _, h => h.elim
  | [], _ :: _, _, _, _, _, h => h.elim
  | _ :: _, [], _, _, _, _, h => h.elim
  | _ :: _, _ :: _, [], _, _, _, h => h.elim
/-- A law that lists no variable: its post. -/
theorem law_post (hl : laidOutB P = true) {fn : Func} {s : ChangeSpec} {tb : TypeId} (hvars : s.vars = []) (hres : fn.resultTypes = #[tb]) (htb : P.underlying tb = some .bool)
    (hts0 : fn.params.toList.all (fun t => P.readableRec t && decide (t < P.types.size)) = true) {W W' : World} {args : Array Value} {ds gs : List (DataW H)} {before : List MemPlace}
    (hW : DataW.Whole enc P fn.params.toList s.vars false W args.toList ds gs before)
    (hfn : (s.fn H (ds ++ gs)).results = [.lit (.bool true)] ∧ (s.fn H (ds ++ gs)).args = ds ∧ (s.fn H (ds ++ gs)).vars = []) (hb : Below W.heap.size W W') :
    s.post enc P fn false true false false W args (.bool true) W' := by
  have hts : ∀ t ∈ fn.params.toList, P.readableRec t = true ∧ t < P.types.size := fun t ht => by have := List.all_eq_true.1 hts0 t ht; simpa using this
  have hlt := hW.lt
  obtain ⟨p, q, hA, hV, hpq, hfz, hnd⟩ := hW
  refine ⟨ds, gs, before, [], p, [], ⟨p, q, hA, hV, hpq, hfz, hnd⟩, ?_, ?_, ?_, hb.frame _, fun h => by cases h⟩
  · rw [hfn.1, hres]
    exact trodAll_mk1 (shut_bool htb _)
  · rw [hfn.2.1]
    exact trodAll_stay hl hb _ _ _ _ hts (fun x hx => hlt x (by rw [hpq]; simp [hx])) hA
  · rw [hfn.2.2, hvars]
    rfl
end
end Go.Proofs.Ybulkaevs
