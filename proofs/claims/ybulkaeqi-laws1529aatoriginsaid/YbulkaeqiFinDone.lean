import Derived.Test.YbulkaeqiSettle
namespace Go.Proofs.Ybulkaeqi
open Go.RowKit
theorem run_callVal {P : Program} {ρ : Operand → Value} {o : Oper} (x : Operand) (xs : Array Operand) (tt : Array TypeId) (ho : o.op = .call { callee := .value x, args := xs, argTypes := tt }) (f : FuncId) (cap : Array Value) (hx : ρ x = .func (.func f) #[] cap)
    (args : Array Value) (ha : xs.map ρ = args) (w : World) (hb : (callFunc f (args ++ cap)).run P w = .ok (.enter f (args ++ cap)) w) : (execOp ρ o).run P w = .ok (.enter f (args ++ cap)) w := by
  unfold execOp; rw [ho]
  simp [resolve, hx, ha, Deferred.ofValue, invoke, hb]
/-- Who waits: nobody, or one, whose timer's stop writes 2 into the log. -/
def Aw (m2 ab lb : Nat) (fst : Int) (c2 : Nat) (has : Bool) (w : World) : Prop :=
  match has with
  | false => w.heap[m2]? = some (.map #[] c2)
  | true => ∃ b awc, w.heap[m2]? = some (.map #[⟨.int .u64 fst, .pointer (some ⟨ab, 0, none⟩), b⟩] c2) ∧ w.heap[ab]? = some (.cells awc 87 (0, 0)) ∧ awc[22]? = some (.func (.func 10) #[] #[.pointer (some ⟨lb, 0, none⟩)])
def two (has : Bool) : List Int := if has then [2] else []
def three (has : Bool) : List Int := if has then [3] else []
theorem Aw.f3 {m2 ab lb : Nat} {fst : Int} {c2 : Nat} {has : Bool} {w w' : World} (h : Aw m2 ab lb fst c2 has w) {B : Nat} {l : List Nat} (f : F3 B l w w') (h1 : m2 ∉ l) (h2 : has = true → ab ∉ l) : Aw m2 ab lb fst c2 has w' := by
  cases has with
  | false => exact f.keepM h h1
  | true =>
    obtain ⟨b, awc, e1, e2, e3⟩ := h
    exact ⟨b, awc, f.keepM e1 h1, f.keepT e2 (h2 rfl) (by decide), e3⟩
theorem settle_any (pb m2 ab lb B : Nat) (pcs : Array Value) (xs : List Int) (hxs : xs.length ≤ 9) (fst : Int) (c2 : Nat) (has : Bool) (w : World) (hp : w.heap[pb]? = some (.cells pcs 67 (0, 0))) (hp34 : pcs[34]? = some (.map (some m2)))
    (ha : Aw m2 ab lb fst c2 has w) (hlog : Log lb B xs w) :
    Calls Yba.prog 15 #[.pointer (some ⟨pb, 0, none⟩), .int .u64 fst] w fun e w' => ∃ v, e = .returned v ∧ Log lb B (xs ++ two has) w' ∧ w'.heap[m2]? = some (.map #[] c2) ∧ F3 B [lb, m2] w w' := by
  cases has with
  | false =>
    refine (settle_none pb m2 pcs fst c2 w hp hp34 ha).mono ?_
    rintro e w' ⟨rfl, rfl⟩
    exact ⟨_, rfl, by simpa [two] using hlog, ha, F3.refl _ _ _⟩
  | true =>
    obtain ⟨b, awc, e1, e2, e3⟩ := ha
    refine (settle_some pb m2 ab lb B pcs awc xs (by omega) fst b c2 w hp hp34 e1 e2 e3 hlog).mono ?_
    rintro e w' ⟨rfl, h1, h2, h3⟩
    exact ⟨_, rfl, by simpa [two] using h1, h2, h3⟩
/-- The request. -/
def reqL (lb rb : Nat) (ended : Value) (fst : Int) : List Value := [.func (.func 7) #[] #[.pointer (some ⟨lb, 0, none⟩), .pointer (some ⟨rb, 0, none⟩)], ended, .int .i64 0, .func (.func 8) #[] #[.pointer (some ⟨lb, 0, none⟩)], .int .u64 fst]
set_option maxRecDepth 20000 in
set_option maxHeartbeats 400000 in
theorem finish_done {Q : Exit → Act → World → Prop} (qb xb lb rb B : Nat) (qcs : Array Value) (hq0 : qcs[0]? = some (.func (.func 7) #[] #[.pointer (some ⟨lb, 0, none⟩), .pointer (some ⟨rb, 0, none⟩)])) (rcs : List Value) (hl : rcs.length = 24) (hone : ∀ u ∈ rcs, u.oneCell' = true)
    (xs : List Int) (hxs : xs.length ≤ 10) (hP : ∀ c a d v w, Q (.panic c) (a.put d v) w → Q (.panic c) a w) (w : World) (hq : w.heap[qb]? = some (.cells qcs 83 (0, 0))) (hx : w.heap[xb]? = some (.cells rcs.toArray 80 (0, 0))) (hlog : Log lb B xs w) (hr : w.heap[rb]? = some (.cells #[.slice none 0 0] 77 (0, 0)))
    (hqn : qb ∉ [lb, rb]) (hxn : xb ∉ [lb, rb])
    (a : Act) (ha : a.tmps.size = 51) (h6 : a.eval (.tmp 6) = .pointer (some ⟨qb, 0, none⟩)) (h5 : a.eval (.tmp 5) = .pointer (some ⟨xb, 0, none⟩))
    (hQ : ∀ a' w', a'.tmps.size = 51 → a'.defers = a.defers → (∀ i : Nat, i < 35 → a'.eval (.tmp i) = a.eval (.tmp i)) → Done lb rb B xs rcs w.drew w' → Q .normal a' w') :
    (Code.region 6 (opsOf Yba.f12 [1, 1, 1, 1, 1, 1, 0]) true).wp Yba.prog Q a w := by
  refine wp_region_held (S := fun W => W.heap[qb]? = some (.cells qcs 83 (0, 0)) ∧ W.heap[xb]? = some (.cells rcs.toArray 80 (0, 0))) (by kernel_rfl) ?_
  change wpAnyH _ _ _ _ _ 6 _ _ (World.drew _)
  have hS : w.drew.heap[qb]? = some (.cells qcs 83 (0, 0)) ∧ w.drew.heap[xb]? = some (.cells rcs.toArray 80 (0, 0)) := ⟨hq, hx⟩
  have hlogD : Log lb B xs w.drew := hlog
  have hrD : w.drew.heap[rb]? = some (.cells #[.slice none 0 0] 77 (0, 0)) := hr
  refine wpAnyH_take (i := 0) (oi := opAt Yba.f12 [1, 1, 1, 1, 1, 1, 0] 0) (v := .pointer (some ⟨qb, 0, none⟩)) rfl (by kernel_rfl) (by kernel_rfl) (by kernel_rfl) (fun _ _ _ h => hP _ _ _ _ _ h) (Or.inl ⟨rfl, fun W hW => run_mv (.tmp 6) rfl _ h6 W⟩) hS ?_
  refine wpAnyH_take (i := 1) (oi := opAt Yba.f12 [1, 1, 1, 1, 1, 1, 0] 1) (v := .pointer (some ⟨qb, 0, none⟩)) rfl (by kernel_rfl) (by kernel_rfl) (by kernel_rfl) (fun _ _ _ h => hP _ _ _ _ _ h) (Or.inl ⟨rfl, fun W hW => run_nilCheck (.tmp 35) rfl _ (eval_same _ _ _ (by rw [ha]; decide)) W⟩) hS ?_
  refine wpAnyH_take (i := 2) (oi := opAt Yba.f12 [1, 1, 1, 1, 1, 1, 0] 2) (v := .pointer (some ⟨qb, 0, none⟩)) rfl (by kernel_rfl) (by kernel_rfl) (by kernel_rfl) (fun _ _ _ h => hP _ _ _ _ _ h) (Or.inl ⟨rfl, fun W hW => run_fieldAddr 83 (.tmp 36) 0 rfl ⟨qb, 0, none⟩ ⟨qb, 0, none⟩ (eval_same _ _ _ (by rw [size_put, ha]; decide)) W (by kernel_rfl)⟩) hS ?_
  refine wpAnyH_take (i := 3) (oi := opAt Yba.f12 [1, 1, 1, 1, 1, 1, 0] 3) (v := .func (.func 7) #[] #[.pointer (some ⟨lb, 0, none⟩), .pointer (some ⟨rb, 0, none⟩)]) rfl (by kernel_rfl) (by kernel_rfl) (by kernel_rfl) (fun _ _ _ h => hP _ _ _ _ _ h) (Or.inl ⟨rfl, fun W hW => run_load_one 81 (.tmp 37) rfl ⟨qb, 0, none⟩ _ (eval_same _ _ _ (by rw [size_put, size_put, ha]; decide)) W (by rw [cell_at hW.1]; exact hq0) (by kernel_rfl)⟩) hS ?_
  refine wpAnyH_take (i := 4) (oi := opAt Yba.f12 [1, 1, 1, 1, 1, 1, 0] 4) (v := .agg rcs.toArray) rfl (by kernel_rfl) (by kernel_rfl) (by kernel_rfl) (fun _ _ _ h => hP _ _ _ _ _ h) (Or.inl ⟨rfl, fun W hW => run_load_row 80 (.tmp 5) rfl xb 0 ((eval_other _ _ _ _ (by decide)).trans ((eval_other _ _ _ _ (by decide)).trans ((eval_other _ _ _ _ (by decide)).trans ((eval_other _ _ _ _ (by decide)).trans (h5))))) rcs 24 hl row80 W (range_at hW.2)⟩) hS ?_
  generalize hA : Act.put (Act.put (Act.put (Act.put (Act.put a _ _) _ _) _ _) _ _) _ _ = a2
  have s2 : a2.tmps.size = 51 := by rw [← hA, size_put, size_put, size_put, size_put, size_put, ha]
  have d2 : a2.defers = a.defers := by rw [← hA, defers_put, defers_put, defers_put, defers_put, defers_put]
  have k38 : a2.eval (.tmp 38) = .func (.func 7) #[] #[.pointer (some ⟨lb, 0, none⟩), .pointer (some ⟨rb, 0, none⟩)] := by rw [← hA]; exact ((eval_other _ _ _ _ (by decide)).trans (eval_same _ _ _ (by rw [size_put, size_put, size_put, ha]; decide)))
  have k39 : a2.eval (.tmp 39) = .agg rcs.toArray := by rw [← hA]; exact (eval_same _ _ _ (by rw [size_put, size_put, size_put, size_put, ha]; decide))
  have kold : ∀ i : Nat, i < 35 → a2.eval (.tmp i) = a.eval (.tmp i) := fun i hi => by
    rw [← hA]
    exact (eval_other _ 39 i _ (by omega)).trans ((eval_other _ 38 i _ (by omega)).trans ((eval_other _ 37 i _ (by omega)).trans ((eval_other _ 36 i _ (by omega)).trans ((eval_other _ 35 i _ (by omega)).trans rfl))))
  clear hA
  refine held_one (i := 5) (o := opAt Yba.f12 [1, 1, 1, 1, 1, 1, 0] 5) (by kernel_rfl) rfl rfl ?_
  refine wp_enter (run_callVal (.tmp 38) #[.tmp 39] #[80] rfl 7 #[.pointer (some ⟨lb, 0, none⟩), .pointer (some ⟨rb, 0, none⟩)] k38 #[.agg rcs.toArray] (args1 k39) _ (by kernel_rfl)) ?_
  refine (done7 lb rb B xs hxs rcs hl hone w.drew hlogD hrD).mono ?_
  rintro e w' ⟨rfl, hd⟩
  refine ⟨_, rfl, ⟨hd.2.1.keepT hS.1 hqn (by decide), hd.2.1.keepT hS.2 hxn (by decide)⟩, ?_⟩
  refine wpAnyH_done (by kernel_rfl) ?_ _
  exact hQ _ _ ((size_put _ _ _).trans s2) ((defers_put _ _ _).trans d2) (fun i hi => (eval_other _ 40 i _ (by omega)).trans (kold i hi)) hd
end Go.Proofs.Ybulkaeqi
