import Derived.Test.YbulkaeqiAtB
namespace Go.Proofs.Ybulkaeqi
open Go.RowKit
def kindOf (loc : Bool) : Int := if loc then 4 else 6
section
variable {P : Program} {n : Nat} {K : List (Nat × Value)} {a : Act} {ops : Array Oper} {rest : List Oper} {o : Oper} {w : World} {Q : Exit → Act → World → Prop} {d : Nat}
/-- A call of a function by its name. -/
theorem stCall (hK : Fm n K a) (hg : o.guard = none) {f : FuncId} {xs : Array Operand} {tt : Array TypeId} (ho : o.op = .call { callee := .value (.func f), args := xs, argTypes := tt }) {vs : List Value} (hx : lookL K xs.toList = some vs) {R : Value → World → Prop} (hb : ∀ w, (callFunc f vs.toArray).run P w = .ok (.enter f vs.toArray) w)
    (hc : Calls P f vs.toArray w fun e w' => ∃ v, e = .returned v ∧ R v w') (hd : o.dst = some d) (hn : d < n) (h : ∀ v a' w', R v w' → Fm n ((d, v) :: K) a' → wpList P ops Q rest a' w') : wpList P ops Q (o :: rest) a w :=
  wpList_enter hg (run_callFn f xs tt ho rfl vs.toArray (hK.opA hx) w (hb w)) (hc.mono fun _e _w' ⟨v, he, hr⟩ => ⟨v, he, h v _ _ hr (by rw [hd]; exact hK.put hn v)⟩)
end
set_option maxRecDepth 20000 in
theorem at_e {Q : Exit → Act → World → Prop} (s : ByteArray) (req fst hops : Int) (found loc ph ah we : Bool) (ao : Option Addr) (n c : Nat) (a : Act) (N : Nat) (w : World) (hK : Fm 184 (K1 N s req fst hops found loc ph ah we (.slice ao n c)) a)
    (hself : w.heap[N + 1]? = some (.cells (contactL 0 s).toArray 31 (0, 0))) (R : World → Prop) (hc : Calls Yba.prog 5 #[ptr (N + 4), .agg (msgL (kindOf loc) req (contactL 0 s) hops (.slice ao n c) false (contactL 0 ByteArray.empty)).toArray, .bool found] w fun e w' => e = .returned (.tuple #[]) ∧ R w')
    (h : ∀ a w, R w → Fm 184 (K1 N s req fst hops found loc ph ah we (.slice ao n c)) a → Code.wp Yba.prog (codeOf Yba.f4 [1, 1, 1, 1, 1, 1, 1, 1, 1, 1, 1, 1, 1, 1, 1]) Q a w) :
    Code.wp Yba.prog (codeOf Yba.f4 [1, 1, 1, 1, 1, 1, 1, 1, 1, 1, 1, 1]) Q a w := by
  have h14 : ∀ a, Fm 184 ((27, .int .i64 (kindOf loc)) :: K1 N s req fst hops found loc ph ah we (.slice ao n c)) a → Code.wp Yba.prog (codeOf Yba.f4 [1, 1, 1, 1, 1, 1, 1, 1, 1, 1, 1, 1, 1, 1]) Q a w := by
    intro a hK
    show Code.wp _ (.seq (.region _ (opsOf Yba.f4 [1, 1, 1, 1, 1, 1, 1, 1, 1, 1, 1, 1, 1, 1, 0]) false) (codeOf Yba.f4 [1, 1, 1, 1, 1, 1, 1, 1, 1, 1, 1, 1, 1, 1, 1])) _ _ _
    refine srg ?_
    show wpList _ (opsOf Yba.f4 [1, 1, 1, 1, 1, 1, 1, 1, 1, 1, 1, 1, 1, 1, 0]) _ [opAt Yba.f4 [1, 1, 1, 1, 1, 1, 1, 1, 1, 1, 1, 1, 1, 1, 0] 0, opAt Yba.f4 [1, 1, 1, 1, 1, 1, 1, 1, 1, 1, 1, 1, 1, 1, 0] 1, opAt Yba.f4 [1, 1, 1, 1, 1, 1, 1, 1, 1, 1, 1, 1, 1, 1, 0] 2, opAt Yba.f4 [1, 1, 1, 1, 1, 1, 1, 1, 1, 1, 1, 1, 1, 1, 0] 3, opAt Yba.f4 [1, 1, 1, 1, 1, 1, 1, 1, 1, 1, 1, 1, 1, 1, 0] 4, opAt Yba.f4 [1, 1, 1, 1, 1, 1, 1, 1, 1, 1, 1, 1, 1, 1, 0] 5, opAt Yba.f4 [1, 1, 1, 1, 1, 1, 1, 1, 1, 1, 1, 1, 1, 1, 0] 6, opAt Yba.f4 [1, 1, 1, 1, 1, 1, 1, 1, 1, 1, 1, 1, 1, 1, 0] 7, opAt Yba.f4 [1, 1, 1, 1, 1, 1, 1, 1, 1, 1, 1, 1, 1, 1, 0] 8] _ _
    refine stMv hK (wn rfl) rfl rfl rfl (by decide) fun a hK => ?_
    refine stMv hK (wn rfl) rfl rfl rfl (by decide) fun a hK => ?_
    refine stMv hK (wn rfl) rfl rfl rfl (by decide) fun a hK => ?_
    refine stLr hK (wn rfl) rfl rfl (by rfl) row31 (range_at hself) rfl (by decide) fun a hK => ?_
    refine stMv hK (wn rfl) rfl rfl rfl (by decide) fun a hK => ?_
    refine stMv hK (wn rfl) rfl rfl rfl (by decide) fun a hK => ?_
    refine stBuild hK (wn rfl) rfl rfl (build_msg _ _ _ _ _ _ _ _ _) rfl (by decide) fun a hK => ?_
    refine stMv hK (wn rfl) rfl rfl rfl (by decide) fun a hK => ?_
    refine stCall hK rfl rfl rfl (R := fun _ w' => R w') (fun w => by kernel_rfl) (hc.mono fun _ _ h => ⟨_, h⟩) rfl (by decide) fun v a w hR hK => ?_
    show Code.wp _ (codeOf Yba.f4 [1, 1, 1, 1, 1, 1, 1, 1, 1, 1, 1, 1, 1, 1, 1]) _ _ _
    have hK := hK.sub (K1 N s req fst hops found loc ph ah we (.slice ao n c)) (by repeat (first | exact trivial | refine ⟨rfl, ?_⟩))
    exact h _ _ hR hK
  show Code.wp _ (.seq (.region _ (opsOf Yba.f4 [1, 1, 1, 1, 1, 1, 1, 1, 1, 1, 1, 1, 0]) false) (codeOf Yba.f4 [1, 1, 1, 1, 1, 1, 1, 1, 1, 1, 1, 1, 1])) _ _ _
  refine srg ?_
  show wpList _ (opsOf Yba.f4 [1, 1, 1, 1, 1, 1, 1, 1, 1, 1, 1, 1, 0]) _ [opAt Yba.f4 [1, 1, 1, 1, 1, 1, 1, 1, 1, 1, 1, 1, 0] 0] _ _
  refine stAs hK (wn rfl) rfl rfl rfl (by decide) fun a hK => ?_
  show Code.wp _ (codeOf Yba.f4 [1, 1, 1, 1, 1, 1, 1, 1, 1, 1, 1, 1, 1]) _ _ _
  show Code.wp _ (.seq (.seq (.region _ (opsOf Yba.f4 [1, 1, 1, 1, 1, 1, 1, 1, 1, 1, 1, 1, 1, 0, 0]) false) (codeOf Yba.f4 [1, 1, 1, 1, 1, 1, 1, 1, 1, 1, 1, 1, 1, 0, 1])) (codeOf Yba.f4 [1, 1, 1, 1, 1, 1, 1, 1, 1, 1, 1, 1, 1, 1])) _ _ _
  refine wp_seq (srg ?_)
  show wpList _ (opsOf Yba.f4 [1, 1, 1, 1, 1, 1, 1, 1, 1, 1, 1, 1, 1, 0, 0]) _ [opAt Yba.f4 [1, 1, 1, 1, 1, 1, 1, 1, 1, 1, 1, 1, 1, 0, 0] 0] _ _
  refine stMv hK (wn rfl) rfl rfl rfl (by decide) fun a hK => ?_
  cases loc with
  | false =>
    show Code.wp _ (.cond (.tmp 72) (codeOf Yba.f4 [1, 1, 1, 1, 1, 1, 1, 1, 1, 1, 1, 1, 1, 0, 1, 2]) .skip) _ _ _
    refine wp_cond_false (hK.op rfl) (wp_skip ?_)
    show Code.wp _ (codeOf Yba.f4 [1, 1, 1, 1, 1, 1, 1, 1, 1, 1, 1, 1, 1, 1]) _ _ _
    have hK := hK.sub ((27, .int .i64 (kindOf false)) :: K1 N s req fst hops found false ph ah we (.slice ao n c)) (by repeat (first | exact trivial | refine ⟨rfl, ?_⟩))
    exact h14 _ hK
  | true =>
    show Code.wp _ (.cond (.tmp 72) (codeOf Yba.f4 [1, 1, 1, 1, 1, 1, 1, 1, 1, 1, 1, 1, 1, 0, 1, 2]) .skip) _ _ _
    refine wp_cond_true (hK.op rfl) ?_
    show Code.wp _ (.region _ (opsOf Yba.f4 [1, 1, 1, 1, 1, 1, 1, 1, 1, 1, 1, 1, 1, 0, 1, 2]) false) _ _ _
    refine wp_region_list ?_
    show wpList _ (opsOf Yba.f4 [1, 1, 1, 1, 1, 1, 1, 1, 1, 1, 1, 1, 1, 0, 1, 2]) _ [opAt Yba.f4 [1, 1, 1, 1, 1, 1, 1, 1, 1, 1, 1, 1, 1, 0, 1, 2] 0] _ _
    refine stAs hK (wn rfl) rfl rfl rfl (by decide) fun a hK => ?_
    show Code.wp _ (codeOf Yba.f4 [1, 1, 1, 1, 1, 1, 1, 1, 1, 1, 1, 1, 1, 1]) _ _ _
    have hK := hK.sub ((27, .int .i64 (kindOf true)) :: K1 N s req fst hops found true ph ah we (.slice ao n c)) (by repeat (first | exact trivial | refine ⟨rfl, ?_⟩))
    exact h14 _ hK

end Go.Proofs.Ybulkaeqi
