import Derived.Test.YbulkaeqiAtC
namespace Go.Proofs.Ybulkaeqi
open Go.RowKit
theorem int_eq {x z : Int} {a b : Operand} {w : World} (h : x = z) : (do eqGuard .eql 3 a b (.int .i64 x) (.int .i64 z); binOp .eql 3 (.int .i64 x) (.int .i64 z) : Sem Value).run Yba.prog w = .ok (.bool true) w := by
  subst h
  show Result.ok (Value.bool (x == x)) w = _
  rw [beq_self_eq_true]
set_option maxRecDepth 20000 in
/-- No message was sent. -/
theorem at_f {Q : Exit → Act → World → Prop} (s : ByteArray) (req fst hops : Int) (found loc ph ah we : Bool) (path : Value) (a : Act) (N : Nat) (w : World) (hK : Fm 184 (K1 N s req fst hops found loc ph ah we path) a)
    (hnet : w.heap[N + 0]? = some (.cells netC 27 (0, 0)))
    (h : ∀ a, Fm 184 (K1 N s req fst hops found loc ph ah we path) a → Code.wp Yba.prog (codeOf Yba.f4 [1, 1, 1, 1, 1, 1, 1, 1, 1, 1, 1, 1, 1, 1, 1, 1]) Q a w) :
    Code.wp Yba.prog (codeOf Yba.f4 [1, 1, 1, 1, 1, 1, 1, 1, 1, 1, 1, 1, 1, 1, 1]) Q a w := by
  show Code.wp _ (.seq (.seq (.region _ (opsOf Yba.f4 [1, 1, 1, 1, 1, 1, 1, 1, 1, 1, 1, 1, 1, 1, 1, 0, 0]) false) (codeOf Yba.f4 [1, 1, 1, 1, 1, 1, 1, 1, 1, 1, 1, 1, 1, 1, 1, 0, 1])) (codeOf Yba.f4 [1, 1, 1, 1, 1, 1, 1, 1, 1, 1, 1, 1, 1, 1, 1, 1])) _ _ _
  refine wp_seq (srg ?_)
  show wpList _ (opsOf Yba.f4 [1, 1, 1, 1, 1, 1, 1, 1, 1, 1, 1, 1, 1, 1, 1, 0, 0]) _ [opAt Yba.f4 [1, 1, 1, 1, 1, 1, 1, 1, 1, 1, 1, 1, 1, 1, 1, 0, 0] 0, opAt Yba.f4 [1, 1, 1, 1, 1, 1, 1, 1, 1, 1, 1, 1, 1, 1, 1, 0, 0] 1, opAt Yba.f4 [1, 1, 1, 1, 1, 1, 1, 1, 1, 1, 1, 1, 1, 1, 1, 0, 0] 2, opAt Yba.f4 [1, 1, 1, 1, 1, 1, 1, 1, 1, 1, 1, 1, 1, 1, 1, 0, 0] 3, opAt Yba.f4 [1, 1, 1, 1, 1, 1, 1, 1, 1, 1, 1, 1, 1, 1, 1, 0, 0] 4, opAt Yba.f4 [1, 1, 1, 1, 1, 1, 1, 1, 1, 1, 1, 1, 1, 1, 1, 0, 0] 5] _ _
  refine stMv hK (wn rfl) rfl rfl rfl (by decide) fun a hK => ?_
  refine stNil hK (wn rfl) rfl rfl rfl (by decide) fun a hK => ?_
  refine stFa hK (wn rfl) rfl rfl 0 (fun b w => by kernel_rfl) rfl (by decide) fun a hK => ?_
  refine stLd hK (wn rfl) rfl rfl ((cell_at hnet 0).trans (rfl : _ = some nilS)) (fun w => by kernel_rfl) rfl (by decide) fun a hK => ?_
  refine stLenS hK (wn rfl) rfl Yba.underlying23 rfl rfl (by decide) fun a hK => ?_
  refine stBin hK (wn rfl) rfl rfl rfl ((by kernel_rfl : _ = Result.ok (Value.bool false) _)) rfl (by decide) fun a hK => ?_
  show Code.wp _ (.cond (.tmp 87) (codeOf Yba.f4 [1, 1, 1, 1, 1, 1, 1, 1, 1, 1, 1, 1, 1, 1, 1, 0, 1, 2]) .skip) _ _ _
  refine wp_cond_false (hK.op rfl) (wp_skip ?_)
  show Code.wp _ (codeOf Yba.f4 [1, 1, 1, 1, 1, 1, 1, 1, 1, 1, 1, 1, 1, 1, 1, 1]) _ _ _
  have hK := hK.sub (K1 N s req fst hops found loc ph ah we path) (by repeat (first | exact trivial | refine ⟨rfl, ?_⟩))
  exact h _ hK

set_option maxRecDepth 20000 in
/-- The request was not pending. -/
theorem at_no {Q : Exit → Act → World → Prop} (s : ByteArray) (req fst hops : Int) (found loc ah we : Bool) (path : Value) (a : Act) (N : Nat) (w : World) (hK : Fm 184 (K1 N s req fst hops found loc false ah we path) a)
    (hlog : w.heap[N + 5]? = some (.cells #[nilS] 76 (0, 0))) (hres : w.heap[N + 6]? = some (.cells #[nilS] 77 (0, 0))) (hp : w.heap[N + 4]? = some (.cells (peerL s (N + 0) (N + 2) (N + 3)).toArray 67 (0, 0))) (hm : w.heap[N + 3]? = some (awM ah N fst))
    (h : ∀ a, Fm 184 [(20, .bool true)] a → Q .ret a w) :
    Code.wp Yba.prog (codeOf Yba.f4 [1, 1, 1, 1, 1, 1, 1, 1, 1, 1, 1, 1, 1, 1, 1, 1]) Q a w := by
  show Code.wp _ (.seq (.seq (.region _ (opsOf Yba.f4 [1, 1, 1, 1, 1, 1, 1, 1, 1, 1, 1, 1, 1, 1, 1, 1, 0, 0]) false) (codeOf Yba.f4 [1, 1, 1, 1, 1, 1, 1, 1, 1, 1, 1, 1, 1, 1, 1, 1, 0, 1])) (codeOf Yba.f4 [1, 1, 1, 1, 1, 1, 1, 1, 1, 1, 1, 1, 1, 1, 1, 1, 1])) _ _ _
  refine wp_seq (srg ?_)
  show wpList _ (opsOf Yba.f4 [1, 1, 1, 1, 1, 1, 1, 1, 1, 1, 1, 1, 1, 1, 1, 1, 0, 0]) _ [opAt Yba.f4 [1, 1, 1, 1, 1, 1, 1, 1, 1, 1, 1, 1, 1, 1, 1, 1, 0, 0] 0, opAt Yba.f4 [1, 1, 1, 1, 1, 1, 1, 1, 1, 1, 1, 1, 1, 1, 1, 1, 0, 0] 1] _ _
  refine stMv hK (wn rfl) rfl rfl rfl (by decide) fun a hK => ?_
  refine stNot hK (wn rfl) rfl rfl rfl (by decide) fun a hK => ?_
  show Code.wp _ (.cond (.tmp 89) (codeOf Yba.f4 [1, 1, 1, 1, 1, 1, 1, 1, 1, 1, 1, 1, 1, 1, 1, 1, 0, 1, 2]) .skip) _ _ _
  refine wp_cond_true (hK.op rfl) ?_
  show Code.wp _ (.seq (.region _ (opsOf Yba.f4 [1, 1, 1, 1, 1, 1, 1, 1, 1, 1, 1, 1, 1, 1, 1, 1, 0, 1, 2, 0]) false) (codeOf Yba.f4 [1, 1, 1, 1, 1, 1, 1, 1, 1, 1, 1, 1, 1, 1, 1, 1, 0, 1, 2, 1])) _ _ _
  refine srg ?_
  show wpList _ (opsOf Yba.f4 [1, 1, 1, 1, 1, 1, 1, 1, 1, 1, 1, 1, 1, 1, 1, 1, 0, 1, 2, 0]) _ [opAt Yba.f4 [1, 1, 1, 1, 1, 1, 1, 1, 1, 1, 1, 1, 1, 1, 1, 1, 0, 1, 2, 0] 0] _ _
  refine stAs hK (wn rfl) rfl rfl rfl (by decide) fun a hK => ?_
  show Code.wp _ (codeOf Yba.f4 [1, 1, 1, 1, 1, 1, 1, 1, 1, 1, 1, 1, 1, 1, 1, 1, 0, 1, 2, 1]) _ _ _
  show Code.wp _ (.seq (.seq (.region _ (opsOf Yba.f4 [1, 1, 1, 1, 1, 1, 1, 1, 1, 1, 1, 1, 1, 1, 1, 1, 0, 1, 2, 1, 0, 0]) false) (.cond (.tmp 90) (.region _ (opsOf Yba.f4 [1, 1, 1, 1, 1, 1, 1, 1, 1, 1, 1, 1, 1, 1, 1, 1, 0, 1, 2, 1, 0, 1, 2]) false) .skip)) (codeOf Yba.f4 [1, 1, 1, 1, 1, 1, 1, 1, 1, 1, 1, 1, 1, 1, 1, 1, 0, 1, 2, 1, 1])) _ _ _
  refine wp_seq (srg ?_)
  show wpList _ (opsOf Yba.f4 [1, 1, 1, 1, 1, 1, 1, 1, 1, 1, 1, 1, 1, 1, 1, 1, 0, 1, 2, 1, 0, 0]) _ [opAt Yba.f4 [1, 1, 1, 1, 1, 1, 1, 1, 1, 1, 1, 1, 1, 1, 1, 1, 0, 1, 2, 1, 0, 0] 0] _ _
  refine stMv hK (wn rfl) rfl rfl rfl (by decide) fun a hK => ?_
  have h26 : ∀ a (z : Int) (es : Array MapEntry) (c : Nat), w.heap[N + 3]? = some (.map es c) → (es.size : Int) = z → Fm 184 ((28, .int .i64 z) :: K1 N s req fst hops found loc false ah we path) a → Code.wp Yba.prog (codeOf Yba.f4 [1, 1, 1, 1, 1, 1, 1, 1, 1, 1, 1, 1, 1, 1, 1, 1, 0, 1, 2, 1, 1]) (Exit.then (Code.wp Yba.prog (codeOf Yba.f4 [1, 1, 1, 1, 1, 1, 1, 1, 1, 1, 1, 1, 1, 1, 1, 1, 1]) Q) Q) a w := by
    intro a z es c hm hz hK
    show Code.wp _ (.seq (.region _ (opsOf Yba.f4 [1, 1, 1, 1, 1, 1, 1, 1, 1, 1, 1, 1, 1, 1, 1, 1, 0, 1, 2, 1, 1, 0]) false) (codeOf Yba.f4 [1, 1, 1, 1, 1, 1, 1, 1, 1, 1, 1, 1, 1, 1, 1, 1, 0, 1, 2, 1, 1, 1])) _ _ _
    refine srg ?_
    show wpList _ (opsOf Yba.f4 [1, 1, 1, 1, 1, 1, 1, 1, 1, 1, 1, 1, 1, 1, 1, 1, 0, 1, 2, 1, 1, 0]) _ [opAt Yba.f4 [1, 1, 1, 1, 1, 1, 1, 1, 1, 1, 1, 1, 1, 1, 1, 1, 0, 1, 2, 1, 1, 0] 0, opAt Yba.f4 [1, 1, 1, 1, 1, 1, 1, 1, 1, 1, 1, 1, 1, 1, 1, 1, 0, 1, 2, 1, 1, 0] 1, opAt Yba.f4 [1, 1, 1, 1, 1, 1, 1, 1, 1, 1, 1, 1, 1, 1, 1, 1, 0, 1, 2, 1, 1, 0] 2, opAt Yba.f4 [1, 1, 1, 1, 1, 1, 1, 1, 1, 1, 1, 1, 1, 1, 1, 1, 0, 1, 2, 1, 1, 0] 3, opAt Yba.f4 [1, 1, 1, 1, 1, 1, 1, 1, 1, 1, 1, 1, 1, 1, 1, 1, 0, 1, 2, 1, 1, 0] 4, opAt Yba.f4 [1, 1, 1, 1, 1, 1, 1, 1, 1, 1, 1, 1, 1, 1, 1, 1, 0, 1, 2, 1, 1, 0] 5, opAt Yba.f4 [1, 1, 1, 1, 1, 1, 1, 1, 1, 1, 1, 1, 1, 1, 1, 1, 0, 1, 2, 1, 1, 0] 6, opAt Yba.f4 [1, 1, 1, 1, 1, 1, 1, 1, 1, 1, 1, 1, 1, 1, 1, 1, 0, 1, 2, 1, 1, 0] 7, opAt Yba.f4 [1, 1, 1, 1, 1, 1, 1, 1, 1, 1, 1, 1, 1, 1, 1, 1, 0, 1, 2, 1, 1, 0] 8, opAt Yba.f4 [1, 1, 1, 1, 1, 1, 1, 1, 1, 1, 1, 1, 1, 1, 1, 1, 0, 1, 2, 1, 1, 0] 9, opAt Yba.f4 [1, 1, 1, 1, 1, 1, 1, 1, 1, 1, 1, 1, 1, 1, 1, 1, 0, 1, 2, 1, 1, 0] 10, opAt Yba.f4 [1, 1, 1, 1, 1, 1, 1, 1, 1, 1, 1, 1, 1, 1, 1, 1, 0, 1, 2, 1, 1, 0] 11, opAt Yba.f4 [1, 1, 1, 1, 1, 1, 1, 1, 1, 1, 1, 1, 1, 1, 1, 1, 0, 1, 2, 1, 1, 0] 12, opAt Yba.f4 [1, 1, 1, 1, 1, 1, 1, 1, 1, 1, 1, 1, 1, 1, 1, 1, 0, 1, 2, 1, 1, 0] 13, opAt Yba.f4 [1, 1, 1, 1, 1, 1, 1, 1, 1, 1, 1, 1, 1, 1, 1, 1, 0, 1, 2, 1, 1, 0] 14, opAt Yba.f4 [1, 1, 1, 1, 1, 1, 1, 1, 1, 1, 1, 1, 1, 1, 1, 1, 0, 1, 2, 1, 1, 0] 15, opAt Yba.f4 [1, 1, 1, 1, 1, 1, 1, 1, 1, 1, 1, 1, 1, 1, 1, 1, 0, 1, 2, 1, 1, 0] 16, opAt Yba.f4 [1, 1, 1, 1, 1, 1, 1, 1, 1, 1, 1, 1, 1, 1, 1, 1, 0, 1, 2, 1, 1, 0] 17] _ _
    refine stLd hK (wn rfl) rfl rfl ((cell_at hlog 0).trans (rfl : _ = some nilS)) (fun w => by kernel_rfl) rfl (by decide) fun a hK => ?_
    refine stLenS hK (wn rfl) rfl Yba.underlying76 rfl rfl (by decide) fun a hK => ?_
    refine stBin hK (wn rfl) rfl rfl rfl ((by kernel_rfl : _ = Result.ok (Value.bool true) _)) rfl (by decide) fun a hK => ?_
    refine stMv hK (wn rfl) rfl rfl rfl (by decide) fun a hK => ?_
    refine stLd hK (hK.wy rfl rfl rfl (by decide)) rfl rfl ((cell_at hres 0).trans (rfl : _ = some nilS)) (fun w => by kernel_rfl) rfl (by decide) fun a hK => ?_
    refine stLenS hK (hK.wy rfl rfl rfl (by decide)) rfl Yba.underlying77 rfl rfl (by decide) fun a hK => ?_
    refine stBin hK (hK.wy rfl rfl rfl (by decide)) rfl rfl rfl ((by kernel_rfl : _ = Result.ok (Value.bool true) _)) rfl (by decide) fun a hK => ?_
    refine stPick hK (wn rfl) rfl rfl rfl rfl rfl (by decide) fun a hK => ?_
    refine stMv hK (wn rfl) rfl rfl rfl (by decide) fun a hK => ?_
    refine stMv hK (hK.wy rfl rfl rfl (by decide)) rfl rfl rfl (by decide) fun a hK => ?_
    refine stNil hK (hK.wy rfl rfl rfl (by decide)) rfl rfl rfl (by decide) fun a hK => ?_
    refine stFa hK (hK.wy rfl rfl rfl (by decide)) rfl rfl 34 (fun b w => by kernel_rfl) rfl (by decide) fun a hK => ?_
    refine stLd hK (hK.wy rfl rfl rfl (by decide)) rfl rfl ((cell_at hp 34).trans (by kernel_rfl : _ = some (Value.map (some (N + 3))))) (fun w => by kernel_rfl) rfl (by decide) fun a hK => ?_
    refine stLenM hK (hK.wy rfl rfl rfl (by decide)) rfl Yba.underlying34 rfl (hm) rfl (by decide) fun a hK => ?_
    refine stMv hK (hK.wy rfl rfl rfl (by decide)) rfl rfl rfl (by decide) fun a hK => ?_
    refine stBin hK (hK.wy rfl rfl rfl (by decide)) rfl rfl rfl ((int_eq hz : _ = Result.ok (Value.bool true) _)) rfl (by decide) fun a hK => ?_
    refine stPick hK (wn rfl) rfl rfl rfl rfl rfl (by decide) fun a hK => ?_
    refine stAs hK (wn rfl) rfl rfl rfl (by decide) fun a hK => ?_
    refine wp_ret (h _ (hK.sub _ ⟨rfl, trivial⟩))
  cases ah with
  | false =>
    refine wp_cond_false (hK.op rfl) (wp_skip ?_)
    show Code.wp _ (codeOf Yba.f4 [1, 1, 1, 1, 1, 1, 1, 1, 1, 1, 1, 1, 1, 1, 1, 1, 0, 1, 2, 1, 1]) _ _ _
    exact h26 _ 0 _ _ hm rfl (hK.sub _ (by repeat (first | exact trivial | refine ⟨rfl, ?_⟩)))
  | true =>
    refine wp_cond_true (hK.op rfl) (wp_region_list ?_)
    show wpList _ (opsOf Yba.f4 [1, 1, 1, 1, 1, 1, 1, 1, 1, 1, 1, 1, 1, 1, 1, 1, 0, 1, 2, 1, 0, 1, 2]) _ [opAt Yba.f4 [1, 1, 1, 1, 1, 1, 1, 1, 1, 1, 1, 1, 1, 1, 1, 1, 0, 1, 2, 1, 0, 1, 2] 0] _ _
    refine stAs hK (wn rfl) rfl rfl rfl (by decide) fun a hK => ?_
    show Code.wp _ (codeOf Yba.f4 [1, 1, 1, 1, 1, 1, 1, 1, 1, 1, 1, 1, 1, 1, 1, 1, 0, 1, 2, 1, 1]) _ _ _
    exact h26 _ 1 _ _ hm rfl (hK.sub _ (by repeat (first | exact trivial | refine ⟨rfl, ?_⟩)))

end Go.Proofs.Ybulkaeqi
