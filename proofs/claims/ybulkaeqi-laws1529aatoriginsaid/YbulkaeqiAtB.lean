import Derived.Test.YbulkaeqiAtA
namespace Go.Proofs.Ybulkaeqi
open Go.RowKit
def awaitL (lb : Nat) : List Value := contactL 0 ByteArray.empty ++ [.int .i64 0, .func (.func 10) #[] #[ptr lb], .int .i64 0, nilS, nilS, .nilFunc, .nilFunc]
def pendM (ph : Bool) (N : Nat) (req : Int) : Obj := if ph then .map #[⟨.int .u64 req, ptr (N + 7), 0⟩] 1 else .map #[] 0
def awM (ah : Bool) (N : Nat) (fst : Int) : Obj := if ah then .map #[⟨.int .u64 fst, ptr (N + 8), 0⟩] 1 else .map #[] 0
def awB (ah : Bool) (N : Nat) : List (Nat × Obj) := if ah then [(8, .cells (awaitL (N + 5)).toArray 87 (0, 0))] else []
def awS (ah : Bool) : Nat := if ah then 9 else 8
/-- The blocks behind the laying of the scene. -/
def B2 (N : Nat) (s : ByteArray) (req fst : Int) (ph we : Bool) (m3 : Obj) : List (Nat × Obj) :=
  [(7, .cells (reqL (N + 5) (N + 6) (endedV we (N + 5)) fst).toArray 83 (0, 0)), (6, .cells #[nilS] 77 (0, 0)), (5, .cells #[nilS] 76 (0, 0)), (4, .cells (peerL s (N + 0) (N + 2) (N + 3)).toArray 67 (0, 0)), (3, m3), (2, pendM ph N req), (1, .cells (contactL 0 s).toArray 31 (0, 0)), (0, .cells netC 27 (0, 0))]

set_option maxRecDepth 20000 in
theorem at_b {Q : Exit → Act → World → Prop} (s : ByteArray) (req fst hops : Int) (found loc ph ah we : Bool) (path : Value) (a : Act) (w0 w : World) (hK : Fm 184 (K1 w0.heap.size s req fst hops found loc ph ah we path) a) (hW : Wd w0 8 (B1 w0.heap.size s fst) w)
    (h : ∀ a w, Fm 184 (K1 w0.heap.size s req fst hops found loc ph ah we path) a → Wd w0 8 (B2 w0.heap.size s req fst false we (.map #[] 0)) w → Code.wp Yba.prog (codeOf Yba.f4 [1, 1, 1, 1, 1, 1, 1, 1, 1, 1]) Q a w) :
    Code.wp Yba.prog (codeOf Yba.f4 [1, 1, 1, 1, 1, 1, 1, 1, 1]) Q a w := by
  show Code.wp _ (.seq (.seq (.region _ (opsOf Yba.f4 [1, 1, 1, 1, 1, 1, 1, 1, 1, 0, 0]) false) (codeOf Yba.f4 [1, 1, 1, 1, 1, 1, 1, 1, 1, 0, 1])) (codeOf Yba.f4 [1, 1, 1, 1, 1, 1, 1, 1, 1, 1])) _ _ _
  refine wp_seq (srg ?_)
  show wpList _ (opsOf Yba.f4 [1, 1, 1, 1, 1, 1, 1, 1, 1, 0, 0]) _ [opAt Yba.f4 [1, 1, 1, 1, 1, 1, 1, 1, 1, 0, 0] 0] _ _
  refine stMv hK (wn rfl) rfl rfl rfl (by decide) fun a hK => ?_
  cases we with
  | false =>
    show Code.wp _ (.cond (.tmp 51) (codeOf Yba.f4 [1, 1, 1, 1, 1, 1, 1, 1, 1, 0, 1, 2]) .skip) _ _ _
    refine wp_cond_false (hK.op rfl) (wp_skip ?_)
    show Code.wp _ (codeOf Yba.f4 [1, 1, 1, 1, 1, 1, 1, 1, 1, 1]) _ _ _
    have hK := hK.sub (K1 w0.heap.size s req fst hops found loc ph ah false path) (by repeat (first | exact trivial | refine ⟨rfl, ?_⟩))
    exact h _ _ hK (hW.sub _ (by repeat (first | exact trivial | refine ⟨by kernel_rfl, ?_⟩)))
  | true =>
    show Code.wp _ (.cond (.tmp 51) (codeOf Yba.f4 [1, 1, 1, 1, 1, 1, 1, 1, 1, 0, 1, 2]) .skip) _ _ _
    refine wp_cond_true (hK.op rfl) ?_
    show Code.wp _ (.region _ (opsOf Yba.f4 [1, 1, 1, 1, 1, 1, 1, 1, 1, 0, 1, 2]) false) _ _ _
    refine wp_region_list ?_
    show wpList _ (opsOf Yba.f4 [1, 1, 1, 1, 1, 1, 1, 1, 1, 0, 1, 2]) _ [opAt Yba.f4 [1, 1, 1, 1, 1, 1, 1, 1, 1, 0, 1, 2] 0, opAt Yba.f4 [1, 1, 1, 1, 1, 1, 1, 1, 1, 0, 1, 2] 1, opAt Yba.f4 [1, 1, 1, 1, 1, 1, 1, 1, 1, 0, 1, 2] 2, opAt Yba.f4 [1, 1, 1, 1, 1, 1, 1, 1, 1, 0, 1, 2] 3, opAt Yba.f4 [1, 1, 1, 1, 1, 1, 1, 1, 1, 0, 1, 2] 4] _ _
    refine stMv hK (wn rfl) rfl rfl rfl (by decide) fun a hK => ?_
    refine stFn hK (wn rfl) rfl rfl rfl (by decide) fun a hK => ?_
    refine stNil hK (wn rfl) rfl rfl rfl (by decide) fun a hK => ?_
    refine stFa hK (wn rfl) rfl rfl 1 (fun b w => by kernel_rfl) rfl (by decide) fun a hK => ?_
    refine stSt hK hW rfl rfl rfl rfl (fun w => by kernel_rfl) rfl rfl rfl (by first | decide | simp [reqL]) rfl fun w hW => ?_
    show Code.wp _ (codeOf Yba.f4 [1, 1, 1, 1, 1, 1, 1, 1, 1, 1]) _ _ _
    have hK := hK.sub (K1 w0.heap.size s req fst hops found loc ph ah true path) (by repeat (first | exact trivial | refine ⟨rfl, ?_⟩))
    exact h _ _ hK (hW.sub _ (by repeat (first | exact trivial | refine ⟨by kernel_rfl, ?_⟩)))

set_option maxRecDepth 20000 in
theorem at_c {Q : Exit → Act → World → Prop} (s : ByteArray) (req fst hops : Int) (found loc ph ah we : Bool) (path : Value) (a : Act) (w0 w : World) (hK : Fm 184 (K1 w0.heap.size s req fst hops found loc ph ah we path) a) (hW : Wd w0 8 (B2 w0.heap.size s req fst false we (.map #[] 0)) w)
    (h : ∀ a w, Fm 184 (K1 w0.heap.size s req fst hops found loc ph ah we path) a → Wd w0 8 (B2 w0.heap.size s req fst ph we (.map #[] 0)) w → Code.wp Yba.prog (codeOf Yba.f4 [1, 1, 1, 1, 1, 1, 1, 1, 1, 1, 1]) Q a w) :
    Code.wp Yba.prog (codeOf Yba.f4 [1, 1, 1, 1, 1, 1, 1, 1, 1, 1]) Q a w := by
  show Code.wp _ (.seq (.seq (.region _ (opsOf Yba.f4 [1, 1, 1, 1, 1, 1, 1, 1, 1, 1, 0, 0]) false) (codeOf Yba.f4 [1, 1, 1, 1, 1, 1, 1, 1, 1, 1, 0, 1])) (codeOf Yba.f4 [1, 1, 1, 1, 1, 1, 1, 1, 1, 1, 1])) _ _ _
  refine wp_seq (srg ?_)
  show wpList _ (opsOf Yba.f4 [1, 1, 1, 1, 1, 1, 1, 1, 1, 1, 0, 0]) _ [opAt Yba.f4 [1, 1, 1, 1, 1, 1, 1, 1, 1, 1, 0, 0] 0] _ _
  refine stMv hK (wn rfl) rfl rfl rfl (by decide) fun a hK => ?_
  cases ph with
  | false =>
    show Code.wp _ (.cond (.tmp 56) (codeOf Yba.f4 [1, 1, 1, 1, 1, 1, 1, 1, 1, 1, 0, 1, 2]) .skip) _ _ _
    refine wp_cond_false (hK.op rfl) (wp_skip ?_)
    show Code.wp _ (codeOf Yba.f4 [1, 1, 1, 1, 1, 1, 1, 1, 1, 1, 1]) _ _ _
    have hK := hK.sub (K1 w0.heap.size s req fst hops found loc false ah we path) (by repeat (first | exact trivial | refine ⟨rfl, ?_⟩))
    exact h _ _ hK (hW.sub _ (by repeat (first | exact trivial | refine ⟨by kernel_rfl, ?_⟩)))
  | true =>
    show Code.wp _ (.cond (.tmp 56) (codeOf Yba.f4 [1, 1, 1, 1, 1, 1, 1, 1, 1, 1, 0, 1, 2]) .skip) _ _ _
    refine wp_cond_true (hK.op rfl) ?_
    show Code.wp _ (.region _ (opsOf Yba.f4 [1, 1, 1, 1, 1, 1, 1, 1, 1, 1, 0, 1, 2]) false) _ _ _
    refine wp_region_list ?_
    show wpList _ (opsOf Yba.f4 [1, 1, 1, 1, 1, 1, 1, 1, 1, 1, 0, 1, 2]) _ [opAt Yba.f4 [1, 1, 1, 1, 1, 1, 1, 1, 1, 1, 0, 1, 2] 0, opAt Yba.f4 [1, 1, 1, 1, 1, 1, 1, 1, 1, 1, 0, 1, 2] 1, opAt Yba.f4 [1, 1, 1, 1, 1, 1, 1, 1, 1, 1, 0, 1, 2] 2, opAt Yba.f4 [1, 1, 1, 1, 1, 1, 1, 1, 1, 1, 0, 1, 2] 3, opAt Yba.f4 [1, 1, 1, 1, 1, 1, 1, 1, 1, 1, 0, 1, 2] 4, opAt Yba.f4 [1, 1, 1, 1, 1, 1, 1, 1, 1, 1, 0, 1, 2] 5, opAt Yba.f4 [1, 1, 1, 1, 1, 1, 1, 1, 1, 1, 0, 1, 2] 6] _ _
    refine stMv hK (wn rfl) rfl rfl rfl (by decide) fun a hK => ?_
    refine stNil hK (wn rfl) rfl rfl rfl (by decide) fun a hK => ?_
    refine stFa hK (wn rfl) rfl rfl 33 (fun b w => by kernel_rfl) rfl (by decide) fun a hK => ?_
    refine stLd hK (wn rfl) rfl rfl ((cell_at (hW.get 4 _ rfl) 33).trans (by kernel_rfl : _ = some (Value.map (some (w0.heap.size + 2))))) (fun w => by kernel_rfl) rfl (by decide) fun a hK => ?_
    refine stMv hK (wn rfl) rfl rfl rfl (by decide) fun a hK => ?_
    refine stMv hK (wn rfl) rfl rfl rfl (by decide) fun a hK => ?_
    refine stPut hK hW (wn rfl) rfl Yba.underlying33 Yba.underlying22 rfl rfl rfl rfl rfl fun w hW => ?_
    show Code.wp _ (codeOf Yba.f4 [1, 1, 1, 1, 1, 1, 1, 1, 1, 1, 1]) _ _ _
    have hK := hK.sub (K1 w0.heap.size s req fst hops found loc true ah we path) (by repeat (first | exact trivial | refine ⟨rfl, ?_⟩))
    exact h _ _ hK (hW.sub _ (by repeat (first | exact trivial | refine ⟨by kernel_rfl, ?_⟩)))

set_option maxRecDepth 20000 in
theorem at_d {Q : Exit → Act → World → Prop} (s : ByteArray) (req fst hops : Int) (found loc ph ah we : Bool) (path : Value) (a : Act) (w0 w : World) (hK : Fm 184 (K1 w0.heap.size s req fst hops found loc ph ah we path) a) (hW : Wd w0 8 (B2 w0.heap.size s req fst ph we (.map #[] 0)) w)
    (h : ∀ a w, Fm 184 (K1 w0.heap.size s req fst hops found loc ph ah we path) a → Wd w0 (awS ah) (awB ah w0.heap.size ++ B2 w0.heap.size s req fst ph we (awM ah w0.heap.size fst)) w → Code.wp Yba.prog (codeOf Yba.f4 [1, 1, 1, 1, 1, 1, 1, 1, 1, 1, 1, 1]) Q a w) :
    Code.wp Yba.prog (codeOf Yba.f4 [1, 1, 1, 1, 1, 1, 1, 1, 1, 1, 1]) Q a w := by
  show Code.wp _ (.seq (.seq (.region _ (opsOf Yba.f4 [1, 1, 1, 1, 1, 1, 1, 1, 1, 1, 1, 0, 0]) false) (codeOf Yba.f4 [1, 1, 1, 1, 1, 1, 1, 1, 1, 1, 1, 0, 1])) (codeOf Yba.f4 [1, 1, 1, 1, 1, 1, 1, 1, 1, 1, 1, 1])) _ _ _
  refine wp_seq (srg ?_)
  show wpList _ (opsOf Yba.f4 [1, 1, 1, 1, 1, 1, 1, 1, 1, 1, 1, 0, 0]) _ [opAt Yba.f4 [1, 1, 1, 1, 1, 1, 1, 1, 1, 1, 1, 0, 0] 0] _ _
  refine stMv hK (wn rfl) rfl rfl rfl (by decide) fun a hK => ?_
  cases ah with
  | false =>
    show Code.wp _ (.cond (.tmp 63) (codeOf Yba.f4 [1, 1, 1, 1, 1, 1, 1, 1, 1, 1, 1, 0, 1, 2]) .skip) _ _ _
    refine wp_cond_false (hK.op rfl) (wp_skip ?_)
    show Code.wp _ (codeOf Yba.f4 [1, 1, 1, 1, 1, 1, 1, 1, 1, 1, 1, 1]) _ _ _
    have hK := hK.sub (K1 w0.heap.size s req fst hops found loc ph false we path) (by repeat (first | exact trivial | refine ⟨rfl, ?_⟩))
    exact h _ _ hK (hW.sub _ (by repeat (first | exact trivial | refine ⟨by kernel_rfl, ?_⟩)))
  | true =>
    show Code.wp _ (.cond (.tmp 63) (codeOf Yba.f4 [1, 1, 1, 1, 1, 1, 1, 1, 1, 1, 1, 0, 1, 2]) .skip) _ _ _
    refine wp_cond_true (hK.op rfl) ?_
    show Code.wp _ (.region _ (opsOf Yba.f4 [1, 1, 1, 1, 1, 1, 1, 1, 1, 1, 1, 0, 1, 2]) false) _ _ _
    refine wp_region_list ?_
    show wpList _ (opsOf Yba.f4 [1, 1, 1, 1, 1, 1, 1, 1, 1, 1, 1, 0, 1, 2]) _ [opAt Yba.f4 [1, 1, 1, 1, 1, 1, 1, 1, 1, 1, 1, 0, 1, 2] 0, opAt Yba.f4 [1, 1, 1, 1, 1, 1, 1, 1, 1, 1, 1, 0, 1, 2] 1, opAt Yba.f4 [1, 1, 1, 1, 1, 1, 1, 1, 1, 1, 1, 0, 1, 2] 2, opAt Yba.f4 [1, 1, 1, 1, 1, 1, 1, 1, 1, 1, 1, 0, 1, 2] 3, opAt Yba.f4 [1, 1, 1, 1, 1, 1, 1, 1, 1, 1, 1, 0, 1, 2] 4, opAt Yba.f4 [1, 1, 1, 1, 1, 1, 1, 1, 1, 1, 1, 0, 1, 2] 5, opAt Yba.f4 [1, 1, 1, 1, 1, 1, 1, 1, 1, 1, 1, 0, 1, 2] 6, opAt Yba.f4 [1, 1, 1, 1, 1, 1, 1, 1, 1, 1, 1, 0, 1, 2] 7, opAt Yba.f4 [1, 1, 1, 1, 1, 1, 1, 1, 1, 1, 1, 0, 1, 2] 8] _ _
    refine stMv hK (wn rfl) rfl rfl rfl (by decide) fun a hK => ?_
    refine stNil hK (wn rfl) rfl rfl rfl (by decide) fun a hK => ?_
    refine stFa hK (wn rfl) rfl rfl 34 (fun b w => by kernel_rfl) rfl (by decide) fun a hK => ?_
    refine stLd hK (wn rfl) rfl rfl ((cell_at (hW.get 4 _ rfl) 34).trans (by kernel_rfl : _ = some (Value.map (some (w0.heap.size + 3))))) (fun w => by kernel_rfl) rfl (by decide) fun a hK => ?_
    refine stMv hK (wn rfl) rfl rfl rfl (by decide) fun a hK => ?_
    refine stFn hK (wn rfl) rfl rfl rfl (by decide) fun a hK => ?_
    refine stBuild hK (wn rfl) rfl rfl ((by kernel_rfl : _ = Result.ok (Value.agg (awaitL (w0.heap.size + 5)).toArray) _)) rfl (by decide) fun a hK => ?_
    refine stBox hK hW (wn rfl) rfl rfl rfl (by decide) fun a w hK hW => ?_
    refine stPut hK hW (wn rfl) rfl Yba.underlying34 Yba.underlying22 rfl rfl rfl rfl rfl fun w hW => ?_
    show Code.wp _ (codeOf Yba.f4 [1, 1, 1, 1, 1, 1, 1, 1, 1, 1, 1, 1]) _ _ _
    have hK := hK.sub (K1 w0.heap.size s req fst hops found loc ph true we path) (by repeat (first | exact trivial | refine ⟨rfl, ?_⟩))
    exact h _ _ hK (hW.sub _ (by repeat (first | exact trivial | refine ⟨by kernel_rfl, ?_⟩)))

end Go.Proofs.Ybulkaeqi
