import Derived.Test.YbulkaeqiStep
namespace Go.Proofs.Ybulkaeqi
open Go.RowKit
/-- What the parameters' slots hold. -/
def K0 (s : ByteArray) (req fst hops : Int) (found loc ph ah we : Bool) (path : Value) : List (Nat × Value) :=
  [(0, .string s), (1, .int .u64 req), (2, .int .u64 fst), (3, .int .i64 hops), (4, .bool found), (5, .bool loc), (6, .bool ph), (7, .bool ah), (8, .bool we), (9, path)]
def ptr (b : Nat) : Value := .pointer (some ⟨b, 0, none⟩)
/-- With the locals: N is where the walk's blocks begin. -/
def K1 (N : Nat) (s : ByteArray) (req fst hops : Int) (found loc ph ah we : Bool) (path : Value) : List (Nat × Value) :=
  (21, ptr (N + 0)) :: (22, ptr (N + 1)) :: (23, ptr (N + 4)) :: (24, ptr (N + 5)) :: (25, ptr (N + 6)) :: (26, ptr (N + 7)) :: K0 s req fst hops found loc ph ah we path
def netC : Array Value := #[nilS, nilS]
theorem gtr_no {n : Nat} {w : World} (hn : n ≤ 1024) : (do eqGuard .gtr 3 (.tmp 33) (.const (.int .i64 1024)) (.int .i64 n) (.int .i64 1024); binOp .gtr 3 (.int .i64 n) (.int .i64 1024) : Sem Value).run Yba.prog w = .ok (.bool false) w := by
  have : decide ((n : Int) > 1024) = false := by simp; omega
  show Result.ok (Value.bool (decide ((n : Int) > 1024))) w = _
  rw [this]
def B1 (N : Nat) (s : ByteArray) (fst : Int) : List (Nat × Obj) :=
  [(7, .cells (reqL (N + 5) (N + 6) .nilFunc fst).toArray 83 (0, 0)), (6, .cells #[nilS] 77 (0, 0)), (5, .cells #[nilS] 76 (0, 0)), (4, .cells (peerL s (N + 0) (N + 2) (N + 3)).toArray 67 (0, 0)), (3, .map #[] 0), (2, .map #[] 0), (1, .cells (contactL 0 s).toArray 31 (0, 0)), (0, .cells netC 27 (0, 0))]

set_option maxRecDepth 20000 in
theorem at_a {Q : Exit → Act → World → Prop} (s : ByteArray) (req fst hops : Int) (found loc ph ah we : Bool) (ao : Option Addr) (n c : Nat) (hn : n ≤ 1024) (a : Act) (w0 : World) (hK : Fm 184 (K0 s req fst hops found loc ph ah we (.slice ao n c)) a)
    (h : ∀ a w, Fm 184 (K1 w0.heap.size s req fst hops found loc ph ah we (.slice ao n c)) a → Wd w0 8 (B1 w0.heap.size s fst) w → Code.wp Yba.prog (codeOf Yba.f4 [1, 1, 1, 1, 1, 1, 1, 1, 1]) Q a w) :
    Code.wp Yba.prog (codeOf Yba.f4 []) Q a w0 := by
  have hW := Wd.start w0

  show Code.wp _ (.seq (.region _ (opsOf Yba.f4 [0]) false) (codeOf Yba.f4 [1])) _ _ _
  refine srg ?_
  show wpList _ (opsOf Yba.f4 [0]) _ [opAt Yba.f4 [0] 0] _ _
  refine stAs hK (wn rfl) rfl rfl rfl (by decide) fun a hK => ?_
  show Code.wp _ (codeOf Yba.f4 [1]) _ _ _
  show Code.wp _ (.seq (.seq (.region _ (opsOf Yba.f4 [1, 0, 0]) false) (codeOf Yba.f4 [1, 0, 1])) (codeOf Yba.f4 [1, 1])) _ _ _
  refine wp_seq (srg ?_)
  show wpList _ (opsOf Yba.f4 [1, 0, 0]) _ [opAt Yba.f4 [1, 0, 0] 0, opAt Yba.f4 [1, 0, 0] 1, opAt Yba.f4 [1, 0, 0] 2] _ _
  refine stMv hK (wn rfl) rfl rfl rfl (by decide) fun a hK => ?_
  refine stLenS hK (wn rfl) rfl Yba.underlying23 rfl rfl (by decide) fun a hK => ?_
  refine stBin hK (wn rfl) rfl rfl rfl (gtr_no hn) rfl (by decide) fun a hK => ?_
  show Code.wp _ (.cond (.tmp 34) (codeOf Yba.f4 [1, 0, 1, 2]) .skip) _ _ _
  refine wp_cond_false (hK.op rfl) (wp_skip ?_)
  show Code.wp _ (codeOf Yba.f4 [1, 1]) _ _ _
  show Code.wp _ (.seq (.region _ (opsOf Yba.f4 [1, 1, 0]) false) (codeOf Yba.f4 [1, 1, 1])) _ _ _
  refine srg ?_
  show wpList _ (opsOf Yba.f4 [1, 1, 0]) _ [opAt Yba.f4 [1, 1, 0] 0, opAt Yba.f4 [1, 1, 0] 1, opAt Yba.f4 [1, 1, 0] 2] _ _
  refine stBuild hK (wn rfl) rfl rfl ((by kernel_rfl : _ = Result.ok (Value.agg #[nilS, nilS]) _)) rfl (by decide) fun a hK => ?_
  refine stBox hK hW (wn rfl) rfl rfl rfl (by decide) fun a w hK hW => ?_
  refine stAs hK (wn rfl) rfl rfl rfl (by decide) fun a hK => ?_
  show Code.wp _ (codeOf Yba.f4 [1, 1, 1]) _ _ _
  show Code.wp _ (.seq (.region _ (opsOf Yba.f4 [1, 1, 1, 0]) false) (codeOf Yba.f4 [1, 1, 1, 1])) _ _ _
  refine srg ?_
  show wpList _ (opsOf Yba.f4 [1, 1, 1, 0]) _ [opAt Yba.f4 [1, 1, 1, 0] 0] _ _
  refine stAl hK hW (wn rfl) rfl (contactL 0 ByteArray.empty).toArray (fun w => by kernel_rfl) rfl (by decide) fun a w hK hW => ?_
  show Code.wp _ (codeOf Yba.f4 [1, 1, 1, 1]) _ _ _
  show Code.wp _ (.seq (.region _ (opsOf Yba.f4 [1, 1, 1, 1, 0]) false) (codeOf Yba.f4 [1, 1, 1, 1, 1])) _ _ _
  refine srg ?_
  show wpList _ (opsOf Yba.f4 [1, 1, 1, 1, 0]) _ [opAt Yba.f4 [1, 1, 1, 1, 0] 0, opAt Yba.f4 [1, 1, 1, 1, 0] 1, opAt Yba.f4 [1, 1, 1, 1, 0] 2] _ _
  refine stMv hK (wn rfl) rfl rfl rfl (by decide) fun a hK => ?_
  refine stFa hK (wn rfl) rfl rfl 20 (fun b w => by kernel_rfl) rfl (by decide) fun a hK => ?_
  refine stSt hK hW rfl rfl rfl rfl (fun w => by kernel_rfl) rfl rfl rfl (by decide) rfl fun w hW => ?_
  show Code.wp _ (codeOf Yba.f4 [1, 1, 1, 1, 1]) _ _ _
  show Code.wp _ (.seq (.region _ (opsOf Yba.f4 [1, 1, 1, 1, 1, 0]) false) (codeOf Yba.f4 [1, 1, 1, 1, 1, 1])) _ _ _
  refine srg ?_
  show wpList _ (opsOf Yba.f4 [1, 1, 1, 1, 1, 0]) _ [opAt Yba.f4 [1, 1, 1, 1, 1, 0] 0, opAt Yba.f4 [1, 1, 1, 1, 1, 0] 1, opAt Yba.f4 [1, 1, 1, 1, 1, 0] 2, opAt Yba.f4 [1, 1, 1, 1, 1, 0] 3, opAt Yba.f4 [1, 1, 1, 1, 1, 0] 4, opAt Yba.f4 [1, 1, 1, 1, 1, 0] 5, opAt Yba.f4 [1, 1, 1, 1, 1, 0] 6, opAt Yba.f4 [1, 1, 1, 1, 1, 0] 7] _ _
  refine stLr hK (wn rfl) rfl rfl (by rfl) row31 (range_at (hW.get 1 (.cells (contactL 0 s).toArray 31 (0, 0)) rfl)) rfl (by decide) fun a hK => ?_
  refine stMv hK (wn rfl) rfl rfl rfl (by decide) fun a hK => ?_
  refine stIf hK (wn rfl) rfl rfl (by kernel_rfl) rfl (by decide) fun a hK => ?_
  refine stMap hK hW (wn rfl) rfl rfl (by decide) fun a w hK hW => ?_
  refine stMap hK hW (wn rfl) rfl rfl (by decide) fun a w hK hW => ?_
  refine stBuild hK (wn rfl) rfl rfl (build_peer _ _ _ _ _) rfl (by decide) fun a hK => ?_
  refine stBox hK hW (wn rfl) rfl rfl rfl (by decide) fun a w hK hW => ?_
  refine stAs hK (wn rfl) rfl rfl rfl (by decide) fun a hK => ?_
  show Code.wp _ (codeOf Yba.f4 [1, 1, 1, 1, 1, 1]) _ _ _
  show Code.wp _ (.seq (.region _ (opsOf Yba.f4 [1, 1, 1, 1, 1, 1, 0]) false) (codeOf Yba.f4 [1, 1, 1, 1, 1, 1, 1])) _ _ _
  refine srg ?_
  show wpList _ (opsOf Yba.f4 [1, 1, 1, 1, 1, 1, 0]) _ [opAt Yba.f4 [1, 1, 1, 1, 1, 1, 0] 0] _ _
  refine stAl hK hW (wn rfl) rfl #[nilS] (fun w => by kernel_rfl) rfl (by decide) fun a w hK hW => ?_
  show Code.wp _ (codeOf Yba.f4 [1, 1, 1, 1, 1, 1, 1]) _ _ _
  show Code.wp _ (.seq (.region _ (opsOf Yba.f4 [1, 1, 1, 1, 1, 1, 1, 0]) false) (codeOf Yba.f4 [1, 1, 1, 1, 1, 1, 1, 1])) _ _ _
  refine srg ?_
  show wpList _ (opsOf Yba.f4 [1, 1, 1, 1, 1, 1, 1, 0]) _ [opAt Yba.f4 [1, 1, 1, 1, 1, 1, 1, 0] 0] _ _
  refine stAl hK hW (wn rfl) rfl #[nilS] (fun w => by kernel_rfl) rfl (by decide) fun a w hK hW => ?_
  show Code.wp _ (codeOf Yba.f4 [1, 1, 1, 1, 1, 1, 1, 1]) _ _ _
  show Code.wp _ (.seq (.region _ (opsOf Yba.f4 [1, 1, 1, 1, 1, 1, 1, 1, 0]) false) (codeOf Yba.f4 [1, 1, 1, 1, 1, 1, 1, 1, 1])) _ _ _
  refine srg ?_
  show wpList _ (opsOf Yba.f4 [1, 1, 1, 1, 1, 1, 1, 1, 0]) _ [opAt Yba.f4 [1, 1, 1, 1, 1, 1, 1, 1, 0] 0, opAt Yba.f4 [1, 1, 1, 1, 1, 1, 1, 1, 0] 1, opAt Yba.f4 [1, 1, 1, 1, 1, 1, 1, 1, 0] 2, opAt Yba.f4 [1, 1, 1, 1, 1, 1, 1, 1, 0] 3, opAt Yba.f4 [1, 1, 1, 1, 1, 1, 1, 1, 0] 4, opAt Yba.f4 [1, 1, 1, 1, 1, 1, 1, 1, 0] 5] _ _
  refine stFn hK (wn rfl) rfl rfl rfl (by decide) fun a hK => ?_
  refine stFn hK (wn rfl) rfl rfl rfl (by decide) fun a hK => ?_
  refine stMv hK (wn rfl) rfl rfl rfl (by decide) fun a hK => ?_
  refine stBuild hK (wn rfl) rfl rfl ((by kernel_rfl : _ = Result.ok (Value.agg (reqL (w0.heap.size + 5) (w0.heap.size + 6) .nilFunc fst).toArray) _)) rfl (by decide) fun a hK => ?_
  refine stBox hK hW (wn rfl) rfl rfl rfl (by decide) fun a w hK hW => ?_
  refine stAs hK (wn rfl) rfl rfl rfl (by decide) fun a hK => ?_
  show Code.wp _ (codeOf Yba.f4 [1, 1, 1, 1, 1, 1, 1, 1, 1]) _ _ _
  have hK := hK.sub (K1 w0.heap.size s req fst hops found loc ph ah we (.slice ao n c)) (by repeat (first | exact trivial | refine ⟨rfl, ?_⟩))
  have hW := hW.sub (B1 w0.heap.size s fst) (by repeat (first | exact trivial | refine ⟨by kernel_rfl, ?_⟩))
  exact h _ _ hK hW

end Go.Proofs.Ybulkaeqi
