import Derived.Test.YbulkaeqiAtE
namespace Go.Proofs.Ybulkaeqi
open Go.RowKit
theorem int_add1 {k : Nat} {a b : Operand} {w : World} (h : k < 1000000) : (do eqGuard .add 3 a b (.int .i64 k) (.int .i64 1); binOp .add 3 (.int .i64 k) (.int .i64 1) : Sem Value).run Yba.prog w = .ok (.int .i64 ((k + 1 : Nat) : Int)) w := by
  have : (do eqGuard .add 3 a b (.int .i64 k) (.int .i64 1); binOp .add 3 (.int .i64 k) (.int .i64 1) : Sem Value).run Yba.prog w = .ok (.int .i64 (IntKind.wrap .i64 (k + 1))) w := by kernel_rfl
  rw [this, show IntKind.wrap .i64 ((k : Int) + 1) = ((k + 1 : Nat) : Int) from by rw [IntKind.wrap_i64]; omega]
theorem int_lss {x z : Int} {a b : Operand} {w : World} : (do eqGuard .lss 3 a b (.int .i64 x) (.int .i64 z); binOp .lss 3 (.int .i64 x) (.int .i64 z) : Sem Value).run Yba.prog w = .ok (.bool (decide (x < z))) w := by kernel_rfl
theorem int_neq {x z : Int} {a b : Operand} {w : World} (h : x = z) : (do eqGuard .neq 3 a b (.int .i64 x) (.int .i64 z); binOp .neq 3 (.int .i64 x) (.int .i64 z) : Sem Value).run Yba.prog w = .ok (.bool false) w := by
  subst h
  have : (do eqGuard .neq 3 a b (.int .i64 x) (.int .i64 x); binOp .neq 3 (.int .i64 x) (.int .i64 x) : Sem Value).run Yba.prog w = .ok (.bool (x != x)) w := by kernel_rfl
  rw [this]; simp
section
variable {P : Program} {n : Nat} {K : List (Nat × Value)} {a : Act} {ops : Array Oper} {w : World} {Q : Exit → Act → World → Prop} {v : Value} {d : Nat} {md : Region.Mode} {S : World → Prop} {fuel : Nat} {listed : Array Bool}
/-- One operation that reads, in a region that draws its order. -/
theorem sd (hK : Fm n K a) (i : Nat) {oi : Oper} (hi : ops[i]? = some oi) (hs : Region.noSelect ops = true) (hf : Region.free md ops listed i = true) (hr : (Region.ready md ops listed).contains i = true) (hQ : ∀ c a d v w, Q (.panic c) (Act.put a d v) w → Q (.panic c) a w) (hg : oi.guard = none)
    (hy : ∀ W, S W → (execOp a.eval oi).run P W = .ok (.value v) W) (hS : S w) (hd : oi.dst = some d) (hn : d < n) (h : ∀ a', Fm n ((d, v) :: K) a' → wpAnyH P md ops Q S fuel (listed.setIfInBounds i true) a' w) : wpAnyH P md ops Q S (fuel + 1) listed a w :=
  wpAnyH_take hi hs hf hr (fun _ _ _ h => hQ _ _ _ _ _ h) (Or.inl ⟨wn hg, hy⟩) hS (h _ (by rw [hd]; exact hK.put hn v))
end
def onesAt (L : List Int) (g : Nat) (w : World) : Prop := ∀ j u, (L.map (Value.int .i64))[j]? = some u → w.cell? ⟨g, j, none⟩ = some u

set_option maxRecDepth 20000 in
theorem at_k {Q : Exit → Act → World → Prop} (s : ByteArray) (req fst hops : Int) (found loc ah we : Bool) (path : Value) (a : Act) (N : Nat) (w : World) (L : List Int) (g h cap cap' : Nat) (hK : Fm 184 ((29, .slice (some ⟨h, 0, none⟩) L.length cap') :: K1 N s req fst hops found loc true ah we path) a) (hlog : w.heap[N + 5]? = some (.cells #[.slice (some ⟨g, 0, none⟩) L.length cap] 76 (0, 0)))
    (hn : ∀ a, Fm 184 ((29, .slice (some ⟨h, 0, none⟩) L.length cap') :: K1 N s req fst hops found loc true ah we path) a → Code.wp Yba.prog (codeOf Yba.f4 [1, 1, 1, 1, 1, 1, 1, 1, 1, 1, 1, 1, 1, 1, 1, 1, 1, 1, 1, 1, 1, 1]) Q a w) :
    Code.wp Yba.prog (codeOf Yba.f4 [1, 1, 1, 1, 1, 1, 1, 1, 1, 1, 1, 1, 1, 1, 1, 1, 1, 1, 1, 1, 1]) Q a w := by
  show Code.wp _ (.seq (.seq (.region _ (opsOf Yba.f4 [1, 1, 1, 1, 1, 1, 1, 1, 1, 1, 1, 1, 1, 1, 1, 1, 1, 1, 1, 1, 1, 0, 0]) false) (codeOf Yba.f4 [1, 1, 1, 1, 1, 1, 1, 1, 1, 1, 1, 1, 1, 1, 1, 1, 1, 1, 1, 1, 1, 0, 1])) (codeOf Yba.f4 [1, 1, 1, 1, 1, 1, 1, 1, 1, 1, 1, 1, 1, 1, 1, 1, 1, 1, 1, 1, 1, 1])) _ _ _
  refine wp_seq (srg ?_)
  show wpList _ (opsOf Yba.f4 [1, 1, 1, 1, 1, 1, 1, 1, 1, 1, 1, 1, 1, 1, 1, 1, 1, 1, 1, 1, 1, 0, 0]) _ [opAt Yba.f4 [1, 1, 1, 1, 1, 1, 1, 1, 1, 1, 1, 1, 1, 1, 1, 1, 1, 1, 1, 1, 1, 0, 0] 0, opAt Yba.f4 [1, 1, 1, 1, 1, 1, 1, 1, 1, 1, 1, 1, 1, 1, 1, 1, 1, 1, 1, 1, 1, 0, 0] 1, opAt Yba.f4 [1, 1, 1, 1, 1, 1, 1, 1, 1, 1, 1, 1, 1, 1, 1, 1, 1, 1, 1, 1, 1, 0, 0] 2, opAt Yba.f4 [1, 1, 1, 1, 1, 1, 1, 1, 1, 1, 1, 1, 1, 1, 1, 1, 1, 1, 1, 1, 1, 0, 0] 3, opAt Yba.f4 [1, 1, 1, 1, 1, 1, 1, 1, 1, 1, 1, 1, 1, 1, 1, 1, 1, 1, 1, 1, 1, 0, 0] 4] _ _
  refine stLd hK (wn rfl) rfl rfl ((cell_at hlog 0).trans (rfl : _ = some (Value.slice (some ⟨g, 0, none⟩) L.length cap))) (fun w => by kernel_rfl) rfl (by decide) fun a hK => ?_
  refine stLenS hK (wn rfl) rfl Yba.underlying76 rfl rfl (by decide) fun a hK => ?_
  refine stMv hK (wn rfl) rfl rfl rfl (by decide) fun a hK => ?_
  refine stLenS hK (wn rfl) rfl Yba.underlying76 rfl rfl (by decide) fun a hK => ?_
  refine stBin hK (wn rfl) rfl rfl rfl (int_neq rfl) rfl (by decide) fun a hK => ?_
  show Code.wp _ (.cond (.tmp 124) (codeOf Yba.f4 [1, 1, 1, 1, 1, 1, 1, 1, 1, 1, 1, 1, 1, 1, 1, 1, 1, 1, 1, 1, 1, 0, 1, 2]) .skip) _ _ _
  refine wp_cond_false (hK.op rfl) (wp_skip ?_)
  show Code.wp _ (codeOf Yba.f4 [1, 1, 1, 1, 1, 1, 1, 1, 1, 1, 1, 1, 1, 1, 1, 1, 1, 1, 1, 1, 1, 1]) _ _ _
  have hK := hK.sub ((29, .slice (some ⟨h, 0, none⟩) L.length cap') :: K1 N s req fst hops found loc true ah we path) (by repeat (first | exact trivial | refine ⟨rfl, ?_⟩))
  exact hn _ hK

set_option maxRecDepth 20000 in
set_option maxHeartbeats 800000 in
theorem at_l {Q : Exit → Act → World → Prop} (s : ByteArray) (req fst hops : Int) (found loc ah we : Bool) (path : Value) (a : Act) (N : Nat) (w : World) (L : List Int) (hL : L.length ≤ 10) (g h cap cap' : Nat) (hP : ∀ c a d v w, Q (.panic c) (Act.put a d v) w → Q (.panic c) a w) (hK : Fm 184 ((29, .slice (some ⟨h, 0, none⟩) L.length cap') :: K1 N s req fst hops found loc true ah we path) a) (hlog : w.heap[N + 5]? = some (.cells #[.slice (some ⟨g, 0, none⟩) L.length cap] 76 (0, 0)))
    (hgl : onesAt L g w) (hhl : onesAt L h w) (hgs : g < w.heap.size) (hhs : h < w.heap.size) (hn : ∀ a W, Fm 184 (K1 N s req fst hops found loc true ah we path) a → Fr [] w W → Code.wp Yba.prog (codeOf Yba.f4 [1, 1, 1, 1, 1, 1, 1, 1, 1, 1, 1, 1, 1, 1, 1, 1, 1, 1, 1, 1, 1, 1, 1]) Q a W) :
    Code.wp Yba.prog (codeOf Yba.f4 [1, 1, 1, 1, 1, 1, 1, 1, 1, 1, 1, 1, 1, 1, 1, 1, 1, 1, 1, 1, 1, 1]) Q a w := by
  show Code.wp _ (.seq (.seq (.region _ (opsOf Yba.f4 [1, 1, 1, 1, 1, 1, 1, 1, 1, 1, 1, 1, 1, 1, 1, 1, 1, 1, 1, 1, 1, 1, 0, 0]) false) (.block 0 (.loop (codeOf Yba.f4 [1, 1, 1, 1, 1, 1, 1, 1, 1, 1, 1, 1, 1, 1, 1, 1, 1, 1, 1, 1, 1, 1, 0, 1, 5, 4])))) (codeOf Yba.f4 [1, 1, 1, 1, 1, 1, 1, 1, 1, 1, 1, 1, 1, 1, 1, 1, 1, 1, 1, 1, 1, 1, 1])) _ _ _
  refine wp_seq (srg ?_)
  show wpList _ (opsOf Yba.f4 [1, 1, 1, 1, 1, 1, 1, 1, 1, 1, 1, 1, 1, 1, 1, 1, 1, 1, 1, 1, 1, 1, 0, 0]) _ [opAt Yba.f4 [1, 1, 1, 1, 1, 1, 1, 1, 1, 1, 1, 1, 1, 1, 1, 1, 1, 1, 1, 1, 1, 1, 0, 0] 0] _ _
  refine stAs hK (wn rfl) rfl rfl rfl (by decide) fun a hK => ?_
  show Code.wp _ (.block 0 (.loop (codeOf Yba.f4 [1, 1, 1, 1, 1, 1, 1, 1, 1, 1, 1, 1, 1, 1, 1, 1, 1, 1, 1, 1, 1, 1, 0, 1, 5, 4]))) _ _ _
  refine wp_block (wp_loop (fun a W => ∃ k : Nat, k ≤ L.length ∧ Fm 184 ((30, .int .i64 k) :: (29, .slice (some ⟨h, 0, none⟩) L.length cap') :: K1 N s req fst hops found loc true ah we path) a ∧ Fr [] w W) (fun a _ => L.length - (intOf (a.eval (.tmp 30))).toNat) ⟨0, Nat.zero_le _, hK.sub _ (by repeat (first | exact trivial | refine ⟨rfl, ?_⟩)), Fr.refl _ _⟩ ?_)
  rintro a W ⟨k, hk, hK, hF⟩
  have hkm : (intOf (a.eval (.tmp 30))).toNat = k := by rw [hK.get 30 (.int .i64 k) rfl]; simp [intOf]
  show Code.wp _ (.seq (.seq (.region _ (opsOf Yba.f4 [1, 1, 1, 1, 1, 1, 1, 1, 1, 1, 1, 1, 1, 1, 1, 1, 1, 1, 1, 1, 1, 1, 0, 1, 5, 4, 0, 0]) false) (.cond (.tmp 128) .skip (.exit 0))) (codeOf Yba.f4 [1, 1, 1, 1, 1, 1, 1, 1, 1, 1, 1, 1, 1, 1, 1, 1, 1, 1, 1, 1, 1, 1, 0, 1, 5, 4, 1])) _ _ _
  refine wp_seq (srg ?_)
  show wpList _ (opsOf Yba.f4 [1, 1, 1, 1, 1, 1, 1, 1, 1, 1, 1, 1, 1, 1, 1, 1, 1, 1, 1, 1, 1, 1, 0, 1, 5, 4, 0, 0]) _ [opAt Yba.f4 [1, 1, 1, 1, 1, 1, 1, 1, 1, 1, 1, 1, 1, 1, 1, 1, 1, 1, 1, 1, 1, 1, 0, 1, 5, 4, 0, 0] 0, opAt Yba.f4 [1, 1, 1, 1, 1, 1, 1, 1, 1, 1, 1, 1, 1, 1, 1, 1, 1, 1, 1, 1, 1, 1, 0, 1, 5, 4, 0, 0] 1, opAt Yba.f4 [1, 1, 1, 1, 1, 1, 1, 1, 1, 1, 1, 1, 1, 1, 1, 1, 1, 1, 1, 1, 1, 1, 0, 1, 5, 4, 0, 0] 2, opAt Yba.f4 [1, 1, 1, 1, 1, 1, 1, 1, 1, 1, 1, 1, 1, 1, 1, 1, 1, 1, 1, 1, 1, 1, 0, 1, 5, 4, 0, 0] 3] _ _
  refine stMv hK (wn rfl) rfl rfl rfl (by decide) fun a hK => ?_
  refine stMv hK (wn rfl) rfl rfl rfl (by decide) fun a hK => ?_
  refine stLenS hK (wn rfl) rfl Yba.underlying76 rfl rfl (by decide) fun a hK => ?_
  refine stBin hK (wn rfl) rfl rfl rfl (int_lss) rfl (by decide) fun a hK => ?_
  by_cases hlt : (k : Int) < (L.length : Int)
  · have hlt' : k < L.length := by omega
    obtain ⟨x, hx⟩ : ∃ x, L[k]? = some x := ⟨L[k], List.getElem?_eq_getElem hlt'⟩
    have hx' : (L.map (Value.int .i64))[k]? = some (.int .i64 x) := by rw [List.getElem?_map, hx]; rfl
    refine wp_cond_true ((hK.op rfl).trans (by rw [decide_eq_true hlt])) (wp_skip ?_)
    show Code.wp _ (.seq (.block 1 (.seq (.region _ (opsOf Yba.f4 [1, 1, 1, 1, 1, 1, 1, 1, 1, 1, 1, 1, 1, 1, 1, 1, 1, 1, 1, 1, 1, 1, 0, 1, 5, 4, 1, 0, 5, 0]) true) (codeOf Yba.f4 [1, 1, 1, 1, 1, 1, 1, 1, 1, 1, 1, 1, 1, 1, 1, 1, 1, 1, 1, 1, 1, 1, 0, 1, 5, 4, 1, 0, 5, 1]))) (codeOf Yba.f4 [1, 1, 1, 1, 1, 1, 1, 1, 1, 1, 1, 1, 1, 1, 1, 1, 1, 1, 1, 1, 1, 1, 0, 1, 5, 4, 1, 1])) _ _ _
    refine wp_seq (wp_block (wp_seq ?_))
    refine wp_region_held (S := fun W => W.cell? ⟨N + 5, 0, none⟩ = some (.slice (some ⟨g, 0, none⟩) L.length cap) ∧ W.cell? ⟨g, k, none⟩ = some (.int .i64 x) ∧ W.cell? ⟨h, k, none⟩ = some (.int .i64 x)) (by kernel_rfl) ?_
    change wpAnyH _ _ _ _ _ 9 _ _ (World.drew _)
    have hFD : Fr [] w W.drew := hF.drew
    have hS : W.drew.cell? ⟨N + 5, 0, none⟩ = some (.slice (some ⟨g, 0, none⟩) L.length cap) ∧ W.drew.cell? ⟨g, k, none⟩ = some (.int .i64 x) ∧ W.drew.cell? ⟨h, k, none⟩ = some (.int .i64 x) := ⟨(cell_at (hFD.keep hlog (by simp)) 0).trans rfl, (hFD.cell hgs (by simp)).trans (hgl k _ hx'), (hFD.cell hhs (by simp)).trans (hhl k _ hx')⟩
    refine sd hK 0 (oi := opAt Yba.f4 [1, 1, 1, 1, 1, 1, 1, 1, 1, 1, 1, 1, 1, 1, 1, 1, 1, 1, 1, 1, 1, 1, 0, 1, 5, 4, 1, 0, 5, 0] 0) rfl (by kernel_rfl) (by kernel_rfl) (by kernel_rfl) (fun c a d v w h => hP c a d v w h) rfl (fun W hW => run_load_one _ _ rfl _ _ (hK.op rfl) W (hW.1) (by kernel_rfl)) hS rfl (by decide) fun a hK => ?_
    refine sd hK 1 (oi := opAt Yba.f4 [1, 1, 1, 1, 1, 1, 1, 1, 1, 1, 1, 1, 1, 1, 1, 1, 1, 1, 1, 1, 1, 1, 0, 1, 5, 4, 1, 0, 5, 0] 1) rfl (by kernel_rfl) (by kernel_rfl) (by kernel_rfl) (fun c a d v w h => hP c a d v w h) rfl (fun W hW => run_mv _ rfl _ (hK.op rfl) W) hS rfl (by decide) fun a hK => ?_
    refine sd hK 2 (oi := opAt Yba.f4 [1, 1, 1, 1, 1, 1, 1, 1, 1, 1, 1, 1, 1, 1, 1, 1, 1, 1, 1, 1, 1, 1, 0, 1, 5, 4, 1, 0, 5, 0] 2) rfl (by kernel_rfl) (by kernel_rfl) (by kernel_rfl) (fun c a d v w h => hP c a d v w h) rfl (fun W hW => run_idxS 76 3 _ _ rfl Yba.underlying76 g 0 L.length cap (hK.op rfl) k (hK.op rfl) hlt' 1 (fun w => by kernel_rfl) W) hS rfl (by decide) fun a hK => ?_
    refine sd hK 3 (oi := opAt Yba.f4 [1, 1, 1, 1, 1, 1, 1, 1, 1, 1, 1, 1, 1, 1, 1, 1, 1, 1, 1, 1, 1, 1, 0, 1, 5, 4, 1, 0, 5, 0] 3) rfl (by kernel_rfl) (by kernel_rfl) (by kernel_rfl) (fun c a d v w h => hP c a d v w h) rfl (fun W hW => run_load_one _ _ rfl _ _ (hK.op rfl) W (by rw [Nat.zero_add, Nat.mul_one]; exact hW.2.1) (by kernel_rfl)) hS rfl (by decide) fun a hK => ?_
    refine sd hK 4 (oi := opAt Yba.f4 [1, 1, 1, 1, 1, 1, 1, 1, 1, 1, 1, 1, 1, 1, 1, 1, 1, 1, 1, 1, 1, 1, 0, 1, 5, 4, 1, 0, 5, 0] 4) rfl (by kernel_rfl) (by kernel_rfl) (by kernel_rfl) (fun c a d v w h => hP c a d v w h) rfl (fun W hW => run_mv _ rfl _ (hK.op rfl) W) hS rfl (by decide) fun a hK => ?_
    refine sd hK 5 (oi := opAt Yba.f4 [1, 1, 1, 1, 1, 1, 1, 1, 1, 1, 1, 1, 1, 1, 1, 1, 1, 1, 1, 1, 1, 1, 0, 1, 5, 4, 1, 0, 5, 0] 5) rfl (by kernel_rfl) (by kernel_rfl) (by kernel_rfl) (fun c a d v w h => hP c a d v w h) rfl (fun W hW => run_mv _ rfl _ (hK.op rfl) W) hS rfl (by decide) fun a hK => ?_
    refine sd hK 6 (oi := opAt Yba.f4 [1, 1, 1, 1, 1, 1, 1, 1, 1, 1, 1, 1, 1, 1, 1, 1, 1, 1, 1, 1, 1, 1, 0, 1, 5, 4, 1, 0, 5, 0] 6) rfl (by kernel_rfl) (by kernel_rfl) (by kernel_rfl) (fun c a d v w h => hP c a d v w h) rfl (fun W hW => run_idxS 76 3 _ _ rfl Yba.underlying76 h 0 L.length cap' (hK.op rfl) k (hK.op rfl) hlt' 1 (fun w => by kernel_rfl) W) hS rfl (by decide) fun a hK => ?_
    refine sd hK 7 (oi := opAt Yba.f4 [1, 1, 1, 1, 1, 1, 1, 1, 1, 1, 1, 1, 1, 1, 1, 1, 1, 1, 1, 1, 1, 1, 0, 1, 5, 4, 1, 0, 5, 0] 7) rfl (by kernel_rfl) (by kernel_rfl) (by kernel_rfl) (fun c a d v w h => hP c a d v w h) rfl (fun W hW => run_load_one _ _ rfl _ _ (hK.op rfl) W (by rw [Nat.zero_add, Nat.mul_one]; exact hW.2.2) (by kernel_rfl)) hS rfl (by decide) fun a hK => ?_
    refine sd hK 8 (oi := opAt Yba.f4 [1, 1, 1, 1, 1, 1, 1, 1, 1, 1, 1, 1, 1, 1, 1, 1, 1, 1, 1, 1, 1, 1, 0, 1, 5, 4, 1, 0, 5, 0] 8) rfl (by kernel_rfl) (by kernel_rfl) (by kernel_rfl) (fun c a d v w h => hP c a d v w h) rfl (fun W hW => run_bin .neq 3 _ _ 3 rfl _ _ _ (hK.op rfl) (hK.op rfl) W (int_neq rfl)) hS rfl (by decide) fun a hK => ?_
    refine wpAnyH_done (by kernel_rfl) ?_ _
    show Code.wp _ (.cond (.tmp 139) (codeOf Yba.f4 [1, 1, 1, 1, 1, 1, 1, 1, 1, 1, 1, 1, 1, 1, 1, 1, 1, 1, 1, 1, 1, 1, 0, 1, 5, 4, 1, 0, 5, 1, 2]) .skip) _ _ _
    refine wp_cond_false (hK.op rfl) (wp_skip ?_)
    show Code.wp _ (.region _ (opsOf Yba.f4 [1, 1, 1, 1, 1, 1, 1, 1, 1, 1, 1, 1, 1, 1, 1, 1, 1, 1, 1, 1, 1, 1, 0, 1, 5, 4, 1, 1]) false) _ _ _
    refine wp_region_list ?_
    show wpList _ (opsOf Yba.f4 [1, 1, 1, 1, 1, 1, 1, 1, 1, 1, 1, 1, 1, 1, 1, 1, 1, 1, 1, 1, 1, 1, 0, 1, 5, 4, 1, 1]) _ [opAt Yba.f4 [1, 1, 1, 1, 1, 1, 1, 1, 1, 1, 1, 1, 1, 1, 1, 1, 1, 1, 1, 1, 1, 1, 0, 1, 5, 4, 1, 1] 0, opAt Yba.f4 [1, 1, 1, 1, 1, 1, 1, 1, 1, 1, 1, 1, 1, 1, 1, 1, 1, 1, 1, 1, 1, 1, 0, 1, 5, 4, 1, 1] 1, opAt Yba.f4 [1, 1, 1, 1, 1, 1, 1, 1, 1, 1, 1, 1, 1, 1, 1, 1, 1, 1, 1, 1, 1, 1, 0, 1, 5, 4, 1, 1] 2] _ _
    refine stMv hK (wn rfl) rfl rfl rfl (by decide) fun a hK => ?_
    refine stBin hK (wn rfl) rfl rfl rfl (int_add1 (k := k) (by omega)) rfl (by decide) fun a hK => ?_
    refine stAs hK (wn rfl) rfl rfl rfl (by decide) fun a hK => ?_
    refine ⟨⟨k + 1, hlt', hK.sub _ (by repeat (first | exact trivial | refine ⟨rfl, ?_⟩)), hFD⟩, ?_⟩
    show L.length - (intOf (a.eval (.tmp 30))).toNat < _
    rw [hK.get 30 (.int .i64 ((k + 1 : Nat) : Int)) rfl, hkm]
    simp only [intOf, Int.toNat_natCast]; omega
  · refine wp_cond_false ((hK.op rfl).trans (by rw [decide_eq_false hlt])) (wp_exit ?_)
    show Code.wp _ (codeOf Yba.f4 [1, 1, 1, 1, 1, 1, 1, 1, 1, 1, 1, 1, 1, 1, 1, 1, 1, 1, 1, 1, 1, 1, 1]) _ _ _
    exact hn _ _ (hK.sub _ (by repeat (first | exact trivial | refine ⟨rfl, ?_⟩))) hF

end Go.Proofs.Ybulkaeqi
