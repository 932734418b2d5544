import Derived.Test.YbulkaeqwDoorEqual
namespace Go.Proofs.YbulkaeqwDoor
open Go.RowKit
theorem lssT {x z : Int} {a b : Operand} {w : World} (h : x < z) : (do eqGuard .lss 3 a b (.int .i64 x) (.int .i64 z); binOp .lss 3 (.int .i64 x) (.int .i64 z) : Sem Value).run Ybad.prog w = .ok (.bool true) w := by rw [int_lss, decide_eq_true h]
theorem lssF {x z : Int} {a b : Operand} {w : World} (h : ¬ x < z) : (do eqGuard .lss 3 a b (.int .i64 x) (.int .i64 z); binOp .lss 3 (.int .i64 x) (.int .i64 z) : Sem Value).run Ybad.prog w = .ok (.bool false) w := by rw [int_lss, decide_eq_false h]
theorem gtrT {x z : Int} {a b : Operand} {w : World} (h : x > z) : (do eqGuard .gtr 3 a b (.int .i64 x) (.int .i64 z); binOp .gtr 3 (.int .i64 x) (.int .i64 z) : Sem Value).run Ybad.prog w = .ok (.bool true) w := by rw [int_gtr, decide_eq_true h]
theorem gtrF {x z : Int} {a b : Operand} {w : World} (h : ¬ x > z) : (do eqGuard .gtr 3 a b (.int .i64 x) (.int .i64 z); binOp .gtr 3 (.int .i64 x) (.int .i64 z) : Sem Value).run Ybad.prog w = .ok (.bool false) w := by rw [int_gtr, decide_eq_false h]
section
variable {P : Program} {n : Nat} {K : List (Nat × Value)} {a : Act} {ops : Array Oper} {rest : List Oper} {o : Oper} {w : World} {Q : Exit → Act → World → Prop} {v : Value}
theorem stStore (hK : Fm n K a) (hg : o.guard = none) {t : TypeId} {x y : Operand} (ho : o.op = .store t x y) {b j : Nat} (hx : lookO K x = some (.pointer (some ⟨b, j, none⟩))) (hy : lookO K y = some v) (hs : ∀ w, (sizeOf t).run P w = .ok 1 w) (hv : v.cells = #[v]) (h1 : v.oneCell' = true)
    {cs : Array Value} {T : TypeId} (hb : w.heap[b]? = some (.cells cs T (0, 0))) (hj : j < cs.size) (hd : o.dst = none) (h : ∀ w', Fr [b] w w' → w'.heap[b]? = some (.cells (cs.setIfInBounds j v) T (0, 0)) → wpList P ops Q rest a w') : wpList P ops Q (o :: rest) a w :=
  wpList_store1 t x y ho hg _ v (hK.op hx) (hK.op hy) hs hv h1 (cs[j]) (by rw [cell_at hb, Array.getElem?_eq_getElem hj]) (free_at hb j) (by rw [hd]; exact h _ ((Fr.refl _ _).setCell _ (by simp) _) (heap_setCell_same _ _ _ _ _ _ hb))
end
def rdr (rv ev : Value) : Obj := .cells #[rv, ev] 29 (0, 0)

set_option maxRecDepth 20000 in
theorem next_err (rb : Nat) (k : Int) (rv : Value) (q : Addr) (w : World) (hr : w.heap[rb]? = some (rdr rv (errV q))) : Calls Ybad.prog 7 #[ptr rb, .int .i64 k] w fun e w' => e = .returned nilS ∧ w' = w := by
  go_enter Ybad.func7, Ybad.ntmps7
  show Code.wp _ (codeOf Ybad.f7 []) _ _ _
  refine Fm.begin 42 [(0, ptr rb), (1, .int .i64 k)] rfl rfl ⟨rfl, rfl, trivial⟩ fun a hK => ?_
  show Code.wp _ (.seq (.region _ (opsOf Ybad.f7 [0]) false) (codeOf Ybad.f7 [1])) _ _ _
  refine srg ?_
  show wpList _ (opsOf Ybad.f7 [0]) _ [opAt Ybad.f7 [0] 0] _ _
  refine stAs hK (wn rfl) rfl rfl rfl (by decide) fun a hK => ?_
  show Code.wp _ (codeOf Ybad.f7 [1]) _ _ _
  show Code.wp _ (.seq (.seq (.region _ (opsOf Ybad.f7 [1, 0, 0]) false) (codeOf Ybad.f7 [1, 0, 1])) (codeOf Ybad.f7 [1, 1])) _ _ _
  refine wp_seq (srg ?_)
  show wpList _ (opsOf Ybad.f7 [1, 0, 0]) _ [opAt Ybad.f7 [1, 0, 0] 0, opAt Ybad.f7 [1, 0, 0] 1, opAt Ybad.f7 [1, 0, 0] 2, opAt Ybad.f7 [1, 0, 0] 3, opAt Ybad.f7 [1, 0, 0] 4] _ _
  refine stMv hK (wn rfl) rfl rfl rfl (by decide) fun a hK => ?_
  refine stNil hK (wn rfl) rfl rfl rfl (by decide) fun a hK => ?_
  refine stFa hK (wn rfl) rfl rfl 1 (fun b w => by kernel_rfl) rfl (by decide) fun a hK => ?_
  refine stLd hK (wn rfl) rfl rfl ((cell_at hr 1).trans (rfl : _ = some (errV q))) (fun w => by kernel_rfl) rfl (by decide) fun a hK => ?_
  refine stBin hK (wn rfl) rfl rfl rfl ((by kernel_rfl : _ = Result.ok (Value.bool true) _)) rfl (by decide) fun a hK => ?_
  show Code.wp _ (.cond (.tmp 10) (codeOf Ybad.f7 [1, 0, 1, 2]) .skip) _ _ _
  refine wp_cond_true (hK.op rfl) ?_
  show Code.wp _ (.seq (.region _ (opsOf Ybad.f7 [1, 0, 1, 2, 0]) false) .ret) _ _ _
  refine srg ?_
  show wpList _ (opsOf Ybad.f7 [1, 0, 1, 2, 0]) _ [opAt Ybad.f7 [1, 0, 1, 2, 0] 0] _ _
  refine stAs hK (wn rfl) rfl rfl rfl (by decide) fun a hK => ?_
  refine wp_ret ?_
  try dsimp only [Exit.then]
  exact bodyPost_ret (result_of hK rfl rfl _) hK.defers ⟨rfl, rfl⟩

set_option maxRecDepth 20000 in
theorem next_short (rb : Nat) (k : Int) (ra : Option Addr) (rl rc : Nat) (q : Addr) (hk : k < 0 ∨ (rl : Int) < k) (w : World) (hr : w.heap[rb]? = some (rdr (.slice ra rl rc) .nilIface)) (hE : w.cell? ⟨0, 0, none⟩ = some (errV q)) :
    Calls Ybad.prog 7 #[ptr rb, .int .i64 k] w fun e w' => e = .returned nilS ∧ Fr [rb] w w' ∧ w'.heap[rb]? = some (rdr (.slice ra rl rc) (errV q)) := by
  go_enter Ybad.func7, Ybad.ntmps7
  show Code.wp _ (codeOf Ybad.f7 []) _ _ _
  refine Fm.begin 42 [(0, ptr rb), (1, .int .i64 k)] rfl rfl ⟨rfl, rfl, trivial⟩ fun a hK => ?_
  show Code.wp _ (.seq (.region _ (opsOf Ybad.f7 [0]) false) (codeOf Ybad.f7 [1])) _ _ _
  refine srg ?_
  show wpList _ (opsOf Ybad.f7 [0]) _ [opAt Ybad.f7 [0] 0] _ _
  refine stAs hK (wn rfl) rfl rfl rfl (by decide) fun a hK => ?_
  show Code.wp _ (codeOf Ybad.f7 [1]) _ _ _
  show Code.wp _ (.seq (.seq (.region _ (opsOf Ybad.f7 [1, 0, 0]) false) (codeOf Ybad.f7 [1, 0, 1])) (codeOf Ybad.f7 [1, 1])) _ _ _
  refine wp_seq (srg ?_)
  show wpList _ (opsOf Ybad.f7 [1, 0, 0]) _ [opAt Ybad.f7 [1, 0, 0] 0, opAt Ybad.f7 [1, 0, 0] 1, opAt Ybad.f7 [1, 0, 0] 2, opAt Ybad.f7 [1, 0, 0] 3, opAt Ybad.f7 [1, 0, 0] 4] _ _
  refine stMv hK (wn rfl) rfl rfl rfl (by decide) fun a hK => ?_
  refine stNil hK (wn rfl) rfl rfl rfl (by decide) fun a hK => ?_
  refine stFa hK (wn rfl) rfl rfl 1 (fun b w => by kernel_rfl) rfl (by decide) fun a hK => ?_
  refine stLd hK (wn rfl) rfl rfl ((cell_at hr 1).trans (rfl : _ = some Value.nilIface)) (fun w => by kernel_rfl) rfl (by decide) fun a hK => ?_
  refine stBin hK (wn rfl) rfl rfl rfl ((by kernel_rfl : _ = Result.ok (Value.bool false) _)) rfl (by decide) fun a hK => ?_
  show Code.wp _ (.cond (.tmp 10) (codeOf Ybad.f7 [1, 0, 1, 2]) .skip) _ _ _
  refine wp_cond_false (hK.op rfl) (wp_skip ?_)
  show Code.wp _ (codeOf Ybad.f7 [1, 1]) _ _ _
  show Code.wp _ (.seq (.seq (.region _ (opsOf Ybad.f7 [1, 1, 0, 0]) false) (codeOf Ybad.f7 [1, 1, 0, 1])) (codeOf Ybad.f7 [1, 1, 1])) _ _ _
  refine wp_seq (srg ?_)
  show wpList _ (opsOf Ybad.f7 [1, 1, 0, 0]) _ [opAt Ybad.f7 [1, 1, 0, 0] 0, opAt Ybad.f7 [1, 1, 0, 0] 1, opAt Ybad.f7 [1, 1, 0, 0] 2, opAt Ybad.f7 [1, 1, 0, 0] 3, opAt Ybad.f7 [1, 1, 0, 0] 4, opAt Ybad.f7 [1, 1, 0, 0] 5, opAt Ybad.f7 [1, 1, 0, 0] 6, opAt Ybad.f7 [1, 1, 0, 0] 7, opAt Ybad.f7 [1, 1, 0, 0] 8, opAt Ybad.f7 [1, 1, 0, 0] 9, opAt Ybad.f7 [1, 1, 0, 0] 10] _ _
  refine stMv hK (wn rfl) rfl rfl rfl (by decide) fun a hK => ?_
  by_cases hneg : k < 0
  · refine stBin hK (wn rfl) rfl rfl rfl (lssT hneg) rfl (by decide) fun a hK => ?_
    refine stMv hK (wn rfl) rfl rfl rfl (by decide) fun a hK => ?_
    refine stSkip hK (hK.wno rfl rfl rfl (by decide)) rfl (by decide) fun a hK => ?_
    refine stSkip hK (hK.wno rfl rfl rfl (by decide)) rfl (by decide) fun a hK => ?_
    refine stSkip hK (hK.wno rfl rfl rfl (by decide)) rfl (by decide) fun a hK => ?_
    refine stSkip hK (hK.wno rfl rfl rfl (by decide)) rfl (by decide) fun a hK => ?_
    refine stSkip hK (hK.wno rfl rfl rfl (by decide)) rfl (by decide) fun a hK => ?_
    refine stSkip hK (hK.wno rfl rfl rfl (by decide)) rfl (by decide) fun a hK => ?_
    refine stSkip hK (hK.wno rfl rfl rfl (by decide)) rfl (by decide) fun a hK => ?_
    refine stPick hK (wn rfl) rfl rfl rfl rfl rfl (by decide) fun a hK => ?_
    show Code.wp _ (.cond (.tmp 21) (codeOf Ybad.f7 [1, 1, 0, 1, 2]) .skip) _ _ _
    refine wp_cond_true (hK.op rfl) ?_
    show Code.wp _ (.seq (.region _ (opsOf Ybad.f7 [1, 1, 0, 1, 2, 0]) false) (codeOf Ybad.f7 [1, 1, 0, 1, 2, 1])) _ _ _
    refine srg ?_
    show wpList _ (opsOf Ybad.f7 [1, 1, 0, 1, 2, 0]) _ [opAt Ybad.f7 [1, 1, 0, 1, 2, 0] 0, opAt Ybad.f7 [1, 1, 0, 1, 2, 0] 1, opAt Ybad.f7 [1, 1, 0, 1, 2, 0] 2, opAt Ybad.f7 [1, 1, 0, 1, 2, 0] 3, opAt Ybad.f7 [1, 1, 0, 1, 2, 0] 4] _ _
    refine stMv hK (wn rfl) rfl rfl rfl (by decide) fun a hK => ?_
    refine stLd hK (wn rfl) rfl rfl (hE) (fun w => by kernel_rfl) rfl (by decide) fun a hK => ?_
    refine stNil hK (wn rfl) rfl rfl rfl (by decide) fun a hK => ?_
    refine stFa hK (wn rfl) rfl rfl 1 (fun b w => by kernel_rfl) rfl (by decide) fun a hK => ?_
    refine stStore hK rfl rfl rfl rfl (fun w => by kernel_rfl) rfl rfl hr (by show 1 < 2; decide) rfl fun w' hF hr' => ?_
    show Code.wp _ (codeOf Ybad.f7 [1, 1, 0, 1, 2, 1]) _ _ _
    show Code.wp _ (.seq (.region _ (opsOf Ybad.f7 [1, 1, 0, 1, 2, 1, 0]) false) .ret) _ _ _
    refine srg ?_
    show wpList _ (opsOf Ybad.f7 [1, 1, 0, 1, 2, 1, 0]) _ [opAt Ybad.f7 [1, 1, 0, 1, 2, 1, 0] 0] _ _
    refine stAs hK (wn rfl) rfl rfl rfl (by decide) fun a hK => ?_
    refine wp_ret ?_
    try dsimp only [Exit.then]
    exact bodyPost_ret (result_of hK rfl rfl _) hK.defers ⟨rfl, hF, hr'⟩
  · refine stBin hK (wn rfl) rfl rfl rfl (lssF hneg) rfl (by decide) fun a hK => ?_
    refine stMv hK (wn rfl) rfl rfl rfl (by decide) fun a hK => ?_
    refine stMv hK (hK.wy rfl rfl rfl (by decide)) rfl rfl rfl (by decide) fun a hK => ?_
    refine stNil hK (hK.wy rfl rfl rfl (by decide)) rfl rfl rfl (by decide) fun a hK => ?_
    refine stFa hK (hK.wy rfl rfl rfl (by decide)) rfl rfl 0 (fun b w => by kernel_rfl) rfl (by decide) fun a hK => ?_
    refine stLd hK (hK.wy rfl rfl rfl (by decide)) rfl rfl ((cell_at hr 0).trans (rfl : _ = some (Value.slice ra rl rc))) (fun w => by kernel_rfl) rfl (by decide) fun a hK => ?_
    refine stLenS hK (hK.wy rfl rfl rfl (by decide)) rfl Ybad.underlying22 rfl rfl (by decide) fun a hK => ?_
    refine stMv hK (hK.wy rfl rfl rfl (by decide)) rfl rfl rfl (by decide) fun a hK => ?_
    refine stBin hK (hK.wy rfl rfl rfl (by decide)) rfl rfl rfl (lssT (by omega)) rfl (by decide) fun a hK => ?_
    refine stPick hK (wn rfl) rfl rfl rfl rfl rfl (by decide) fun a hK => ?_
    show Code.wp _ (.cond (.tmp 21) (codeOf Ybad.f7 [1, 1, 0, 1, 2]) .skip) _ _ _
    refine wp_cond_true (hK.op rfl) ?_
    show Code.wp _ (.seq (.region _ (opsOf Ybad.f7 [1, 1, 0, 1, 2, 0]) false) (codeOf Ybad.f7 [1, 1, 0, 1, 2, 1])) _ _ _
    refine srg ?_
    show wpList _ (opsOf Ybad.f7 [1, 1, 0, 1, 2, 0]) _ [opAt Ybad.f7 [1, 1, 0, 1, 2, 0] 0, opAt Ybad.f7 [1, 1, 0, 1, 2, 0] 1, opAt Ybad.f7 [1, 1, 0, 1, 2, 0] 2, opAt Ybad.f7 [1, 1, 0, 1, 2, 0] 3, opAt Ybad.f7 [1, 1, 0, 1, 2, 0] 4] _ _
    refine stMv hK (wn rfl) rfl rfl rfl (by decide) fun a hK => ?_
    refine stLd hK (wn rfl) rfl rfl (hE) (fun w => by kernel_rfl) rfl (by decide) fun a hK => ?_
    refine stNil hK (wn rfl) rfl rfl rfl (by decide) fun a hK => ?_
    refine stFa hK (wn rfl) rfl rfl 1 (fun b w => by kernel_rfl) rfl (by decide) fun a hK => ?_
    refine stStore hK rfl rfl rfl rfl (fun w => by kernel_rfl) rfl rfl hr (by show 1 < 2; decide) rfl fun w' hF hr' => ?_
    show Code.wp _ (codeOf Ybad.f7 [1, 1, 0, 1, 2, 1]) _ _ _
    show Code.wp _ (.seq (.region _ (opsOf Ybad.f7 [1, 1, 0, 1, 2, 1, 0]) false) .ret) _ _ _
    refine srg ?_
    show wpList _ (opsOf Ybad.f7 [1, 1, 0, 1, 2, 1, 0]) _ [opAt Ybad.f7 [1, 1, 0, 1, 2, 1, 0] 0] _ _
    refine stAs hK (wn rfl) rfl rfl rfl (by decide) fun a hK => ?_
    refine wp_ret ?_
    try dsimp only [Exit.then]
    exact bodyPost_ret (result_of hK rfl rfl _) hK.defers ⟨rfl, hF, hr'⟩

set_option maxRecDepth 20000 in
theorem next_ok (rb k : Nat) (ra : Option Addr) (rl rc : Nat) (hk : k ≤ rl) (hrc : rl ≤ rc) (w : World) (hr : w.heap[rb]? = some (rdr (.slice ra rl rc) .nilIface)) :
    Calls Ybad.prog 7 #[ptr rb, .int .i64 k] w fun e w' => e = .returned (sliced ra 0 k rc 1) ∧ Fr [rb] w w' ∧ w'.heap[rb]? = some (rdr (sliced ra k rl rc 1) .nilIface) := by
  go_enter Ybad.func7, Ybad.ntmps7
  show Code.wp _ (codeOf Ybad.f7 []) _ _ _
  refine Fm.begin 42 [(0, ptr rb), (1, .int .i64 k)] rfl rfl ⟨rfl, rfl, trivial⟩ fun a hK => ?_
  show Code.wp _ (.seq (.region _ (opsOf Ybad.f7 [0]) false) (codeOf Ybad.f7 [1])) _ _ _
  refine srg ?_
  show wpList _ (opsOf Ybad.f7 [0]) _ [opAt Ybad.f7 [0] 0] _ _
  refine stAs hK (wn rfl) rfl rfl rfl (by decide) fun a hK => ?_
  show Code.wp _ (codeOf Ybad.f7 [1]) _ _ _
  show Code.wp _ (.seq (.seq (.region _ (opsOf Ybad.f7 [1, 0, 0]) false) (codeOf Ybad.f7 [1, 0, 1])) (codeOf Ybad.f7 [1, 1])) _ _ _
  refine wp_seq (srg ?_)
  show wpList _ (opsOf Ybad.f7 [1, 0, 0]) _ [opAt Ybad.f7 [1, 0, 0] 0, opAt Ybad.f7 [1, 0, 0] 1, opAt Ybad.f7 [1, 0, 0] 2, opAt Ybad.f7 [1, 0, 0] 3, opAt Ybad.f7 [1, 0, 0] 4] _ _
  refine stMv hK (wn rfl) rfl rfl rfl (by decide) fun a hK => ?_
  refine stNil hK (wn rfl) rfl rfl rfl (by decide) fun a hK => ?_
  refine stFa hK (wn rfl) rfl rfl 1 (fun b w => by kernel_rfl) rfl (by decide) fun a hK => ?_
  refine stLd hK (wn rfl) rfl rfl ((cell_at hr 1).trans (rfl : _ = some Value.nilIface)) (fun w => by kernel_rfl) rfl (by decide) fun a hK => ?_
  refine stBin hK (wn rfl) rfl rfl rfl ((by kernel_rfl : _ = Result.ok (Value.bool false) _)) rfl (by decide) fun a hK => ?_
  show Code.wp _ (.cond (.tmp 10) (codeOf Ybad.f7 [1, 0, 1, 2]) .skip) _ _ _
  refine wp_cond_false (hK.op rfl) (wp_skip ?_)
  show Code.wp _ (codeOf Ybad.f7 [1, 1]) _ _ _
  show Code.wp _ (.seq (.seq (.region _ (opsOf Ybad.f7 [1, 1, 0, 0]) false) (codeOf Ybad.f7 [1, 1, 0, 1])) (codeOf Ybad.f7 [1, 1, 1])) _ _ _
  refine wp_seq (srg ?_)
  show wpList _ (opsOf Ybad.f7 [1, 1, 0, 0]) _ [opAt Ybad.f7 [1, 1, 0, 0] 0, opAt Ybad.f7 [1, 1, 0, 0] 1, opAt Ybad.f7 [1, 1, 0, 0] 2, opAt Ybad.f7 [1, 1, 0, 0] 3, opAt Ybad.f7 [1, 1, 0, 0] 4, opAt Ybad.f7 [1, 1, 0, 0] 5, opAt Ybad.f7 [1, 1, 0, 0] 6, opAt Ybad.f7 [1, 1, 0, 0] 7, opAt Ybad.f7 [1, 1, 0, 0] 8, opAt Ybad.f7 [1, 1, 0, 0] 9, opAt Ybad.f7 [1, 1, 0, 0] 10] _ _
  refine stMv hK (wn rfl) rfl rfl rfl (by decide) fun a hK => ?_
  refine stBin hK (wn rfl) rfl rfl rfl (lssF (by omega)) rfl (by decide) fun a hK => ?_
  refine stMv hK (wn rfl) rfl rfl rfl (by decide) fun a hK => ?_
  refine stMv hK (hK.wy rfl rfl rfl (by decide)) rfl rfl rfl (by decide) fun a hK => ?_
  refine stNil hK (hK.wy rfl rfl rfl (by decide)) rfl rfl rfl (by decide) fun a hK => ?_
  refine stFa hK (hK.wy rfl rfl rfl (by decide)) rfl rfl 0 (fun b w => by kernel_rfl) rfl (by decide) fun a hK => ?_
  refine stLd hK (hK.wy rfl rfl rfl (by decide)) rfl rfl ((cell_at hr 0).trans (rfl : _ = some (Value.slice ra rl rc))) (fun w => by kernel_rfl) rfl (by decide) fun a hK => ?_
  refine stLenS hK (hK.wy rfl rfl rfl (by decide)) rfl Ybad.underlying22 rfl rfl (by decide) fun a hK => ?_
  refine stMv hK (hK.wy rfl rfl rfl (by decide)) rfl rfl rfl (by decide) fun a hK => ?_
  refine stBin hK (hK.wy rfl rfl rfl (by decide)) rfl rfl rfl (lssF (by omega)) rfl (by decide) fun a hK => ?_
  refine stPick hK (wn rfl) rfl rfl rfl rfl rfl (by decide) fun a hK => ?_
  show Code.wp _ (.cond (.tmp 21) (codeOf Ybad.f7 [1, 1, 0, 1, 2]) .skip) _ _ _
  refine wp_cond_false (hK.op rfl) (wp_skip ?_)
  show Code.wp _ (codeOf Ybad.f7 [1, 1, 1]) _ _ _
  show Code.wp _ (.seq (.region _ (opsOf Ybad.f7 [1, 1, 1, 0]) false) (codeOf Ybad.f7 [1, 1, 1, 1])) _ _ _
  refine srg ?_
  show wpList _ (opsOf Ybad.f7 [1, 1, 1, 0]) _ [opAt Ybad.f7 [1, 1, 1, 0] 0, opAt Ybad.f7 [1, 1, 1, 0] 1, opAt Ybad.f7 [1, 1, 1, 0] 2, opAt Ybad.f7 [1, 1, 1, 0] 3, opAt Ybad.f7 [1, 1, 1, 0] 4, opAt Ybad.f7 [1, 1, 1, 0] 5, opAt Ybad.f7 [1, 1, 1, 0] 6] _ _
  refine stMv hK (wn rfl) rfl rfl rfl (by decide) fun a hK => ?_
  refine stNil hK (wn rfl) rfl rfl rfl (by decide) fun a hK => ?_
  refine stFa hK (wn rfl) rfl rfl 0 (fun b w => by kernel_rfl) rfl (by decide) fun a hK => ?_
  refine stLd hK (wn rfl) rfl rfl ((cell_at hr 0).trans (rfl : _ = some (Value.slice ra rl rc))) (fun w => by kernel_rfl) rfl (by decide) fun a hK => ?_
  refine stMv hK (wn rfl) rfl rfl rfl (by decide) fun a hK => ?_
  refine st hK (wn rfl) (run_slH 22 _ _ rfl elem22 size22 ra rl rc k (hK.op rfl) (hK.op rfl) (by omega) _) rfl (by decide) fun a hK => ?_
  refine stAs hK (wn rfl) rfl rfl rfl (by decide) fun a hK => ?_
  show Code.wp _ (codeOf Ybad.f7 [1, 1, 1, 1]) _ _ _
  show Code.wp _ (.seq (.region _ (opsOf Ybad.f7 [1, 1, 1, 1, 0]) false) (codeOf Ybad.f7 [1, 1, 1, 1, 1])) _ _ _
  refine srg ?_
  show wpList _ (opsOf Ybad.f7 [1, 1, 1, 1, 0]) _ [opAt Ybad.f7 [1, 1, 1, 1, 0] 0, opAt Ybad.f7 [1, 1, 1, 1, 0] 1, opAt Ybad.f7 [1, 1, 1, 1, 0] 2, opAt Ybad.f7 [1, 1, 1, 1, 0] 3, opAt Ybad.f7 [1, 1, 1, 1, 0] 4, opAt Ybad.f7 [1, 1, 1, 1, 0] 5, opAt Ybad.f7 [1, 1, 1, 1, 0] 6, opAt Ybad.f7 [1, 1, 1, 1, 0] 7, opAt Ybad.f7 [1, 1, 1, 1, 0] 8, opAt Ybad.f7 [1, 1, 1, 1, 0] 9] _ _
  refine stMv hK (wn rfl) rfl rfl rfl (by decide) fun a hK => ?_
  refine stMv hK (wn rfl) rfl rfl rfl (by decide) fun a hK => ?_
  refine stNil hK (wn rfl) rfl rfl rfl (by decide) fun a hK => ?_
  refine stFa hK (wn rfl) rfl rfl 0 (fun b w => by kernel_rfl) rfl (by decide) fun a hK => ?_
  refine stLd hK (wn rfl) rfl rfl ((cell_at hr 0).trans (rfl : _ = some (Value.slice ra rl rc))) (fun w => by kernel_rfl) rfl (by decide) fun a hK => ?_
  refine stMv hK (wn rfl) rfl rfl rfl (by decide) fun a hK => ?_
  refine st hK (wn rfl) (run_slL 22 _ _ rfl elem22 size22 ra rl rc k (hK.op rfl) (hK.op rfl) hk _) rfl (by decide) fun a hK => ?_
  refine stNil hK (wn rfl) rfl rfl rfl (by decide) fun a hK => ?_
  refine stFa hK (wn rfl) rfl rfl 0 (fun b w => by kernel_rfl) rfl (by decide) fun a hK => ?_
  refine stStore hK rfl rfl rfl rfl (fun w => by kernel_rfl) rfl rfl hr (by show 0 < 2; decide) rfl fun w' hF hr' => ?_
  show Code.wp _ (codeOf Ybad.f7 [1, 1, 1, 1, 1]) _ _ _
  show Code.wp _ (.seq (.region _ (opsOf Ybad.f7 [1, 1, 1, 1, 1, 0]) false) .ret) _ _ _
  refine srg ?_
  show wpList _ (opsOf Ybad.f7 [1, 1, 1, 1, 1, 0]) _ [opAt Ybad.f7 [1, 1, 1, 1, 1, 0] 0, opAt Ybad.f7 [1, 1, 1, 1, 1, 0] 1] _ _
  refine stMv hK (wn rfl) rfl rfl rfl (by decide) fun a hK => ?_
  refine stAs hK (wn rfl) rfl rfl rfl (by decide) fun a hK => ?_
  refine wp_ret ?_
  try dsimp only [Exit.then]
  exact bodyPost_ret (result_of hK rfl rfl _) hK.defers ⟨rfl, hF, hr'⟩

end Go.Proofs.YbulkaeqwDoor
