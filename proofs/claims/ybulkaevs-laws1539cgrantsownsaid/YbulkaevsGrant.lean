import Derived.Test.YbulkaevsKit
namespace Go.Proofs.Ybulkaevs
open Go.RowKit
/-- The cells of 'holdings': the lock's state, its word, last, the two maps. -/
def holdC (b : Int) (wm hm : Nat) : Array Value := #[.int .i32 b, .int .u32 0, .int .u64 0, .map (some wm), .map (some hm)]
def grantC (m k : Nat) (s : ByteArray) (f : Int) : Array Value := #[.int .u64 m, .int .u64 k, .string s, .int .u64 f]
def reqC (n f l e d : Value) : Array Value := #[n, f, l, e, d]
def defU (H : Nat) : List Deferred := [{ target := .fn (.func 8) #[], args := #[ptr H] }]
theorem zero28 (w : World) : (zeroValue 28).run Yba.prog w = .ok (.pointer none) w := by kernel_rfl
theorem setB_size (w : World) (m : Nat) (o : Obj) : (setB w m o).heap.size = w.heap.size := by simp [setB]
/-- The body's end: the deferred Unlock. -/
theorem gr_leave {R : Ending → World → Prop} (H wm hm : Nat) (K : List (Nat × Value)) (a : Act) (W : World) (hK : FmD (defU H) 55 K a) (hH : W.heap[H]? = some (.cells (holdC 1 wm hm) 48 (0, 0)))
    (hR : ∀ W', Fr [H] W W' → W'.heap[H]? = some (.cells (holdC 0 wm hm) 48 (0, 0)) → R (.returned (.tuple #[])) W') : Leaves Yba.prog Yba.f6 a.tmps R a.defers .returning W := by
  rw [hK.defers]
  refine leaves_cons (f := 8) (args := #[ptr H]) (by simp) (by simp [go_sem]) ?_
  refine (Go.MuLone.unlock_deferred muLib ⟨H, 0, none⟩ .returning W ((cell_at hH 0).trans rfl) (free_at hH 0)).mono ?_
  rintro e u' w'' ⟨rfl, rfl, rfl⟩
  exact ⟨_, results_none rfl _ _ _, hR _ ((Fr.refl _ _).setCell _ (by simp) _) (heap_setCell_same _ _ _ _ _ _ hH)⟩

set_option maxRecDepth 20000 in
theorem gr_head {R : Act → World → Prop} (H wm hm m k : Nat) (s : ByteArray) (f : Int) (w : World) (hH : w.heap[H]? = some (.cells (holdC 0 wm hm) 48 (0, 0))) (es : Array MapEntry) (c : Nat) (hWm : w.heap[wm]? = some (.map es c)) (fw : Nat → Option Value) (hU : UM es fw) (a : Act) (hK : Fm 55 [(0, ptr H), (1, .agg (grantC m k s f))] a)
    (hn : ∀ a W, FmD (defU H) 55 [(4, (fw k).getD (.pointer none)), (0, ptr H), (3, ptr w.heap.size)] a → Fr [H] w W → W.heap[H]? = some (.cells (holdC 1 wm hm) 48 (0, 0)) → W.heap[w.heap.size]? = some (.cells (grantC m k s f) 55 (0, 0)) → Code.wp Yba.prog (codeOf Yba.f6 [1, 1, 1, 1]) (Ways R) a W) :
    Code.wp Yba.prog (codeOf Yba.f6 []) (Ways R) a w := by
  have hne : H ≠ wm := ne_of hH hWm (by intro e; cases e)
  have hHs := lt_of_block hH
  have hWs := lt_of_block hWm
  show Code.wp _ (.seq (.region _ (opsOf Yba.f6 [0]) false) (codeOf Yba.f6 [1])) _ _ _
  refine srg ?_
  show wpList _ (opsOf Yba.f6 [0]) _ [opAt Yba.f6 [0] 0] _ _
  refine st hK (wn rfl) (run_boxOp 55 _ rfl (grantC m k s f) (hK.op rfl) _) rfl (by decide) fun a hK => ?_
  show Code.wp _ (codeOf Yba.f6 [1]) _ _ _
  have hF0 : Fr [H] w (w.alloc (.cells (grantC m k s f) 55)) := (Fr.refl _ _).alloc _
  have hH0 := ((Fr.refl [] w).alloc (.cells (grantC m k s f) 55)).keep hH (by simp)
  have hg0 : (w.alloc (.cells (grantC m k s f) 55)).heap[w.heap.size]? = some (.cells (grantC m k s f) 55 (0, 0)) := heap_alloc_new _ _
  generalize w.alloc (.cells (grantC m k s f) 55) = W0 at hF0 hH0 hg0
  show Code.wp _ (.seq (.region _ (opsOf Yba.f6 [1, 0]) false) (codeOf Yba.f6 [1, 1])) _ _ _
  refine srg ?_
  show wpList _ (opsOf Yba.f6 [1, 0]) _ [opAt Yba.f6 [1, 0] 0, opAt Yba.f6 [1, 0] 1, opAt Yba.f6 [1, 0] 2, opAt Yba.f6 [1, 0] 3] _ _
  refine stMv hK (wn rfl) rfl rfl rfl (by decide) fun a hK => ?_
  refine stNil hK (wn rfl) rfl rfl rfl (by decide) fun a hK => ?_
  refine stFa hK (wn rfl) rfl rfl 0 (fun b w => by kernel_rfl) rfl (by decide) fun a hK => ?_
  refine stCall hK rfl rfl rfl (R := fun v w' => v = .tuple #[] ∧ w' = W0.setCell ⟨H, 0, none⟩ (.int .i32 1)) (fun w => by kernel_rfl) ((Go.MuLone.lock_free muLib ⟨H, 0, none⟩ W0 ((cell_at hH0 0).trans rfl) (free_at hH0 0)).mono fun _ _ h => ⟨_, h.1, rfl, h.2⟩) rfl (by decide) fun v a W1 hR hK => ?_
  obtain ⟨rfl, rfl⟩ := hR
  show Code.wp _ (codeOf Yba.f6 [1, 1]) _ _ _
  have hF1 : Fr [H] w (W0.setCell ⟨H, 0, none⟩ (.int .i32 1)) := hF0.setCell _ (by simp) _
  have hH1 : (W0.setCell ⟨H, 0, none⟩ (.int .i32 1)).heap[H]? = some (.cells (holdC 1 wm hm) 48 (0, 0)) := heap_setCell_same _ _ _ _ _ _ hH0
  have hg1 := ((Fr.refl [H] W0).setCell ⟨H, 0, none⟩ (by simp) (.int .i32 1)).keep hg0 (by simp <;> omega)
  generalize W0.setCell ⟨H, 0, none⟩ (.int .i32 1) = W1 at hF1 hH1 hg1
  have hW1 := hF1.keep hWm (by simp <;> omega)
  show Code.wp _ (.seq (.region _ (opsOf Yba.f6 [1, 1, 0]) false) (codeOf Yba.f6 [1, 1, 1])) _ _ _
  refine srg ?_
  show wpList _ (opsOf Yba.f6 [1, 1, 0]) _ [opAt Yba.f6 [1, 1, 0] 0, opAt Yba.f6 [1, 1, 0] 1, opAt Yba.f6 [1, 1, 0] 2, opAt Yba.f6 [1, 1, 0] 3] _ _
  refine stMv hK (wn rfl) rfl rfl rfl (by decide) fun a hK => ?_
  refine stNil hK (wn rfl) rfl rfl rfl (by decide) fun a hK => ?_
  refine stFa hK (wn rfl) rfl rfl 0 (fun b w => by kernel_rfl) rfl (by decide) fun a hK => ?_
  refine stDefer hK rfl rfl rfl rfl fun a hK => ?_
  show Code.wp _ (codeOf Yba.f6 [1, 1, 1]) _ _ _
  show Code.wp _ (.seq (.region _ (opsOf Yba.f6 [1, 1, 1, 0]) true) (codeOf Yba.f6 [1, 1, 1, 1])) _ _ _
  refine wp_seq ?_
  refine wp_region_held (S := fun W => W.heap[H]? = some (.cells (holdC 1 wm hm) 48 (0, 0)) ∧ W.heap[w.heap.size]? = some (.cells (grantC m k s f) 55 (0, 0)) ∧ W.heap[wm]? = some (.map es c)) (by kernel_rfl) ?_
  change wpAnyH _ _ _ _ _ 9 _ _ (World.drew _)
  have hS := (show W1.drew.heap[H]? = some (.cells (holdC 1 wm hm) 48 (0, 0)) ∧ W1.drew.heap[w.heap.size]? = some (.cells (grantC m k s f) 55 (0, 0)) ∧ W1.drew.heap[wm]? = some (.map es c) from ⟨hH1, hg1, hW1⟩)
  refine sdw hK 0 (oi := opAt Yba.f6 [1, 1, 1, 0] 0) rfl (by kernel_rfl) (by kernel_rfl) (by kernel_rfl) (fun _ _ _ _ _ h => h) (wn rfl) (fun W hW => run_mv _ rfl _ (hK.op rfl) W) hS rfl (by decide) fun a hK => ?_
  refine sdw hK 1 (oi := opAt Yba.f6 [1, 1, 1, 0] 1) rfl (by kernel_rfl) (by kernel_rfl) (by kernel_rfl) (fun _ _ _ _ _ h => h) (wn rfl) (fun W hW => run_nilCheck _ rfl _ (hK.op rfl) W) hS rfl (by decide) fun a hK => ?_
  refine sdw hK 2 (oi := opAt Yba.f6 [1, 1, 1, 0] 2) rfl (by kernel_rfl) (by kernel_rfl) (by kernel_rfl) (fun _ _ _ _ _ h => h) (wn rfl) (fun W hW => run_fieldAddr 48 _ 2 rfl ⟨H, 0, none⟩ ⟨H, 3, none⟩ (hK.op rfl) W (by kernel_rfl)) hS rfl (by decide) fun a hK => ?_
  refine sdw hK 3 (oi := opAt Yba.f6 [1, 1, 1, 0] 3) rfl (by kernel_rfl) (by kernel_rfl) (by kernel_rfl) (fun _ _ _ _ _ h => h) (wn rfl) (fun W hW => run_load_one _ _ rfl _ _ (hK.op rfl) W ((cell_at hW.1 3).trans rfl) (by kernel_rfl)) hS rfl (by decide) fun a hK => ?_
  refine sdw hK 4 (oi := opAt Yba.f6 [1, 1, 1, 0] 4) rfl (by kernel_rfl) (by kernel_rfl) (by kernel_rfl) (fun _ _ _ _ _ h => h) (wn rfl) (fun W hW => run_fieldAddr 55 _ 0 rfl ⟨w.heap.size, 0, none⟩ ⟨w.heap.size, 0, none⟩ (hK.op rfl) W (by kernel_rfl)) hS rfl (by decide) fun a hK => ?_
  refine sdw hK 5 (oi := opAt Yba.f6 [1, 1, 1, 0] 5) rfl (by kernel_rfl) (by kernel_rfl) (by kernel_rfl) (fun _ _ _ _ _ h => h) (wn rfl) (fun W hW => run_fieldAddr 53 _ 1 rfl ⟨w.heap.size, 0, none⟩ ⟨w.heap.size, 1, none⟩ (hK.op rfl) W (by kernel_rfl)) hS rfl (by decide) fun a hK => ?_
  refine sdw hK 6 (oi := opAt Yba.f6 [1, 1, 1, 0] 6) rfl (by kernel_rfl) (by kernel_rfl) (by kernel_rfl) (fun _ _ _ _ _ h => h) (wn rfl) (fun W hW => run_load_one _ _ rfl _ _ (hK.op rfl) W ((cell_at hW.2.1 1).trans rfl) (by kernel_rfl)) hS rfl (by decide) fun a hK => ?_
  refine sdw hK 7 (oi := opAt Yba.f6 [1, 1, 1, 0] 7) rfl (by kernel_rfl) (by kernel_rfl) (by kernel_rfl) (fun _ _ _ _ _ h => h) (wn rfl) (fun W hW => run_look 45 _ _ false rfl (hK.op rfl) (hK.op rfl) W (um_look Yba.underlying45 Yba.underlying22 (.pointer none) zero28 hU hW.2.2 k false)) hS rfl (by decide) fun a hK => ?_
  refine sdw hK 8 (oi := opAt Yba.f6 [1, 1, 1, 0] 8) rfl (by kernel_rfl) (by kernel_rfl) (by kernel_rfl) (fun _ _ _ _ _ h => h) (wn rfl) (fun W hW => run_asg _ rfl _ (hK.op rfl) W) hS rfl (by decide) fun a hK => ?_
  refine wpAnyH_done (by kernel_rfl) ?_ _
  show Code.wp _ (codeOf Yba.f6 [1, 1, 1, 1]) _ _ _
  exact hn a W1.drew (hK.sub _ (by repeat (first | exact trivial | refine ⟨rfl, ?_⟩))) hF1.drew hH1 hg1

set_option maxRecDepth 20000 in
/-- A grant to a request that does not wait: nothing is done. -/
theorem gr_miss (H wm hm m k : Nat) (s : ByteArray) (f : Int) (w : World) (hH : w.heap[H]? = some (.cells (holdC 0 wm hm) 48 (0, 0))) (es : Array MapEntry) (c : Nat) (hWm : w.heap[wm]? = some (.map es c)) (fw : Nat → Option Value) (hU : UM es fw) (hk : fw k = none) : Calls Yba.prog 6 #[ptr H, .agg (grantC m k s f)] w fun e w' => e = .returned (.tuple #[]) ∧ Fr [] w w' := by
  go_enter_defers Yba.func6, Yba.ntmps6
  show Code.wp _ (codeOf Yba.f6 []) _ _ _
  refine Fm.begin 55 [(0, ptr H), (1, .agg (grantC m k s f))] rfl rfl ⟨rfl, rfl, trivial⟩ fun a hK => ?_
  refine wp_mono (Q := Ways fun a W => Leaves Yba.prog Yba.f6 a.tmps (fun e w' => e = .returned (.tuple #[]) ∧ Fr [] w w') a.defers .returning W) ?_ (fun e a W h => by cases e <;> first | exact h | exact h.elim)
  refine gr_head H wm hm m k s f w hH es c hWm fw hU a hK fun a W hK hF hHc _ => ?_
  rw [hk] at hK
  show Code.wp _ (.seq (.seq (.region _ (opsOf Yba.f6 [1, 1, 1, 1, 0, 0]) false) (codeOf Yba.f6 [1, 1, 1, 1, 0, 1])) (codeOf Yba.f6 [1, 1, 1, 1, 1])) _ _ _
  refine wp_seq (srg ?_)
  show wpList _ (opsOf Yba.f6 [1, 1, 1, 1, 0, 0]) _ [opAt Yba.f6 [1, 1, 1, 1, 0, 0] 0, opAt Yba.f6 [1, 1, 1, 1, 0, 0] 1] _ _
  refine stMv hK (wn rfl) rfl rfl rfl (by decide) fun a hK => ?_
  refine stBin hK (wn rfl) rfl rfl rfl (p_nil) rfl (by decide) fun a hK => ?_
  show Code.wp _ (.cond (.tmp 22) .ret .skip) _ _ _
  refine wp_cond_true (hK.op rfl) (wp_ret ?_)
  show Leaves _ _ _ _ _ _ _
  refine gr_leave H wm hm _ a W hK hHc fun W' hF' hH' => ⟨rfl, ?_⟩
  exact (hF.andThen hF' (by simp)).drop (hH'.trans hH.symm)

set_option maxRecDepth 20000 in
/-- A grant to a request that waits: it leaves the waiting table, the held table has it, and the request carries it. -/
theorem gr_hit (H wm hm m k : Nat) (s : ByteArray) (f : Int) (w : World) (hH : w.heap[H]? = some (.cells (holdC 0 wm hm) 48 (0, 0))) (es : Array MapEntry) (c : Nat) (hWm : w.heap[wm]? = some (.map es c)) (fw : Nat → Option Value) (hU : UM es fw) (b d : Nat) (hk : fw k = some (ptr b)) (n0 f0 l0 e0 : Value) (hb : w.heap[b]? = some (.cells (reqC n0 f0 l0 e0 (.chan (some d))) 37 (0, 0))) (hd : w.heap[d]? = some chan0) (hs : Array MapEntry) (c' : Nat) (hHm : w.heap[hm]? = some (.map hs c')) (l : List (ByteArray × Value)) (hSM : SM hs l) (hwh : wm ≠ hm) : Calls Yba.prog 6 #[ptr H, .agg (grantC m k s f)] w fun e w' => e = .returned (.tuple #[]) ∧ ∃ L es' d1 hs' d2, w.heap.size ≤ L ∧ Fr [wm, hm, b, d] w w' ∧ w'.heap[wm]? = some (.map es' d1) ∧ UM es' (upd fw k none) ∧ w'.heap[hm]? = some (.map hs' d2) ∧ SM hs' (putA l s (.agg #[.int .u64 k, .chan (some L)])) ∧ w'.heap[b]? = some (.cells (reqC (.string s) (.int .u64 f) (.chan (some L)) e0 (.chan (some d))) 37 (0, 0)) := by
  go_enter_defers Yba.func6, Yba.ntmps6
  show Code.wp _ (codeOf Yba.f6 []) _ _ _
  refine Fm.begin 55 [(0, ptr H), (1, .agg (grantC m k s f))] rfl rfl ⟨rfl, rfl, trivial⟩ fun a hK => ?_
  refine wp_mono (Q := Ways fun a W => Leaves Yba.prog Yba.f6 a.tmps (fun e w' => e = .returned (.tuple #[]) ∧ ∃ L es' d1 hs' d2, w.heap.size ≤ L ∧ Fr [wm, hm, b, d] w w' ∧ w'.heap[wm]? = some (.map es' d1) ∧ UM es' (upd fw k none) ∧ w'.heap[hm]? = some (.map hs' d2) ∧ SM hs' (putA l s (.agg #[.int .u64 k, .chan (some L)])) ∧ w'.heap[b]? = some (.cells (reqC (.string s) (.int .u64 f) (.chan (some L)) e0 (.chan (some d))) 37 (0, 0))) a.defers .returning W) ?_ (fun e a W h => by cases e <;> first | exact h | exact h.elim)
  have h_H_wm : H ≠ wm := ne_of hH hWm (by intro e; cases e)
  have h_H_hm : H ≠ hm := ne_of hH hHm (by intro e; cases e)
  have h_H_d : H ≠ d := ne_of hH hd (by intro e; cases e)
  have h_wm_b : wm ≠ b := ne_of hWm hb (by intro e; cases e)
  have h_hm_b : hm ≠ b := ne_of hHm hb (by intro e; cases e)
  have h_wm_d : wm ≠ d := ne_of hWm hd (by intro e; cases e)
  have h_hm_d : hm ≠ d := ne_of hHm hd (by intro e; cases e)
  have h_b_d : b ≠ d := ne_of hb hd (by intro e; cases e)
  have h_H_b : H ≠ b := ne_of hH hb (by intro e; cases e)
  have l_H := lt_of_block hH
  have l_wm := lt_of_block hWm
  have l_hm := lt_of_block hHm
  have l_b := lt_of_block hb
  have l_d := lt_of_block hd
  refine gr_head H wm hm m k s f w hH es c hWm fw hU a hK fun a W hK hF hHc hg => ?_
  rw [hk] at hK
  have hK : FmD (defU H) 55 [(4, ptr b), (0, ptr H), (3, ptr w.heap.size)] a := hK
  show Code.wp _ (.seq (.seq (.region _ (opsOf Yba.f6 [1, 1, 1, 1, 0, 0]) false) (codeOf Yba.f6 [1, 1, 1, 1, 0, 1])) (codeOf Yba.f6 [1, 1, 1, 1, 1])) _ _ _
  refine wp_seq (srg ?_)
  show wpList _ (opsOf Yba.f6 [1, 1, 1, 1, 0, 0]) _ [opAt Yba.f6 [1, 1, 1, 1, 0, 0] 0, opAt Yba.f6 [1, 1, 1, 1, 0, 0] 1] _ _
  refine stMv hK (wn rfl) rfl rfl rfl (by decide) fun a hK => ?_
  refine stBin hK (wn rfl) rfl rfl rfl (p_some) rfl (by decide) fun a hK => ?_
  show Code.wp _ (.cond (.tmp 22) .ret .skip) _ _ _
  refine wp_cond_false (hK.op rfl) (wp_skip ?_)
  show Code.wp _ (codeOf Yba.f6 [1, 1, 1, 1, 1]) _ _ _
  show Code.wp _ (.seq (.region _ (opsOf Yba.f6 [1, 1, 1, 1, 1, 0]) true) (codeOf Yba.f6 [1, 1, 1, 1, 1, 1])) _ _ _
  refine wp_seq ?_
  refine wp_region_held (S := fun W => W.heap[H]? = some (.cells (holdC 1 wm hm) 48 (0, 0)) ∧ W.heap[w.heap.size]? = some (.cells (grantC m k s f) 55 (0, 0))) (by kernel_rfl) ?_
  change wpAnyH _ _ _ _ _ 8 _ _ (World.drew _)
  have hS := (show W.drew.heap[H]? = some (.cells (holdC 1 wm hm) 48 (0, 0)) ∧ W.drew.heap[w.heap.size]? = some (.cells (grantC m k s f) 55 (0, 0)) from ⟨hHc, hg⟩)
  refine sdw hK 0 (oi := opAt Yba.f6 [1, 1, 1, 1, 1, 0] 0) rfl (by kernel_rfl) (by kernel_rfl) (by kernel_rfl) (fun _ _ _ _ _ h => h) (wn rfl) (fun W hW => run_mv _ rfl _ (hK.op rfl) W) hS rfl (by decide) fun a hK => ?_
  refine sdw hK 1 (oi := opAt Yba.f6 [1, 1, 1, 1, 1, 0] 1) rfl (by kernel_rfl) (by kernel_rfl) (by kernel_rfl) (fun _ _ _ _ _ h => h) (wn rfl) (fun W hW => run_nilCheck _ rfl _ (hK.op rfl) W) hS rfl (by decide) fun a hK => ?_
  refine sdw hK 2 (oi := opAt Yba.f6 [1, 1, 1, 1, 1, 0] 2) rfl (by kernel_rfl) (by kernel_rfl) (by kernel_rfl) (fun _ _ _ _ _ h => h) (wn rfl) (fun W hW => run_fieldAddr 48 _ 2 rfl ⟨H, 0, none⟩ ⟨H, 3, none⟩ (hK.op rfl) W (by kernel_rfl)) hS rfl (by decide) fun a hK => ?_
  refine sdw hK 3 (oi := opAt Yba.f6 [1, 1, 1, 1, 1, 0] 3) rfl (by kernel_rfl) (by kernel_rfl) (by kernel_rfl) (fun _ _ _ _ _ h => h) (wn rfl) (fun W hW => run_load_one _ _ rfl _ _ (hK.op rfl) W ((cell_at hW.1 3).trans rfl) (by kernel_rfl)) hS rfl (by decide) fun a hK => ?_
  refine sdw hK 4 (oi := opAt Yba.f6 [1, 1, 1, 1, 1, 0] 4) rfl (by kernel_rfl) (by kernel_rfl) (by kernel_rfl) (fun _ _ _ _ _ h => h) (wn rfl) (fun W hW => run_fieldAddr 55 _ 0 rfl ⟨w.heap.size, 0, none⟩ ⟨w.heap.size, 0, none⟩ (hK.op rfl) W (by kernel_rfl)) hS rfl (by decide) fun a hK => ?_
  refine sdw hK 5 (oi := opAt Yba.f6 [1, 1, 1, 1, 1, 0] 5) rfl (by kernel_rfl) (by kernel_rfl) (by kernel_rfl) (fun _ _ _ _ _ h => h) (wn rfl) (fun W hW => run_fieldAddr 53 _ 1 rfl ⟨w.heap.size, 0, none⟩ ⟨w.heap.size, 1, none⟩ (hK.op rfl) W (by kernel_rfl)) hS rfl (by decide) fun a hK => ?_
  refine sdw hK 6 (oi := opAt Yba.f6 [1, 1, 1, 1, 1, 0] 6) rfl (by kernel_rfl) (by kernel_rfl) (by kernel_rfl) (fun _ _ _ _ _ h => h) (wn rfl) (fun W hW => run_load_one _ _ rfl _ _ (hK.op rfl) W ((cell_at hW.2 1).trans rfl) (by kernel_rfl)) hS rfl (by decide) fun a hK => ?_
  obtain ⟨es', hdel, hU'⟩ := um_del (ty := (opAt Yba.f6 [1, 1, 1, 1, 1, 0] 7).type) Yba.underlying45 Yba.underlying22 hU (show W.drew.heap[wm]? = some (.map es c) from hF.keep hWm (by simp <;> omega)) k (ptr b) hk
  have f5 : Fr [H, wm] w (setB W.drew wm (.map es' c)) := (hF.drew.mono (by simp)).andThen (fr_setB W.drew wm (.map es' c)) (by simp)
  have h5H := (fr_setB W.drew wm (.map es' c)).keep (show W.drew.heap[H]? = _ from hHc) (by simpa using h_H_wm)
  have h5g := (fr_setB W.drew wm (.map es' c)).keep (show W.drew.heap[w.heap.size]? = _ from hg) (by simp <;> omega)
  have h5w := heap_setB W.drew wm (.map es' c) (lt_of_block (show W.drew.heap[wm]? = some (.map es c) from hF.keep hWm (by simp <;> omega)))
  refine held_oneW (i := 7) (o := opAt Yba.f6 [1, 1, 1, 1, 1, 0] 7) (by kernel_rfl) rfl (wn rfl) ?_
  refine wp_mapDel 45 22 _ _ rfl _ _ _ (hK.op rfl) (hK.op rfl) hdel rfl ⟨⟨h5H, h5g⟩, ?_⟩
  generalize setB W.drew wm (.map es' c) = W5 at f5 h5H h5g h5w
  refine wpAnyH_done (by kernel_rfl) ?_ _
  show Code.wp _ (codeOf Yba.f6 [1, 1, 1, 1, 1, 1]) _ _ _
  have hK : FmD (defU H) 55 [(4, ptr b), (0, ptr H), (3, ptr w.heap.size)] a := hK.sub _ (by repeat (first | exact trivial | refine ⟨rfl, ?_⟩))
  show Code.wp _ (.seq (.region _ (opsOf Yba.f6 [1, 1, 1, 1, 1, 1, 0]) false) (codeOf Yba.f6 [1, 1, 1, 1, 1, 1, 1])) _ _ _
  refine srg ?_
  show wpList _ (opsOf Yba.f6 [1, 1, 1, 1, 1, 1, 0]) _ [opAt Yba.f6 [1, 1, 1, 1, 1, 1, 0] 0, opAt Yba.f6 [1, 1, 1, 1, 1, 1, 0] 1] _ _
  refine st hK (wn rfl) (run_mkChan rfl rfl _) rfl (by decide) fun a hK => ?_
  refine stAs hK (wn rfl) rfl rfl rfl (by decide) fun a hK => ?_
  show Code.wp _ (codeOf Yba.f6 [1, 1, 1, 1, 1, 1, 1]) _ _ _
  have hL : w.heap.size ≤ W5.heap.size := f5.size
  have f6 := f5.alloc chan0
  have g6 := (Fr.refl [] W5).alloc chan0
  have h6H := g6.keep h5H (by simp)
  have h6g := g6.keep h5g (by simp)
  have h6w := g6.keep h5w (by simp)
  generalize hLe : W5.heap.size = L at hK hL
  generalize W5.alloc chan0 = W6 at f6 h6H h6g h6w
  show Code.wp _ (.seq (.region _ (opsOf Yba.f6 [1, 1, 1, 1, 1, 1, 1, 0]) true) (codeOf Yba.f6 [1, 1, 1, 1, 1, 1, 1, 1])) _ _ _
  refine wp_seq ?_
  refine wp_region_held (S := fun W => W.heap[H]? = some (.cells (holdC 1 wm hm) 48 (0, 0)) ∧ W.heap[w.heap.size]? = some (.cells (grantC m k s f) 55 (0, 0))) (by kernel_rfl) ?_
  change wpAnyH _ _ _ _ _ 12 _ _ (World.drew _)
  have hS := (show W6.drew.heap[H]? = some (.cells (holdC 1 wm hm) 48 (0, 0)) ∧ W6.drew.heap[w.heap.size]? = some (.cells (grantC m k s f) 55 (0, 0)) from ⟨h6H, h6g⟩)
  refine sdw hK 0 (oi := opAt Yba.f6 [1, 1, 1, 1, 1, 1, 1, 0] 0) rfl (by kernel_rfl) (by kernel_rfl) (by kernel_rfl) (fun _ _ _ _ _ h => h) (wn rfl) (fun W hW => run_mv _ rfl _ (hK.op rfl) W) hS rfl (by decide) fun a hK => ?_
  refine sdw hK 1 (oi := opAt Yba.f6 [1, 1, 1, 1, 1, 1, 1, 0] 1) rfl (by kernel_rfl) (by kernel_rfl) (by kernel_rfl) (fun _ _ _ _ _ h => h) (wn rfl) (fun W hW => run_nilCheck _ rfl _ (hK.op rfl) W) hS rfl (by decide) fun a hK => ?_
  refine sdw hK 2 (oi := opAt Yba.f6 [1, 1, 1, 1, 1, 1, 1, 0] 2) rfl (by kernel_rfl) (by kernel_rfl) (by kernel_rfl) (fun _ _ _ _ _ h => h) (wn rfl) (fun W hW => run_fieldAddr 48 _ 3 rfl ⟨H, 0, none⟩ ⟨H, 4, none⟩ (hK.op rfl) W (by kernel_rfl)) hS rfl (by decide) fun a hK => ?_
  refine sdw hK 3 (oi := opAt Yba.f6 [1, 1, 1, 1, 1, 1, 1, 0] 3) rfl (by kernel_rfl) (by kernel_rfl) (by kernel_rfl) (fun _ _ _ _ _ h => h) (wn rfl) (fun W hW => run_load_one _ _ rfl _ _ (hK.op rfl) W ((cell_at hW.1 4).trans rfl) (by kernel_rfl)) hS rfl (by decide) fun a hK => ?_
  refine sdw hK 4 (oi := opAt Yba.f6 [1, 1, 1, 1, 1, 1, 1, 0] 4) rfl (by kernel_rfl) (by kernel_rfl) (by kernel_rfl) (fun _ _ _ _ _ h => h) (wn rfl) (fun W hW => run_fieldAddr 55 _ 1 rfl ⟨w.heap.size, 0, none⟩ ⟨w.heap.size, 2, none⟩ (hK.op rfl) W (by kernel_rfl)) hS rfl (by decide) fun a hK => ?_
  refine sdw hK 5 (oi := opAt Yba.f6 [1, 1, 1, 1, 1, 1, 1, 0] 5) rfl (by kernel_rfl) (by kernel_rfl) (by kernel_rfl) (fun _ _ _ _ _ h => h) (wn rfl) (fun W hW => run_load_one _ _ rfl _ _ (hK.op rfl) W ((cell_at hW.2 2).trans rfl) (by kernel_rfl)) hS rfl (by decide) fun a hK => ?_
  refine sdw hK 6 (oi := opAt Yba.f6 [1, 1, 1, 1, 1, 1, 1, 0] 6) rfl (by kernel_rfl) (by kernel_rfl) (by kernel_rfl) (fun _ _ _ _ _ h => h) (wn rfl) (fun W hW => run_fieldAddr 55 _ 0 rfl ⟨w.heap.size, 0, none⟩ ⟨w.heap.size, 0, none⟩ (hK.op rfl) W (by kernel_rfl)) hS rfl (by decide) fun a hK => ?_
  refine sdw hK 7 (oi := opAt Yba.f6 [1, 1, 1, 1, 1, 1, 1, 0] 7) rfl (by kernel_rfl) (by kernel_rfl) (by kernel_rfl) (fun _ _ _ _ _ h => h) (wn rfl) (fun W hW => run_fieldAddr 53 _ 1 rfl ⟨w.heap.size, 0, none⟩ ⟨w.heap.size, 1, none⟩ (hK.op rfl) W (by kernel_rfl)) hS rfl (by decide) fun a hK => ?_
  refine sdw hK 8 (oi := opAt Yba.f6 [1, 1, 1, 1, 1, 1, 1, 0] 8) rfl (by kernel_rfl) (by kernel_rfl) (by kernel_rfl) (fun _ _ _ _ _ h => h) (wn rfl) (fun W hW => run_load_one _ _ rfl _ _ (hK.op rfl) W ((cell_at hW.2 1).trans rfl) (by kernel_rfl)) hS rfl (by decide) fun a hK => ?_
  refine sdw hK 9 (oi := opAt Yba.f6 [1, 1, 1, 1, 1, 1, 1, 0] 9) rfl (by kernel_rfl) (by kernel_rfl) (by kernel_rfl) (fun _ _ _ _ _ h => h) (wn rfl) (fun W hW => run_mv _ rfl _ (hK.op rfl) W) hS rfl (by decide) fun a hK => ?_
  refine sdw hK 10 (oi := opAt Yba.f6 [1, 1, 1, 1, 1, 1, 1, 0] 10) rfl (by kernel_rfl) (by kernel_rfl) (by kernel_rfl) (fun _ _ _ _ _ h => h) (wn rfl) (fun W hW => run_build 112 _ rfl _ (hK.parts rfl) (.agg #[.int .u64 k, .chan (some L)]) W (by kernel_rfl)) hS rfl (by decide) fun a hK => ?_
  obtain ⟨hs', d2, hput, hS'⟩ := sm_put (P := Yba.prog) (w := W6.drew) Yba.underlying46 Yba.underlying9 hSM (show W6.drew.heap[hm]? = some (.map hs c') from f6.keep hHm (by simp <;> omega)) s (.agg #[.int .u64 k, .chan (some L)])
  have f7 : Fr [H, wm, hm] w (setB W6.drew hm (.map hs' d2)) := (f6.drew.mono (by simp <;> omega)).andThen (fr_setB W6.drew hm (.map hs' d2)) (by simp)
  have h7H := (fr_setB W6.drew hm (.map hs' d2)).keep (show W6.drew.heap[H]? = _ from h6H) (by simpa using h_H_hm)
  have h7g := (fr_setB W6.drew hm (.map hs' d2)).keep (show W6.drew.heap[w.heap.size]? = _ from h6g) (by simp <;> omega)
  have h7w := (fr_setB W6.drew hm (.map hs' d2)).keep (show W6.drew.heap[wm]? = _ from h6w) (by simpa using hwh)
  have h7h := heap_setB W6.drew hm (.map hs' d2) (lt_of_block (show W6.drew.heap[hm]? = some (.map hs c') from f6.keep hHm (by simp <;> omega)))
  refine held_oneW (i := 11) (o := opAt Yba.f6 [1, 1, 1, 1, 1, 1, 1, 0] 11) (by kernel_rfl) rfl (wn rfl) ?_
  refine wp_mapPut 46 _ _ _ rfl _ _ _ _ (hK.op rfl) (hK.op rfl) (hK.op rfl) hput rfl ⟨⟨h7H, h7g⟩, ?_⟩
  generalize setB W6.drew hm (.map hs' d2) = W7 at f7 h7H h7g h7w h7h
  refine wpAnyH_done (by kernel_rfl) ?_ _
  show Code.wp _ (codeOf Yba.f6 [1, 1, 1, 1, 1, 1, 1, 1]) _ _ _
  have hK : FmD (defU H) 55 [(4, ptr b), (5, .chan (some L)), (0, ptr H), (3, ptr w.heap.size)] a := hK.sub _ (by repeat (first | exact trivial | refine ⟨rfl, ?_⟩))
  have h7b := f7.keep hb (by simp <;> omega)
  have h7d := f7.keep hd (by simp <;> omega)
  show Code.wp _ (.seq (.region _ (opsOf Yba.f6 [1, 1, 1, 1, 1, 1, 1, 1, 0]) false) (codeOf Yba.f6 [1, 1, 1, 1, 1, 1, 1, 1, 1])) _ _ _
  refine srg ?_
  show wpList _ (opsOf Yba.f6 [1, 1, 1, 1, 1, 1, 1, 1, 0]) _ [opAt Yba.f6 [1, 1, 1, 1, 1, 1, 1, 1, 0] 0, opAt Yba.f6 [1, 1, 1, 1, 1, 1, 1, 1, 0] 1, opAt Yba.f6 [1, 1, 1, 1, 1, 1, 1, 1, 0] 2, opAt Yba.f6 [1, 1, 1, 1, 1, 1, 1, 1, 0] 3, opAt Yba.f6 [1, 1, 1, 1, 1, 1, 1, 1, 0] 4, opAt Yba.f6 [1, 1, 1, 1, 1, 1, 1, 1, 0] 5, opAt Yba.f6 [1, 1, 1, 1, 1, 1, 1, 1, 0] 6, opAt Yba.f6 [1, 1, 1, 1, 1, 1, 1, 1, 0] 7, opAt Yba.f6 [1, 1, 1, 1, 1, 1, 1, 1, 0] 8, opAt Yba.f6 [1, 1, 1, 1, 1, 1, 1, 1, 0] 9] _ _
  refine stMv hK (wn rfl) rfl rfl rfl (by decide) fun a hK => ?_
  refine stFa hK (wn rfl) rfl rfl 2 (fun b w => by kernel_rfl) rfl (by decide) fun a hK => ?_
  refine stLd hK (wn rfl) rfl rfl ((cell_at h7g 2).trans rfl) (fun w => by kernel_rfl) rfl (by decide) fun a hK => ?_
  refine stFa hK (wn rfl) rfl rfl 3 (fun b w => by kernel_rfl) rfl (by decide) fun a hK => ?_
  refine stLd hK (wn rfl) rfl rfl ((cell_at h7g 3).trans rfl) (fun w => by kernel_rfl) rfl (by decide) fun a hK => ?_
  refine stMv hK (wn rfl) rfl rfl rfl (by decide) fun a hK => ?_
  refine stBuild hK (wn rfl) rfl rfl ((by kernel_rfl : _ = Result.ok (Value.agg #[.string s, .int .u64 f, .chan (some L)]) _)) rfl (by decide) fun a hK => ?_
  refine stNil hK (wn rfl) rfl rfl rfl (by decide) fun a hK => ?_
  refine stFa hK (wn rfl) rfl rfl 0 (fun b w => by kernel_rfl) rfl (by decide) fun a hK => ?_
  refine stStore3 hK rfl rfl rfl rfl (by kernel_rfl) rfl rfl rfl h7b (by show 0 + 2 < 5; omega) rfl fun W8 g8 h8b => ?_
  show Code.wp _ (codeOf Yba.f6 [1, 1, 1, 1, 1, 1, 1, 1, 1]) _ _ _
  have f8 : Fr [H, wm, hm, b] w W8 := (f7.mono (by simp <;> omega)).andThen g8 (by simp)
  have h8H := g8.keep h7H (by simpa using h_H_b)
  have h8w := g8.keep h7w (by simpa using h_wm_b)
  have h8h := g8.keep h7h (by simpa using h_hm_b)
  have h8d := g8.keep h7d (by simp <;> omega)
  show Code.wp _ (.region _ (opsOf Yba.f6 [1, 1, 1, 1, 1, 1, 1, 1, 1]) false) _ _ _
  refine wp_region_list ?_
  show wpList _ (opsOf Yba.f6 [1, 1, 1, 1, 1, 1, 1, 1, 1]) _ [opAt Yba.f6 [1, 1, 1, 1, 1, 1, 1, 1, 1] 0, opAt Yba.f6 [1, 1, 1, 1, 1, 1, 1, 1, 1] 1, opAt Yba.f6 [1, 1, 1, 1, 1, 1, 1, 1, 1] 2, opAt Yba.f6 [1, 1, 1, 1, 1, 1, 1, 1, 1] 3, opAt Yba.f6 [1, 1, 1, 1, 1, 1, 1, 1, 1] 4] _ _
  refine stMv hK (wn rfl) rfl rfl rfl (by decide) fun a hK => ?_
  refine stNil hK (wn rfl) rfl rfl rfl (by decide) fun a hK => ?_
  refine stFa hK (wn rfl) rfl rfl 4 (fun b w => by kernel_rfl) rfl (by decide) fun a hK => ?_
  refine stLd hK (wn rfl) rfl rfl ((cell_at h8b 4).trans rfl) (fun w => by kernel_rfl) rfl (by decide) fun a hK => ?_
  refine stClose hK rfl rfl rfl h8d rfl ?_
  have g9 := fr_setB W8 d (.chan 0 #[] true 0 0 false)
  show Leaves _ _ _ _ _ _ _
  refine gr_leave H wm hm _ a _ hK (g9.keep h8H (by simpa using h_H_d)) fun W' gA hA => ⟨rfl, L, es', c, hs', d2, hL, ?_, ?_, hU', ?_, hS', ?_⟩
  · exact ((((f8.mono (l' := [H, wm, hm, b, d]) (by simp <;> omega)).andThen g9 (by simp)).andThen gA (by simp)).drop (hA.trans hH.symm))
  · exact gA.keep (g9.keep h8w (by simpa using h_wm_d)) (by simpa using h_H_wm.symm)
  · exact gA.keep (g9.keep h8h (by simpa using h_hm_d)) (by simpa using h_H_hm.symm)
  · exact gA.keep (g9.keep h8b (by simpa using h_b_d)) (by simpa using h_H_b.symm)

end Go.Proofs.Ybulkaevs
