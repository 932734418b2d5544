import Derived.Test.YbulkaevsLawE
namespace Go.Proofs.Ybulkaevs
open Go.RowKit
/-- What newHoldings leaves. -/
def Held0 (w : World) (v : Value) (w' : World) : Prop := ∃ H wm hm, v = ptr H ∧ Fr [] w w' ∧ w'.heap[H]? = some (.cells (holdC 0 wm hm) 48 (0, 0)) ∧ w'.heap[wm]? = some (.map #[] 0) ∧ w'.heap[hm]? = some (.map #[] 0) ∧ wm ≠ hm ∧ w.heap.size ≤ wm ∧ w.heap.size ≤ hm

set_option maxRecDepth 20000 in
theorem new_holdings (w : World) : Calls Yba.prog 4 #[] w fun e w' => ∃ v, e = .returned v ∧ Held0 w v w' := by
  go_enter Yba.func4, Yba.ntmps4
  show Code.wp _ (codeOf Yba.f4 []) _ _ _
  refine Fm.begin 5 [] rfl rfl trivial fun a hK => ?_
  show Code.wp _ (.seq (.region _ (opsOf Yba.f4 [0]) false) (codeOf Yba.f4 [1])) _ _ _
  refine srg ?_
  show wpList _ (opsOf Yba.f4 [0]) _ [opAt Yba.f4 [0] 0] _ _
  refine stAs hK (wn rfl) rfl rfl rfl (by decide) fun a hK => ?_
  show Code.wp _ (codeOf Yba.f4 [1]) _ _ _
  show Code.wp _ (.seq (.region _ (opsOf Yba.f4 [1, 0]) false) .ret) _ _ _
  refine srg ?_
  show wpList _ (opsOf Yba.f4 [1, 0]) _ [opAt Yba.f4 [1, 0] 0, opAt Yba.f4 [1, 0] 1, opAt Yba.f4 [1, 0] 2, opAt Yba.f4 [1, 0] 3, opAt Yba.f4 [1, 0] 4] _ _
  refine st hK (wn rfl) (run_mkMap 45 rfl _) rfl (by decide) fun a hK => ?_
  have f1 : Fr [] w (w.alloc (.map #[] 0)) := (Fr.refl _ _).alloc _
  have h1 : (w.alloc (.map #[] 0)).heap[w.heap.size]? = some (.map #[] 0) := heap_alloc_new _ _
  obtain ⟨W1, e1⟩ : ∃ W1, W1 = w.alloc (.map #[] 0) := ⟨_, rfl⟩
  rw [← e1] at f1 h1 ⊢
  refine st hK (wn rfl) (run_mkMap 46 rfl _) rfl (by decide) fun a hK => ?_
  have f2 : Fr [] W1 (W1.alloc (.map #[] 0)) := (Fr.refl _ _).alloc _
  have h2 : (W1.alloc (.map #[] 0)).heap[W1.heap.size]? = some (.map #[] 0) := heap_alloc_new _ _
  have h12 := f2.keep h1 (by simp)
  have l1 := lt_of_block h1
  have l2 := f1.size
  generalize W1.heap.size = hm at hK h2 l1 l2
  generalize W1.alloc (.map #[] 0) = W2 at f2 h2 h12
  refine stBuild hK (wn rfl) rfl rfl ((by kernel_rfl : _ = Result.ok (Value.agg (holdC 0 w.heap.size hm)) _)) rfl (by decide) fun a hK => ?_
  refine st hK (wn rfl) (run_boxOp 48 _ rfl (holdC 0 w.heap.size hm) (hK.op rfl) _) rfl (by decide) fun a hK => ?_
  refine stAs hK (wn rfl) rfl rfl rfl (by decide) fun a hK => ?_
  have f3 : Fr [] W2 (W2.alloc (.cells (holdC 0 w.heap.size hm) 48)) := (Fr.refl _ _).alloc _
  refine wp_ret ?_
  try dsimp only [Exit.then, Exit.inBlock]
  exact bodyPost_ret (result_of hK rfl rfl _) hK.defers ⟨_, rfl, W2.heap.size, w.heap.size, hm, rfl, (f1.trans f2).trans f3, heap_alloc_new _ _, f3.keep h12 (by simp), f3.keep h2 (by simp), by omega, Nat.le_refl _, l2⟩

set_option maxRecDepth 20000 in
set_option maxHeartbeats 1600000 in
/-- THE LAW. -/
theorem grants_law (idn : Nat) (xs : List Nat) (gl : List Gr) (ra ga : Option Addr) (rc gc : Nat) (w : World) (hr : reqsAt ra xs w) (hg : grantsAt ga gl w) :
    Calls Yba.prog 3 #[.int .u64 idn, .slice ra xs.length rc, .slice ga gl.length gc] w fun e w' => e = .returned (.bool true) ∧ Fr [] w w' := by
  go_enter Yba.func3, Yba.ntmps3
  show Code.wp _ (codeOf Yba.f3 []) _ _ _
  refine Fm.begin 280 [(0, .int .u64 (idn : Nat)), (1, .slice ra xs.length rc), (2, .slice ga gl.length gc)] rfl rfl ⟨rfl, rfl, rfl, trivial⟩ fun a hK => ?_
  have hret : ∀ a W, Fm 280 [(6, .bool true)] a → Fr [] w W → bodyPost Yba.prog Yba.f3 (fun e w' => e = .returned (.bool true) ∧ Fr [] w w') .ret a W := fun a W hK hF => bodyPost_ret (result_of hK rfl rfl _) hK.defers ⟨rfl, hF⟩
  have hP : ∀ c a d v W, bodyPost Yba.prog Yba.f3 (fun e w' => e = .returned (.bool true) ∧ Fr [] w w') (.panic c) (Act.put a d v) W → bodyPost Yba.prog Yba.f3 (fun e w' => e = .returned (.bool true) ∧ Fr [] w w') (.panic c) a W := fun _ _ d _ _ h => by cases d <;> exact h
  generalize bodyPost Yba.prog Yba.f3 (fun e w' => e = .returned (.bool true) ∧ Fr [] w w') = Q at hret hP ⊢
  show Code.wp _ (.seq (.region _ (opsOf Yba.f3 [0]) false) (codeOf Yba.f3 [1])) _ _ _
  refine srg ?_
  show wpList _ (opsOf Yba.f3 [0]) _ [opAt Yba.f3 [0] 0] _ _
  refine stAs hK (wn rfl) rfl rfl rfl (by decide) fun a hK => ?_
  show Code.wp _ (codeOf Yba.f3 [1]) _ _ _
  show Code.wp _ (.seq (.seq (.region _ (opsOf Yba.f3 [1, 0, 0]) false) (codeOf Yba.f3 [1, 0, 1])) (codeOf Yba.f3 [1, 1])) _ _ _
  refine wp_seq (srg ?_)
  show wpList _ (opsOf Yba.f3 [1, 0, 0]) _ [opAt Yba.f3 [1, 0, 0] 0, opAt Yba.f3 [1, 0, 0] 1, opAt Yba.f3 [1, 0, 0] 2, opAt Yba.f3 [1, 0, 0] 3, opAt Yba.f3 [1, 0, 0] 4, opAt Yba.f3 [1, 0, 0] 5, opAt Yba.f3 [1, 0, 0] 6, opAt Yba.f3 [1, 0, 0] 7] _ _
  refine stMv hK (wn rfl) rfl rfl rfl (by decide) fun a hK => ?_
  refine stLenS hK (wn rfl) rfl Yba.underlying23 rfl rfl (by decide) fun a hK => ?_
  by_cases hn1 : 1024 < xs.length
  · refine stBin hK (wn rfl) rfl rfl rfl (i_gt (r := true) (decide_eq_true (by omega))) rfl (by decide) fun a hK => ?_
    refine stMv hK (wn rfl) rfl rfl rfl (by decide) fun a hK => ?_
    refine stSkip hK (hK.wno rfl rfl rfl (by decide)) rfl (by decide) fun a hK => ?_
    refine stSkip hK (hK.wno rfl rfl rfl (by decide)) rfl (by decide) fun a hK => ?_
    refine stSkip hK (hK.wno rfl rfl rfl (by decide)) rfl (by decide) fun a hK => ?_
    refine stPick hK (wn rfl) rfl rfl rfl rfl rfl (by decide) fun a hK => ?_
    show Code.wp _ (.cond (.tmp 44) (.seq (.region _ (opsOf Yba.f3 [1, 0, 1, 2, 0]) false) .ret) .skip) _ _ _
    refine wp_cond_true (hK.op rfl) (srg ?_)
    show wpList _ (opsOf Yba.f3 [1, 0, 1, 2, 0]) _ [opAt Yba.f3 [1, 0, 1, 2, 0] 0] _ _
    refine stAs hK (wn rfl) rfl rfl rfl (by decide) fun a hK => ?_
    exact wp_ret (hret a w (hK.sub _ ⟨rfl, trivial⟩) (Fr.refl _ _))
  refine stBin hK (wn rfl) rfl rfl rfl (i_gt (r := false) (decide_eq_false (by omega))) rfl (by decide) fun a hK => ?_
  refine stMv hK (wn rfl) rfl rfl rfl (by decide) fun a hK => ?_
  refine stMv hK (hK.wy rfl rfl rfl (by decide)) rfl rfl rfl (by decide) fun a hK => ?_
  refine stLenS hK (hK.wy rfl rfl rfl (by decide)) rfl Yba.underlying24 rfl rfl (by decide) fun a hK => ?_
  by_cases hn2 : 1024 < gl.length
  · refine stBin hK (hK.wy rfl rfl rfl (by decide)) rfl rfl rfl (i_gt (r := true) (decide_eq_true (by omega))) rfl (by decide) fun a hK => ?_
    refine stPick hK (wn rfl) rfl rfl rfl rfl rfl (by decide) fun a hK => ?_
    show Code.wp _ (.cond (.tmp 44) (.seq (.region _ (opsOf Yba.f3 [1, 0, 1, 2, 0]) false) .ret) .skip) _ _ _
    refine wp_cond_true (hK.op rfl) (srg ?_)
    show wpList _ (opsOf Yba.f3 [1, 0, 1, 2, 0]) _ [opAt Yba.f3 [1, 0, 1, 2, 0] 0] _ _
    refine stAs hK (wn rfl) rfl rfl rfl (by decide) fun a hK => ?_
    exact wp_ret (hret a w (hK.sub _ ⟨rfl, trivial⟩) (Fr.refl _ _))
  refine stBin hK (hK.wy rfl rfl rfl (by decide)) rfl rfl rfl (i_gt (r := false) (decide_eq_false (by omega))) rfl (by decide) fun a hK => ?_
  refine stPick hK (wn rfl) rfl rfl rfl rfl rfl (by decide) fun a hK => ?_
  show Code.wp _ (.cond (.tmp 44) (codeOf Yba.f3 [1, 0, 1, 2]) .skip) _ _ _
  refine wp_cond_false (hK.op rfl) (wp_skip ?_)
  show Code.wp _ (codeOf Yba.f3 [1, 1]) _ _ _
  show Code.wp _ (.seq (.region _ (opsOf Yba.f3 [1, 1, 0]) false) (codeOf Yba.f3 [1, 1, 1])) _ _ _
  refine srg ?_
  show wpList _ (opsOf Yba.f3 [1, 1, 0]) _ [opAt Yba.f3 [1, 1, 0] 0, opAt Yba.f3 [1, 1, 0] 1, opAt Yba.f3 [1, 1, 0] 2] _ _
  refine stMv hK (wn rfl) rfl rfl rfl (by decide) fun a hK => ?_
  refine stBin hK (wn rfl) rfl rfl rfl (u_rem3) rfl (by decide) fun a hK => ?_
  refine stAs hK (wn rfl) rfl rfl rfl (by decide) fun a hK => ?_
  show Code.wp _ (codeOf Yba.f3 [1, 1, 1]) _ _ _
  generalize idn % 3 = me at hK
  have hK : Fm 280 [(7, .int .u64 (me : Nat)), (0, .int .u64 (idn : Nat)), (1, .slice ra xs.length rc), (2, .slice ga gl.length gc)] a := hK.sub _ (by repeat (first | exact trivial | refine ⟨rfl, ?_⟩))
  show Code.wp _ (.seq (.region _ (opsOf Yba.f3 [1, 1, 1, 0]) false) (codeOf Yba.f3 [1, 1, 1, 1])) _ _ _
  refine srg ?_
  show wpList _ (opsOf Yba.f3 [1, 1, 1, 0]) _ [opAt Yba.f3 [1, 1, 1, 0] 0, opAt Yba.f3 [1, 1, 1, 0] 1] _ _
  refine stCall hK rfl rfl rfl (R := fun v w' => Held0 w v w') (fun w => by kernel_rfl) (new_holdings w) rfl (by decide) fun v a W1 hR hK => ?_
  obtain ⟨H, wm, hm, rfl, f1, hH, hwm, hhm, hwh, l1, l2⟩ := hR
  refine stAs hK (wn rfl) rfl rfl rfl (by decide) fun a hK => ?_
  show Code.wp _ (codeOf Yba.f3 [1, 1, 1, 1]) _ _ _
  show Code.wp _ (.seq (.region _ (opsOf Yba.f3 [1, 1, 1, 1, 0]) false) (codeOf Yba.f3 [1, 1, 1, 1, 1])) _ _ _
  refine srg ?_
  show wpList _ (opsOf Yba.f3 [1, 1, 1, 1, 0]) _ [opAt Yba.f3 [1, 1, 1, 1, 0] 0] _ _
  refine st hK (wn rfl) (run_allocOp 29 rfl (arr8 fun _ => rp none) _ (by kernel_rfl)) rfl (by decide) fun a hK => ?_
  show Code.wp _ (codeOf Yba.f3 [1, 1, 1, 1, 1]) _ _ _
  have f2 : Fr [] W1 (W1.alloc (.cells (arr8 fun _ => rp none) 29)) := (Fr.refl _ _).alloc _
  have h_rs : (W1.alloc (.cells (arr8 fun _ => rp none) 29)).heap[W1.heap.size]? = some (.cells (arr8 fun _ => rp none) 29 (0, 0)) := heap_alloc_new _ _
  have l_rs : w.heap.size ≤ W1.heap.size := f1.size
  generalize W1.heap.size = rs at hK h_rs l_rs
  generalize W1.alloc (.cells (arr8 fun _ => rp none) 29) = W2 at f2 h_rs
  show Code.wp _ (.seq (.region _ (opsOf Yba.f3 [1, 1, 1, 1, 1, 0]) false) (codeOf Yba.f3 [1, 1, 1, 1, 1, 1])) _ _ _
  refine srg ?_
  show wpList _ (opsOf Yba.f3 [1, 1, 1, 1, 1, 0]) _ [opAt Yba.f3 [1, 1, 1, 1, 1, 0] 0] _ _
  refine st hK (wn rfl) (run_allocOp 30 rfl (arr8 fun _ => .bool false) _ (by kernel_rfl)) rfl (by decide) fun a hK => ?_
  show Code.wp _ (codeOf Yba.f3 [1, 1, 1, 1, 1, 1]) _ _ _
  have f3 : Fr [] W2 (W2.alloc (.cells (arr8 fun _ => .bool false) 30)) := (Fr.refl _ _).alloc _
  have h_wt : (W2.alloc (.cells (arr8 fun _ => .bool false) 30)).heap[W2.heap.size]? = some (.cells (arr8 fun _ => .bool false) 30 (0, 0)) := heap_alloc_new _ _
  have l_wt : w.heap.size ≤ W2.heap.size := (f1.trans f2).size
  generalize W2.heap.size = wt at hK h_wt l_wt
  generalize W2.alloc (.cells (arr8 fun _ => .bool false) 30) = W3 at f3 h_wt
  have f23 := f2.trans f3
  have hA : AS w (fun _ => none) H wm hm rs wt W3 := by
    refine ⟨f1.trans f23, ⟨f23.keep hH (by simp), ⟨#[], 0, f23.keep hwm (by simp), ?_⟩, ⟨#[], 0, f23.keep hhm (by simp), SM.nil⟩, (fun k c h => by cases h)⟩, f3.keep h_rs (by simp), h_wt, (fun k k' c h => by cases h), (fun k c h => by cases h), (fun k c h => by cases h)⟩
    have : waitF (fun _ => none) PS.start.got = fun _ => none := by funext k; simp [waitF, PS.start]
    rw [this]; exact UM.nil
  refine a_loop w H wm hm rs wt idn me ⟨l1, l_rs, l_wt⟩ hwh (.slice ga gl.length gc) xs (by omega) ra rc hr hP a W3 (hK.sub _ (by repeat (first | exact trivial | refine ⟨rfl, ?_⟩))) ⟨_, hA⟩ fun a W4 hK hI => ?_
  refine b_all w H wm hm rs wt idn me ⟨l1, l2⟩ hwh gl (by omega) ga gc hg a W4 hK hI fun R L gb a W5 hK hB => ?_
  have e : gl.length = (gl.map cut).length := by simp
  rw [e] at hK
  have hn3 : (gl.map cut).length ≤ 1024 := by simp; omega
  have h8 : ∀ g ∈ gl.map cut, g.k < 8 := by
    intro g hg'
    obtain ⟨g0, _, rfl⟩ := List.mem_map.1 hg'
    exact Nat.mod_lt _ (by decide)
  have hPI := PInv.run (fun k => (R k).isSome) me (gl.map cut)
  refine c_all w W5 R L H wm hm rs wt gb me (gl.map cut) hn3 h8 _ hB a hK fun gt gn gf sm a W6 hK hC => ?_
  refine d_loop w W5 R L H wm hm rs wt gb (gl.map cut) _ hPI gt gn gf sm hP a W6 (hK.sub _ (by repeat (first | exact trivial | refine ⟨rfl, ?_⟩))) ⟨hB.keep hC.fr, hC⟩ fun a W7 hK hI => ?_
  exact e_all w W5 R L H wm hm rs wt gb (gl.map cut) hn3 _ hPI gt gn gf sm hP a W7 (hK.sub _ (by repeat (first | exact trivial | refine ⟨rfl, ?_⟩))) hI hret

end Go.Proofs.Ybulkaevs
