import Derived.Test.YbulkaevsFmtInts
namespace Go.Proofs.YbulkaevsFmt
open Go.RowKit Go.Extern.Stop Go.Stop Go.Extern
theorem Fm.begin {P : Program} {c : Code} {Q : Exit → Act → World → Prop} {a : Act} {w : World} (n : Nat) (K : List (Nat × Value)) (h1 : a.tmps.size = n) (h2 : a.defers = []) (h : SubA K a) (g : ∀ a, Fm n K a → Code.wp P c Q a w) : Code.wp P c Q a w := g a (Fm.of h1 h2 h)
theorem result_of {n : Nat} {K : List (Nat × Value)} {a : Act} {fn : Func} {t : Nat} {v : Value} (hK : Fm n K a) (hf : fn.results = #[.tmp t]) (h : look K t = some v) (W : World) : (results fn a.tmps).run Ybaf.prog W = .ok v W := by
  rw [results_tmp hf]
  have := hK.get t v h
  rw [show a.tmps.getD t undef = v from this]
theorem Fm.wnu {n : Nat} {K : List (Nat × Value)} {a : Act} (h : Fm n K a) {ops : Array Oper} {o : Oper} {j d : Nat} {b : Bool} (hg : o.guard = some (j, b)) (hj : (ops[j]?).bind (·.dst) = some d) (hv : look K d = some undef) (hd : d < n) : Region.wanted o (yielded ops a.tmps) = false := by
  have hv' : a.tmps[d]? = some undef := by
    have h1 := h.get d _ hv
    have h2 : d < a.tmps.size := by rw [h.size]; exact hd
    simp [Act.eval, h2] at h1
    rw [Array.getElem?_eq_getElem h2, h1]
  simp [Region.wanted, hg, yielded, hj, hv', undef]
theorem run_idx0 {ρ : Operand → Value} {o : Oper} (x : Operand) (ho : o.op = .indexAddr 22 x (.const (.int .i64 0))) (ad : Addr) (n c : Nat) (hx : ρ x = .slice (some ad) n c) (hi : ρ (.const (.int .i64 0)) = .int .i64 0) (hn : 0 < n) (w : World) : (execOp ρ o).run Ybaf.prog w = .ok (.value (.pointer (some ad))) w := by
  unfold execOp; rw [ho]; dsimp only; rw [hx, hi]
  simp [Instr.indexAt, run_underlying Ybaf.underlying22, go_sem, Addr.add]
  omega

set_option maxRecDepth 20000 in
theorem bad_kind (F : Interp) (q : Addr) (s : ByteArray) (ad : Addr) (n c : Nat) (hn : 0 < n) (hn2 : n ≤ 4194304) (b : Int) (h0b : 0 ≤ b) (w : World) (hF : F.answers w.tape) (hE : w.cell? ⟨0, 0, none⟩ = some (errV q)) (hqA : ∀ o, (w.alloc o).cell? q = some (.string s)) (hb : w.cell? ad = some (.int .u8 b)) (h3 : 3 ≤ b) : Calls Ybaf.prog 6 #[.slice (some ad) n c] w fun e w' => ∃ v, e = .returned v ∧ Wrapped q w v w' := by
  have _used := And.intro hn2 h0b
  go_enter Ybaf.func6, Ybaf.ntmps6
  show Code.wp _ (codeOf Ybaf.f6 []) _ _ _
  refine Fm.begin 56 [(0, .slice (some ad) n c)] rfl rfl ⟨rfl, trivial⟩ fun a hK => ?_
  show Code.wp _ (.seq (.region _ (opsOf Ybaf.f6 [0]) false) (codeOf Ybaf.f6 [1])) _ _ _
  refine srg ?_
  show wpList _ (opsOf Ybaf.f6 [0]) _ [opAt Ybaf.f6 [0] 0] _ _
  refine stAs hK (wn rfl) rfl rfl rfl (by decide) fun a hK => ?_
  show Code.wp _ (codeOf Ybaf.f6 [1]) _ _ _
  show Code.wp _ (.seq (.block 0 (codeOf Ybaf.f6 [1, 0, 5])) (codeOf Ybaf.f6 [1, 1])) _ _ _
  refine wp_seq (wp_block ?_)
  show Code.wp _ (.seq (.region _ (opsOf Ybaf.f6 [1, 0, 5, 0]) false) (.cond (.tmp 3) (.seq (.region _ (opsOf Ybaf.f6 [1, 0, 5, 1, 2, 0]) false) .ret) (codeOf Ybaf.f6 [1, 0, 5, 1, 3]))) _ _ _
  refine srg ?_
  show wpList _ (opsOf Ybaf.f6 [1, 0, 5, 0]) _ [opAt Ybaf.f6 [1, 0, 5, 0] 0, opAt Ybaf.f6 [1, 0, 5, 0] 1, opAt Ybaf.f6 [1, 0, 5, 0] 2, opAt Ybaf.f6 [1, 0, 5, 0] 3, opAt Ybaf.f6 [1, 0, 5, 0] 4, opAt Ybaf.f6 [1, 0, 5, 0] 5, opAt Ybaf.f6 [1, 0, 5, 0] 6, opAt Ybaf.f6 [1, 0, 5, 0] 7, opAt Ybaf.f6 [1, 0, 5, 0] 8, opAt Ybaf.f6 [1, 0, 5, 0] 9] _ _
  refine stMv hK (wn rfl) rfl rfl rfl (by decide) fun a hK => ?_
  refine stLenS hK (wn rfl) rfl Ybaf.underlying22 rfl rfl (by decide) fun a hK => ?_
  refine stBin hK (wn rfl) rfl rfl rfl (int_eq (r := false) (decide_eq_false (by omega))) rfl (by decide) fun a hK => ?_
  refine stMv hK (wn rfl) rfl rfl rfl (by decide) fun a hK => ?_
  refine stMv hK (hK.wy rfl rfl rfl (by decide)) rfl rfl rfl (by decide) fun a hK => ?_
  refine st hK (hK.wy rfl rfl rfl (by decide)) (run_idx0 _ rfl ad n c (hK.op rfl) rfl (by omega) _) rfl (by decide) fun a hK => ?_
  refine stLd hK (hK.wy rfl rfl rfl (by decide)) rfl rfl (hb) (fun w => by kernel_rfl) rfl (by decide) fun a hK => ?_
  refine stBin hK (hK.wy rfl rfl rfl (by decide)) rfl rfl rfl (u8_ge (r := true) (decide_eq_true (by omega))) rfl (by decide) fun a hK => ?_
  refine stPick hK (wn rfl) rfl rfl rfl rfl rfl (by decide) fun a hK => ?_
  refine stAs hK (wn rfl) rfl rfl rfl (by decide) fun a hK => ?_
  refine wp_cond_true (hK.op rfl) (srg ?_)
  show wpList _ (opsOf Ybaf.f6 [1, 0, 5, 1, 2, 0]) _ [opAt Ybaf.f6 [1, 0, 5, 1, 2, 0] 0, opAt Ybaf.f6 [1, 0, 5, 1, 2, 0] 1, opAt Ybaf.f6 [1, 0, 5, 1, 2, 0] 2, opAt Ybaf.f6 [1, 0, 5, 1, 2, 0] 3] _ _
  refine stLd hK (wn rfl) rfl rfl (hE) (fun w => by kernel_rfl) rfl (by decide) fun a hK => ?_
  refine st hK (wn rfl) (run_sl1 _ rfl q (hK.op rfl) _) rfl (by decide) fun a hK => ?_
  refine stCall hK rfl rfl rfl (R := fun v w' => Wrapped q _ v w') (fun w => by kernel_rfl) (errorf1 F q s w.heap.size _ hF ((cell_at (heap_alloc_new _ _) 0).trans rfl) (hqA _)) rfl (by decide) fun v a W' hR hK => ?_
  refine stAs hK (wn rfl) rfl rfl rfl (by decide) fun a hK => ?_
  refine wp_ret ?_
  try dsimp only [Exit.then, Exit.inBlock]
  exact bodyPost_ret (result_of hK rfl rfl _) hK.defers ⟨_, rfl, ((Fr.refl [] w).alloc _).trans hR.1, hR.2⟩

set_option maxRecDepth 20000 in
theorem bad_app (F : Interp) (q : Addr) (s : ByteArray) (ad : Addr) (n c : Nat) (hn : 0 < n) (hn2 : n ≤ 4194304) (b : Int) (h0b : 0 ≤ b) (w : World) (hF : F.answers w.tape) (hE : w.cell? ⟨0, 0, none⟩ = some (errV q)) (hqA : ∀ o, (w.alloc o).cell? q = some (.string s)) (hb : w.cell? ad = some (.int .u8 b)) (h3 : b = 0) (h4 : 1048577 < n) : Calls Ybaf.prog 6 #[.slice (some ad) n c] w fun e w' => ∃ v, e = .returned v ∧ Wrapped q w v w' := by
  have _used := And.intro hn2 (And.intro h0b (And.intro hF (And.intro hE hqA)))
  go_enter Ybaf.func6, Ybaf.ntmps6
  show Code.wp _ (codeOf Ybaf.f6 []) _ _ _
  refine Fm.begin 56 [(0, .slice (some ad) n c)] rfl rfl ⟨rfl, trivial⟩ fun a hK => ?_
  show Code.wp _ (.seq (.region _ (opsOf Ybaf.f6 [0]) false) (codeOf Ybaf.f6 [1])) _ _ _
  refine srg ?_
  show wpList _ (opsOf Ybaf.f6 [0]) _ [opAt Ybaf.f6 [0] 0] _ _
  refine stAs hK (wn rfl) rfl rfl rfl (by decide) fun a hK => ?_
  show Code.wp _ (codeOf Ybaf.f6 [1]) _ _ _
  show Code.wp _ (.seq (.block 0 (codeOf Ybaf.f6 [1, 0, 5])) (codeOf Ybaf.f6 [1, 1])) _ _ _
  refine wp_seq (wp_block ?_)
  show Code.wp _ (.seq (.region _ (opsOf Ybaf.f6 [1, 0, 5, 0]) false) (.cond (.tmp 3) (.seq (.region _ (opsOf Ybaf.f6 [1, 0, 5, 1, 2, 0]) false) .ret) (codeOf Ybaf.f6 [1, 0, 5, 1, 3]))) _ _ _
  refine srg ?_
  show wpList _ (opsOf Ybaf.f6 [1, 0, 5, 0]) _ [opAt Ybaf.f6 [1, 0, 5, 0] 0, opAt Ybaf.f6 [1, 0, 5, 0] 1, opAt Ybaf.f6 [1, 0, 5, 0] 2, opAt Ybaf.f6 [1, 0, 5, 0] 3, opAt Ybaf.f6 [1, 0, 5, 0] 4, opAt Ybaf.f6 [1, 0, 5, 0] 5, opAt Ybaf.f6 [1, 0, 5, 0] 6, opAt Ybaf.f6 [1, 0, 5, 0] 7, opAt Ybaf.f6 [1, 0, 5, 0] 8, opAt Ybaf.f6 [1, 0, 5, 0] 9] _ _
  refine stMv hK (wn rfl) rfl rfl rfl (by decide) fun a hK => ?_
  refine stLenS hK (wn rfl) rfl Ybaf.underlying22 rfl rfl (by decide) fun a hK => ?_
  refine stBin hK (wn rfl) rfl rfl rfl (int_eq (r := false) (decide_eq_false (by omega))) rfl (by decide) fun a hK => ?_
  refine stMv hK (wn rfl) rfl rfl rfl (by decide) fun a hK => ?_
  refine stMv hK (hK.wy rfl rfl rfl (by decide)) rfl rfl rfl (by decide) fun a hK => ?_
  refine st hK (hK.wy rfl rfl rfl (by decide)) (run_idx0 _ rfl ad n c (hK.op rfl) rfl (by omega) _) rfl (by decide) fun a hK => ?_
  refine stLd hK (hK.wy rfl rfl rfl (by decide)) rfl rfl (hb) (fun w => by kernel_rfl) rfl (by decide) fun a hK => ?_
  refine stBin hK (hK.wy rfl rfl rfl (by decide)) rfl rfl rfl (u8_ge (r := false) (decide_eq_false (by omega))) rfl (by decide) fun a hK => ?_
  refine stPick hK (wn rfl) rfl rfl rfl rfl rfl (by decide) fun a hK => ?_
  refine stAs hK (wn rfl) rfl rfl rfl (by decide) fun a hK => ?_
  refine wp_cond_false (hK.op rfl) ?_
  show Code.wp _ (.seq (.region _ (opsOf Ybaf.f6 [1, 0, 5, 1, 3, 0]) false) (.cond (.tmp 16) (.seq (.region _ (opsOf Ybaf.f6 [1, 0, 5, 1, 3, 1, 2, 0]) false) .ret) (.seq (.region _ (opsOf Ybaf.f6 [1, 0, 5, 1, 3, 1, 3, 0]) false) (.cond (.tmp 34) (.seq (.region _ (opsOf Ybaf.f6 [1, 0, 5, 1, 3, 1, 3, 1, 2, 0]) false) .ret) .skip)))) _ _ _
  refine srg ?_
  show wpList _ (opsOf Ybaf.f6 [1, 0, 5, 1, 3, 0]) _ [opAt Ybaf.f6 [1, 0, 5, 1, 3, 0] 0, opAt Ybaf.f6 [1, 0, 5, 1, 3, 0] 1, opAt Ybaf.f6 [1, 0, 5, 1, 3, 0] 2, opAt Ybaf.f6 [1, 0, 5, 1, 3, 0] 3, opAt Ybaf.f6 [1, 0, 5, 1, 3, 0] 4, opAt Ybaf.f6 [1, 0, 5, 1, 3, 0] 5, opAt Ybaf.f6 [1, 0, 5, 1, 3, 0] 6, opAt Ybaf.f6 [1, 0, 5, 1, 3, 0] 7, opAt Ybaf.f6 [1, 0, 5, 1, 3, 0] 8, opAt Ybaf.f6 [1, 0, 5, 1, 3, 0] 9, opAt Ybaf.f6 [1, 0, 5, 1, 3, 0] 10] _ _
  refine stMv hK (wn rfl) rfl rfl rfl (by decide) fun a hK => ?_
  refine st hK (wn rfl) (run_idx0 _ rfl ad n c (hK.op rfl) rfl (by omega) _) rfl (by decide) fun a hK => ?_
  refine stLd hK (wn rfl) rfl rfl (hb) (fun w => by kernel_rfl) rfl (by decide) fun a hK => ?_
  refine stBin hK (wn rfl) rfl rfl rfl (u8_eq (r := true) (decide_eq_true (by omega))) rfl (by decide) fun a hK => ?_
  refine stMv hK (wn rfl) rfl rfl rfl (by decide) fun a hK => ?_
  refine stMv hK (hK.wy rfl rfl rfl (by decide)) rfl rfl rfl (by decide) fun a hK => ?_
  refine stLenS hK (hK.wy rfl rfl rfl (by decide)) rfl Ybaf.underlying22 rfl rfl (by decide) fun a hK => ?_
  refine stBin hK (hK.wy rfl rfl rfl (by decide)) rfl rfl rfl (int_sub (y := (n : Int) - 1) (by omega) (by omega) (by omega)) rfl (by decide) fun a hK => ?_
  refine stBin hK (hK.wy rfl rfl rfl (by decide)) rfl rfl rfl (int_gt (r := true) (decide_eq_true (by omega))) rfl (by decide) fun a hK => ?_
  refine stPick hK (wn rfl) rfl rfl rfl rfl rfl (by decide) fun a hK => ?_
  refine stAs hK (wn rfl) rfl rfl rfl (by decide) fun a hK => ?_
  refine wp_cond_true (hK.op rfl) (srg ?_)
  show wpList _ (opsOf Ybaf.f6 [1, 0, 5, 1, 3, 1, 2, 0]) _ [opAt Ybaf.f6 [1, 0, 5, 1, 3, 1, 2, 0] 0, opAt Ybaf.f6 [1, 0, 5, 1, 3, 1, 2, 0] 1, opAt Ybaf.f6 [1, 0, 5, 1, 3, 1, 2, 0] 2, opAt Ybaf.f6 [1, 0, 5, 1, 3, 1, 2, 0] 3, opAt Ybaf.f6 [1, 0, 5, 1, 3, 1, 2, 0] 4, opAt Ybaf.f6 [1, 0, 5, 1, 3, 1, 2, 0] 5, opAt Ybaf.f6 [1, 0, 5, 1, 3, 1, 2, 0] 6, opAt Ybaf.f6 [1, 0, 5, 1, 3, 1, 2, 0] 7] _ _
  refine stLd hK (wn rfl) rfl rfl (hE) (fun w => by kernel_rfl) rfl (by decide) fun a hK => ?_
  refine stMv hK (wn rfl) rfl rfl rfl (by decide) fun a hK => ?_
  refine stLenS hK (wn rfl) rfl Ybaf.underlying22 rfl rfl (by decide) fun a hK => ?_
  refine stBin hK (wn rfl) rfl rfl rfl (int_sub (y := (n : Int) - 1) (by omega) (by omega) (by omega)) rfl (by decide) fun a hK => ?_
  refine stIf hK (wn rfl) rfl rfl (by kernel_rfl) rfl (by decide) fun a hK => ?_
  refine st hK (wn rfl) (run_sl2 _ _ rfl q _ (hK.op rfl) (hK.op rfl) _) rfl (by decide) fun a hK => ?_
  refine stCall hK rfl rfl rfl (R := fun v w' => Wrapped q _ v w') (fun w => by kernel_rfl) (errorf2 F q s w.heap.size _ _ hF ((cell_at (heap_alloc_new _ _) 0).trans rfl) ((cell_at (heap_alloc_new _ _) 1).trans rfl) (hqA _)) rfl (by decide) fun v a W' hR hK => ?_
  refine stAs hK (wn rfl) rfl rfl rfl (by decide) fun a hK => ?_
  refine wp_ret ?_
  try dsimp only [Exit.then, Exit.inBlock]
  exact bodyPost_ret (result_of hK rfl rfl _) hK.defers ⟨_, rfl, ((Fr.refl [] w).alloc _).trans hR.1, hR.2⟩

set_option maxRecDepth 20000 in
theorem good_app (F : Interp) (q : Addr) (s : ByteArray) (ad : Addr) (n c : Nat) (hn : 0 < n) (hn2 : n ≤ 4194304) (b : Int) (h0b : 0 ≤ b) (w : World) (hF : F.answers w.tape) (hE : w.cell? ⟨0, 0, none⟩ = some (errV q)) (hqA : ∀ o, (w.alloc o).cell? q = some (.string s)) (hb : w.cell? ad = some (.int .u8 b)) (h3 : b = 0) (h4 : n ≤ 1048577) : Calls Ybaf.prog 6 #[.slice (some ad) n c] w fun e w' => e = .returned .nilIface ∧ w' = w := by
  have _used := And.intro hn2 (And.intro h0b (And.intro hF (And.intro hE hqA)))
  go_enter Ybaf.func6, Ybaf.ntmps6
  show Code.wp _ (codeOf Ybaf.f6 []) _ _ _
  refine Fm.begin 56 [(0, .slice (some ad) n c)] rfl rfl ⟨rfl, trivial⟩ fun a hK => ?_
  show Code.wp _ (.seq (.region _ (opsOf Ybaf.f6 [0]) false) (codeOf Ybaf.f6 [1])) _ _ _
  refine srg ?_
  show wpList _ (opsOf Ybaf.f6 [0]) _ [opAt Ybaf.f6 [0] 0] _ _
  refine stAs hK (wn rfl) rfl rfl rfl (by decide) fun a hK => ?_
  show Code.wp _ (codeOf Ybaf.f6 [1]) _ _ _
  show Code.wp _ (.seq (.block 0 (codeOf Ybaf.f6 [1, 0, 5])) (codeOf Ybaf.f6 [1, 1])) _ _ _
  refine wp_seq (wp_block ?_)
  show Code.wp _ (.seq (.region _ (opsOf Ybaf.f6 [1, 0, 5, 0]) false) (.cond (.tmp 3) (.seq (.region _ (opsOf Ybaf.f6 [1, 0, 5, 1, 2, 0]) false) .ret) (codeOf Ybaf.f6 [1, 0, 5, 1, 3]))) _ _ _
  refine srg ?_
  show wpList _ (opsOf Ybaf.f6 [1, 0, 5, 0]) _ [opAt Ybaf.f6 [1, 0, 5, 0] 0, opAt Ybaf.f6 [1, 0, 5, 0] 1, opAt Ybaf.f6 [1, 0, 5, 0] 2, opAt Ybaf.f6 [1, 0, 5, 0] 3, opAt Ybaf.f6 [1, 0, 5, 0] 4, opAt Ybaf.f6 [1, 0, 5, 0] 5, opAt Ybaf.f6 [1, 0, 5, 0] 6, opAt Ybaf.f6 [1, 0, 5, 0] 7, opAt Ybaf.f6 [1, 0, 5, 0] 8, opAt Ybaf.f6 [1, 0, 5, 0] 9] _ _
  refine stMv hK (wn rfl) rfl rfl rfl (by decide) fun a hK => ?_
  refine stLenS hK (wn rfl) rfl Ybaf.underlying22 rfl rfl (by decide) fun a hK => ?_
  refine stBin hK (wn rfl) rfl rfl rfl (int_eq (r := false) (decide_eq_false (by omega))) rfl (by decide) fun a hK => ?_
  refine stMv hK (wn rfl) rfl rfl rfl (by decide) fun a hK => ?_
  refine stMv hK (hK.wy rfl rfl rfl (by decide)) rfl rfl rfl (by decide) fun a hK => ?_
  refine st hK (hK.wy rfl rfl rfl (by decide)) (run_idx0 _ rfl ad n c (hK.op rfl) rfl (by omega) _) rfl (by decide) fun a hK => ?_
  refine stLd hK (hK.wy rfl rfl rfl (by decide)) rfl rfl (hb) (fun w => by kernel_rfl) rfl (by decide) fun a hK => ?_
  refine stBin hK (hK.wy rfl rfl rfl (by decide)) rfl rfl rfl (u8_ge (r := false) (decide_eq_false (by omega))) rfl (by decide) fun a hK => ?_
  refine stPick hK (wn rfl) rfl rfl rfl rfl rfl (by decide) fun a hK => ?_
  refine stAs hK (wn rfl) rfl rfl rfl (by decide) fun a hK => ?_
  refine wp_cond_false (hK.op rfl) ?_
  show Code.wp _ (.seq (.region _ (opsOf Ybaf.f6 [1, 0, 5, 1, 3, 0]) false) (.cond (.tmp 16) (.seq (.region _ (opsOf Ybaf.f6 [1, 0, 5, 1, 3, 1, 2, 0]) false) .ret) (.seq (.region _ (opsOf Ybaf.f6 [1, 0, 5, 1, 3, 1, 3, 0]) false) (.cond (.tmp 34) (.seq (.region _ (opsOf Ybaf.f6 [1, 0, 5, 1, 3, 1, 3, 1, 2, 0]) false) .ret) .skip)))) _ _ _
  refine srg ?_
  show wpList _ (opsOf Ybaf.f6 [1, 0, 5, 1, 3, 0]) _ [opAt Ybaf.f6 [1, 0, 5, 1, 3, 0] 0, opAt Ybaf.f6 [1, 0, 5, 1, 3, 0] 1, opAt Ybaf.f6 [1, 0, 5, 1, 3, 0] 2, opAt Ybaf.f6 [1, 0, 5, 1, 3, 0] 3, opAt Ybaf.f6 [1, 0, 5, 1, 3, 0] 4, opAt Ybaf.f6 [1, 0, 5, 1, 3, 0] 5, opAt Ybaf.f6 [1, 0, 5, 1, 3, 0] 6, opAt Ybaf.f6 [1, 0, 5, 1, 3, 0] 7, opAt Ybaf.f6 [1, 0, 5, 1, 3, 0] 8, opAt Ybaf.f6 [1, 0, 5, 1, 3, 0] 9, opAt Ybaf.f6 [1, 0, 5, 1, 3, 0] 10] _ _
  refine stMv hK (wn rfl) rfl rfl rfl (by decide) fun a hK => ?_
  refine st hK (wn rfl) (run_idx0 _ rfl ad n c (hK.op rfl) rfl (by omega) _) rfl (by decide) fun a hK => ?_
  refine stLd hK (wn rfl) rfl rfl (hb) (fun w => by kernel_rfl) rfl (by decide) fun a hK => ?_
  refine stBin hK (wn rfl) rfl rfl rfl (u8_eq (r := true) (decide_eq_true (by omega))) rfl (by decide) fun a hK => ?_
  refine stMv hK (wn rfl) rfl rfl rfl (by decide) fun a hK => ?_
  refine stMv hK (hK.wy rfl rfl rfl (by decide)) rfl rfl rfl (by decide) fun a hK => ?_
  refine stLenS hK (hK.wy rfl rfl rfl (by decide)) rfl Ybaf.underlying22 rfl rfl (by decide) fun a hK => ?_
  refine stBin hK (hK.wy rfl rfl rfl (by decide)) rfl rfl rfl (int_sub (y := (n : Int) - 1) (by omega) (by omega) (by omega)) rfl (by decide) fun a hK => ?_
  refine stBin hK (hK.wy rfl rfl rfl (by decide)) rfl rfl rfl (int_gt (r := false) (decide_eq_false (by omega))) rfl (by decide) fun a hK => ?_
  refine stPick hK (wn rfl) rfl rfl rfl rfl rfl (by decide) fun a hK => ?_
  refine stAs hK (wn rfl) rfl rfl rfl (by decide) fun a hK => ?_
  refine wp_cond_false (hK.op rfl) (srg ?_)
  show wpList _ (opsOf Ybaf.f6 [1, 0, 5, 1, 3, 1, 3, 0]) _ [opAt Ybaf.f6 [1, 0, 5, 1, 3, 1, 3, 0] 0, opAt Ybaf.f6 [1, 0, 5, 1, 3, 1, 3, 0] 1, opAt Ybaf.f6 [1, 0, 5, 1, 3, 1, 3, 0] 2, opAt Ybaf.f6 [1, 0, 5, 1, 3, 1, 3, 0] 3, opAt Ybaf.f6 [1, 0, 5, 1, 3, 1, 3, 0] 4, opAt Ybaf.f6 [1, 0, 5, 1, 3, 1, 3, 0] 5, opAt Ybaf.f6 [1, 0, 5, 1, 3, 1, 3, 0] 6, opAt Ybaf.f6 [1, 0, 5, 1, 3, 1, 3, 0] 7, opAt Ybaf.f6 [1, 0, 5, 1, 3, 1, 3, 0] 8, opAt Ybaf.f6 [1, 0, 5, 1, 3, 1, 3, 0] 9, opAt Ybaf.f6 [1, 0, 5, 1, 3, 1, 3, 0] 10, opAt Ybaf.f6 [1, 0, 5, 1, 3, 1, 3, 0] 11, opAt Ybaf.f6 [1, 0, 5, 1, 3, 1, 3, 0] 12, opAt Ybaf.f6 [1, 0, 5, 1, 3, 1, 3, 0] 13, opAt Ybaf.f6 [1, 0, 5, 1, 3, 1, 3, 0] 14, opAt Ybaf.f6 [1, 0, 5, 1, 3, 1, 3, 0] 15] _ _
  refine stMv hK (wn rfl) rfl rfl rfl (by decide) fun a hK => ?_
  refine st hK (wn rfl) (run_idx0 _ rfl ad n c (hK.op rfl) rfl (by omega) _) rfl (by decide) fun a hK => ?_
  refine stLd hK (wn rfl) rfl rfl (hb) (fun w => by kernel_rfl) rfl (by decide) fun a hK => ?_
  refine stBin hK (wn rfl) rfl rfl rfl (u8_ne (r := false) (decide_eq_false (by omega))) rfl (by decide) fun a hK => ?_
  refine stMv hK (wn rfl) rfl rfl rfl (by decide) fun a hK => ?_
  refine stSkip hK (hK.wno rfl rfl rfl (by decide)) rfl (by decide) fun a hK => ?_
  refine stSkip hK (hK.wno rfl rfl rfl (by decide)) rfl (by decide) fun a hK => ?_
  refine stSkip hK (hK.wno rfl rfl rfl (by decide)) rfl (by decide) fun a hK => ?_
  refine stSkip hK (hK.wno rfl rfl rfl (by decide)) rfl (by decide) fun a hK => ?_
  refine stSkip hK (hK.wnu rfl rfl rfl (by decide)) rfl (by decide) fun a hK => ?_
  refine stSkip hK (hK.wnu rfl rfl rfl (by decide)) rfl (by decide) fun a hK => ?_
  refine stSkip hK (hK.wnu rfl rfl rfl (by decide)) rfl (by decide) fun a hK => ?_
  refine stSkip hK (hK.wnu rfl rfl rfl (by decide)) rfl (by decide) fun a hK => ?_
  refine stSkip hK (hK.wno rfl rfl rfl (by decide)) rfl (by decide) fun a hK => ?_
  refine stPick hK (wn rfl) rfl rfl rfl rfl rfl (by decide) fun a hK => ?_
  refine stAs hK (wn rfl) rfl rfl rfl (by decide) fun a hK => ?_
  refine wp_cond_false (hK.op rfl) (wp_skip ?_)
  show Code.wp _ (.seq (.region _ (opsOf Ybaf.f6 [1, 1, 0]) false) .ret) _ _ _
  refine srg ?_
  show wpList _ (opsOf Ybaf.f6 [1, 1, 0]) _ [opAt Ybaf.f6 [1, 1, 0] 0] _ _
  refine stAs hK (wn rfl) rfl rfl rfl (by decide) fun a hK => ?_
  refine wp_ret ?_
  try dsimp only [Exit.then, Exit.inBlock]
  exact bodyPost_ret (result_of hK rfl rfl _) hK.defers ⟨rfl, rfl⟩

set_option maxRecDepth 20000 in
theorem bad_small (F : Interp) (q : Addr) (s : ByteArray) (ad : Addr) (n c : Nat) (hn : 0 < n) (hn2 : n ≤ 4194304) (b : Int) (h0b : 0 ≤ b) (w : World) (hF : F.answers w.tape) (hE : w.cell? ⟨0, 0, none⟩ = some (errV q)) (hqA : ∀ o, (w.alloc o).cell? q = some (.string s)) (hb : w.cell? ad = some (.int .u8 b)) (h3 : b = 1 ∨ b = 2) (h4 : n < 9) : Calls Ybaf.prog 6 #[.slice (some ad) n c] w fun e w' => ∃ v, e = .returned v ∧ Wrapped q w v w' := by
  have _used := And.intro hn2 (And.intro h0b (And.intro hF (And.intro hE hqA)))
  go_enter Ybaf.func6, Ybaf.ntmps6
  show Code.wp _ (codeOf Ybaf.f6 []) _ _ _
  refine Fm.begin 56 [(0, .slice (some ad) n c)] rfl rfl ⟨rfl, trivial⟩ fun a hK => ?_
  show Code.wp _ (.seq (.region _ (opsOf Ybaf.f6 [0]) false) (codeOf Ybaf.f6 [1])) _ _ _
  refine srg ?_
  show wpList _ (opsOf Ybaf.f6 [0]) _ [opAt Ybaf.f6 [0] 0] _ _
  refine stAs hK (wn rfl) rfl rfl rfl (by decide) fun a hK => ?_
  show Code.wp _ (codeOf Ybaf.f6 [1]) _ _ _
  show Code.wp _ (.seq (.block 0 (codeOf Ybaf.f6 [1, 0, 5])) (codeOf Ybaf.f6 [1, 1])) _ _ _
  refine wp_seq (wp_block ?_)
  show Code.wp _ (.seq (.region _ (opsOf Ybaf.f6 [1, 0, 5, 0]) false) (.cond (.tmp 3) (.seq (.region _ (opsOf Ybaf.f6 [1, 0, 5, 1, 2, 0]) false) .ret) (codeOf Ybaf.f6 [1, 0, 5, 1, 3]))) _ _ _
  refine srg ?_
  show wpList _ (opsOf Ybaf.f6 [1, 0, 5, 0]) _ [opAt Ybaf.f6 [1, 0, 5, 0] 0, opAt Ybaf.f6 [1, 0, 5, 0] 1, opAt Ybaf.f6 [1, 0, 5, 0] 2, opAt Ybaf.f6 [1, 0, 5, 0] 3, opAt Ybaf.f6 [1, 0, 5, 0] 4, opAt Ybaf.f6 [1, 0, 5, 0] 5, opAt Ybaf.f6 [1, 0, 5, 0] 6, opAt Ybaf.f6 [1, 0, 5, 0] 7, opAt Ybaf.f6 [1, 0, 5, 0] 8, opAt Ybaf.f6 [1, 0, 5, 0] 9] _ _
  refine stMv hK (wn rfl) rfl rfl rfl (by decide) fun a hK => ?_
  refine stLenS hK (wn rfl) rfl Ybaf.underlying22 rfl rfl (by decide) fun a hK => ?_
  refine stBin hK (wn rfl) rfl rfl rfl (int_eq (r := false) (decide_eq_false (by omega))) rfl (by decide) fun a hK => ?_
  refine stMv hK (wn rfl) rfl rfl rfl (by decide) fun a hK => ?_
  refine stMv hK (hK.wy rfl rfl rfl (by decide)) rfl rfl rfl (by decide) fun a hK => ?_
  refine st hK (hK.wy rfl rfl rfl (by decide)) (run_idx0 _ rfl ad n c (hK.op rfl) rfl (by omega) _) rfl (by decide) fun a hK => ?_
  refine stLd hK (hK.wy rfl rfl rfl (by decide)) rfl rfl (hb) (fun w => by kernel_rfl) rfl (by decide) fun a hK => ?_
  refine stBin hK (hK.wy rfl rfl rfl (by decide)) rfl rfl rfl (u8_ge (r := false) (decide_eq_false (by omega))) rfl (by decide) fun a hK => ?_
  refine stPick hK (wn rfl) rfl rfl rfl rfl rfl (by decide) fun a hK => ?_
  refine stAs hK (wn rfl) rfl rfl rfl (by decide) fun a hK => ?_
  refine wp_cond_false (hK.op rfl) ?_
  show Code.wp _ (.seq (.region _ (opsOf Ybaf.f6 [1, 0, 5, 1, 3, 0]) false) (.cond (.tmp 16) (.seq (.region _ (opsOf Ybaf.f6 [1, 0, 5, 1, 3, 1, 2, 0]) false) .ret) (.seq (.region _ (opsOf Ybaf.f6 [1, 0, 5, 1, 3, 1, 3, 0]) false) (.cond (.tmp 34) (.seq (.region _ (opsOf Ybaf.f6 [1, 0, 5, 1, 3, 1, 3, 1, 2, 0]) false) .ret) .skip)))) _ _ _
  refine srg ?_
  show wpList _ (opsOf Ybaf.f6 [1, 0, 5, 1, 3, 0]) _ [opAt Ybaf.f6 [1, 0, 5, 1, 3, 0] 0, opAt Ybaf.f6 [1, 0, 5, 1, 3, 0] 1, opAt Ybaf.f6 [1, 0, 5, 1, 3, 0] 2, opAt Ybaf.f6 [1, 0, 5, 1, 3, 0] 3, opAt Ybaf.f6 [1, 0, 5, 1, 3, 0] 4, opAt Ybaf.f6 [1, 0, 5, 1, 3, 0] 5, opAt Ybaf.f6 [1, 0, 5, 1, 3, 0] 6, opAt Ybaf.f6 [1, 0, 5, 1, 3, 0] 7, opAt Ybaf.f6 [1, 0, 5, 1, 3, 0] 8, opAt Ybaf.f6 [1, 0, 5, 1, 3, 0] 9, opAt Ybaf.f6 [1, 0, 5, 1, 3, 0] 10] _ _
  refine stMv hK (wn rfl) rfl rfl rfl (by decide) fun a hK => ?_
  refine st hK (wn rfl) (run_idx0 _ rfl ad n c (hK.op rfl) rfl (by omega) _) rfl (by decide) fun a hK => ?_
  refine stLd hK (wn rfl) rfl rfl (hb) (fun w => by kernel_rfl) rfl (by decide) fun a hK => ?_
  refine stBin hK (wn rfl) rfl rfl rfl (u8_eq (r := false) (decide_eq_false (by omega))) rfl (by decide) fun a hK => ?_
  refine stMv hK (wn rfl) rfl rfl rfl (by decide) fun a hK => ?_
  refine stSkip hK (hK.wno rfl rfl rfl (by decide)) rfl (by decide) fun a hK => ?_
  refine stSkip hK (hK.wno rfl rfl rfl (by decide)) rfl (by decide) fun a hK => ?_
  refine stSkip hK (hK.wno rfl rfl rfl (by decide)) rfl (by decide) fun a hK => ?_
  refine stSkip hK (hK.wno rfl rfl rfl (by decide)) rfl (by decide) fun a hK => ?_
  refine stPick hK (wn rfl) rfl rfl rfl rfl rfl (by decide) fun a hK => ?_
  refine stAs hK (wn rfl) rfl rfl rfl (by decide) fun a hK => ?_
  refine wp_cond_false (hK.op rfl) (srg ?_)
  show wpList _ (opsOf Ybaf.f6 [1, 0, 5, 1, 3, 1, 3, 0]) _ [opAt Ybaf.f6 [1, 0, 5, 1, 3, 1, 3, 0] 0, opAt Ybaf.f6 [1, 0, 5, 1, 3, 1, 3, 0] 1, opAt Ybaf.f6 [1, 0, 5, 1, 3, 1, 3, 0] 2, opAt Ybaf.f6 [1, 0, 5, 1, 3, 1, 3, 0] 3, opAt Ybaf.f6 [1, 0, 5, 1, 3, 1, 3, 0] 4, opAt Ybaf.f6 [1, 0, 5, 1, 3, 1, 3, 0] 5, opAt Ybaf.f6 [1, 0, 5, 1, 3, 1, 3, 0] 6, opAt Ybaf.f6 [1, 0, 5, 1, 3, 1, 3, 0] 7, opAt Ybaf.f6 [1, 0, 5, 1, 3, 1, 3, 0] 8, opAt Ybaf.f6 [1, 0, 5, 1, 3, 1, 3, 0] 9, opAt Ybaf.f6 [1, 0, 5, 1, 3, 1, 3, 0] 10, opAt Ybaf.f6 [1, 0, 5, 1, 3, 1, 3, 0] 11, opAt Ybaf.f6 [1, 0, 5, 1, 3, 1, 3, 0] 12, opAt Ybaf.f6 [1, 0, 5, 1, 3, 1, 3, 0] 13, opAt Ybaf.f6 [1, 0, 5, 1, 3, 1, 3, 0] 14, opAt Ybaf.f6 [1, 0, 5, 1, 3, 1, 3, 0] 15] _ _
  refine stMv hK (wn rfl) rfl rfl rfl (by decide) fun a hK => ?_
  refine st hK (wn rfl) (run_idx0 _ rfl ad n c (hK.op rfl) rfl (by omega) _) rfl (by decide) fun a hK => ?_
  refine stLd hK (wn rfl) rfl rfl (hb) (fun w => by kernel_rfl) rfl (by decide) fun a hK => ?_
  refine stBin hK (wn rfl) rfl rfl rfl (u8_ne (r := true) (decide_eq_true (by omega))) rfl (by decide) fun a hK => ?_
  refine stMv hK (wn rfl) rfl rfl rfl (by decide) fun a hK => ?_
  refine stMv hK (hK.wy rfl rfl rfl (by decide)) rfl rfl rfl (by decide) fun a hK => ?_
  refine stLenS hK (hK.wy rfl rfl rfl (by decide)) rfl Ybaf.underlying22 rfl rfl (by decide) fun a hK => ?_
  refine stBin hK (hK.wy rfl rfl rfl (by decide)) rfl rfl rfl (int_lt (r := true) (decide_eq_true (by omega))) rfl (by decide) fun a hK => ?_
  refine stMv hK (hK.wy rfl rfl rfl (by decide)) rfl rfl rfl (by decide) fun a hK => ?_
  refine stSkip hK (hK.wno rfl rfl rfl (by decide)) rfl (by decide) fun a hK => ?_
  refine stSkip hK (hK.wno rfl rfl rfl (by decide)) rfl (by decide) fun a hK => ?_
  refine stSkip hK (hK.wno rfl rfl rfl (by decide)) rfl (by decide) fun a hK => ?_
  refine stSkip hK (hK.wno rfl rfl rfl (by decide)) rfl (by decide) fun a hK => ?_
  refine stPick hK (hK.wy rfl rfl rfl (by decide)) rfl rfl rfl rfl rfl (by decide) fun a hK => ?_
  refine stPick hK (wn rfl) rfl rfl rfl rfl rfl (by decide) fun a hK => ?_
  refine stAs hK (wn rfl) rfl rfl rfl (by decide) fun a hK => ?_
  refine wp_cond_true (hK.op rfl) (srg ?_)
  show wpList _ (opsOf Ybaf.f6 [1, 0, 5, 1, 3, 1, 3, 1, 2, 0]) _ [opAt Ybaf.f6 [1, 0, 5, 1, 3, 1, 3, 1, 2, 0] 0, opAt Ybaf.f6 [1, 0, 5, 1, 3, 1, 3, 1, 2, 0] 1, opAt Ybaf.f6 [1, 0, 5, 1, 3, 1, 3, 1, 2, 0] 2, opAt Ybaf.f6 [1, 0, 5, 1, 3, 1, 3, 1, 2, 0] 3, opAt Ybaf.f6 [1, 0, 5, 1, 3, 1, 3, 1, 2, 0] 4, opAt Ybaf.f6 [1, 0, 5, 1, 3, 1, 3, 1, 2, 0] 5, opAt Ybaf.f6 [1, 0, 5, 1, 3, 1, 3, 1, 2, 0] 6] _ _
  refine stLd hK (wn rfl) rfl rfl (hE) (fun w => by kernel_rfl) rfl (by decide) fun a hK => ?_
  refine stMv hK (wn rfl) rfl rfl rfl (by decide) fun a hK => ?_
  refine stLenS hK (wn rfl) rfl Ybaf.underlying22 rfl rfl (by decide) fun a hK => ?_
  refine stIf hK (wn rfl) rfl rfl (by kernel_rfl) rfl (by decide) fun a hK => ?_
  refine st hK (wn rfl) (run_sl2 _ _ rfl q _ (hK.op rfl) (hK.op rfl) _) rfl (by decide) fun a hK => ?_
  refine stCall hK rfl rfl rfl (R := fun v w' => Wrapped q _ v w') (fun w => by kernel_rfl) (errorf3 F q s w.heap.size _ _ hF ((cell_at (heap_alloc_new _ _) 0).trans rfl) ((cell_at (heap_alloc_new _ _) 1).trans rfl) (hqA _)) rfl (by decide) fun v a W' hR hK => ?_
  refine stAs hK (wn rfl) rfl rfl rfl (by decide) fun a hK => ?_
  refine wp_ret ?_
  try dsimp only [Exit.then, Exit.inBlock]
  exact bodyPost_ret (result_of hK rfl rfl _) hK.defers ⟨_, rfl, ((Fr.refl [] w).alloc _).trans hR.1, hR.2⟩

set_option maxRecDepth 20000 in
theorem bad_big (F : Interp) (q : Addr) (s : ByteArray) (ad : Addr) (n c : Nat) (hn : 0 < n) (hn2 : n ≤ 4194304) (b : Int) (h0b : 0 ≤ b) (w : World) (hF : F.answers w.tape) (hE : w.cell? ⟨0, 0, none⟩ = some (errV q)) (hqA : ∀ o, (w.alloc o).cell? q = some (.string s)) (hb : w.cell? ad = some (.int .u8 b)) (h3 : b = 1 ∨ b = 2) (h4 : 1033 < n) : Calls Ybaf.prog 6 #[.slice (some ad) n c] w fun e w' => ∃ v, e = .returned v ∧ Wrapped q w v w' := by
  have _used := And.intro hn2 (And.intro h0b (And.intro hF (And.intro hE hqA)))
  go_enter Ybaf.func6, Ybaf.ntmps6
  show Code.wp _ (codeOf Ybaf.f6 []) _ _ _
  refine Fm.begin 56 [(0, .slice (some ad) n c)] rfl rfl ⟨rfl, trivial⟩ fun a hK => ?_
  show Code.wp _ (.seq (.region _ (opsOf Ybaf.f6 [0]) false) (codeOf Ybaf.f6 [1])) _ _ _
  refine srg ?_
  show wpList _ (opsOf Ybaf.f6 [0]) _ [opAt Ybaf.f6 [0] 0] _ _
  refine stAs hK (wn rfl) rfl rfl rfl (by decide) fun a hK => ?_
  show Code.wp _ (codeOf Ybaf.f6 [1]) _ _ _
  show Code.wp _ (.seq (.block 0 (codeOf Ybaf.f6 [1, 0, 5])) (codeOf Ybaf.f6 [1, 1])) _ _ _
  refine wp_seq (wp_block ?_)
  show Code.wp _ (.seq (.region _ (opsOf Ybaf.f6 [1, 0, 5, 0]) false) (.cond (.tmp 3) (.seq (.region _ (opsOf Ybaf.f6 [1, 0, 5, 1, 2, 0]) false) .ret) (codeOf Ybaf.f6 [1, 0, 5, 1, 3]))) _ _ _
  refine srg ?_
  show wpList _ (opsOf Ybaf.f6 [1, 0, 5, 0]) _ [opAt Ybaf.f6 [1, 0, 5, 0] 0, opAt Ybaf.f6 [1, 0, 5, 0] 1, opAt Ybaf.f6 [1, 0, 5, 0] 2, opAt Ybaf.f6 [1, 0, 5, 0] 3, opAt Ybaf.f6 [1, 0, 5, 0] 4, opAt Ybaf.f6 [1, 0, 5, 0] 5, opAt Ybaf.f6 [1, 0, 5, 0] 6, opAt Ybaf.f6 [1, 0, 5, 0] 7, opAt Ybaf.f6 [1, 0, 5, 0] 8, opAt Ybaf.f6 [1, 0, 5, 0] 9] _ _
  refine stMv hK (wn rfl) rfl rfl rfl (by decide) fun a hK => ?_
  refine stLenS hK (wn rfl) rfl Ybaf.underlying22 rfl rfl (by decide) fun a hK => ?_
  refine stBin hK (wn rfl) rfl rfl rfl (int_eq (r := false) (decide_eq_false (by omega))) rfl (by decide) fun a hK => ?_
  refine stMv hK (wn rfl) rfl rfl rfl (by decide) fun a hK => ?_
  refine stMv hK (hK.wy rfl rfl rfl (by decide)) rfl rfl rfl (by decide) fun a hK => ?_
  refine st hK (hK.wy rfl rfl rfl (by decide)) (run_idx0 _ rfl ad n c (hK.op rfl) rfl (by omega) _) rfl (by decide) fun a hK => ?_
  refine stLd hK (hK.wy rfl rfl rfl (by decide)) rfl rfl (hb) (fun w => by kernel_rfl) rfl (by decide) fun a hK => ?_
  refine stBin hK (hK.wy rfl rfl rfl (by decide)) rfl rfl rfl (u8_ge (r := false) (decide_eq_false (by omega))) rfl (by decide) fun a hK => ?_
  refine stPick hK (wn rfl) rfl rfl rfl rfl rfl (by decide) fun a hK => ?_
  refine stAs hK (wn rfl) rfl rfl rfl (by decide) fun a hK => ?_
  refine wp_cond_false (hK.op rfl) ?_
  show Code.wp _ (.seq (.region _ (opsOf Ybaf.f6 [1, 0, 5, 1, 3, 0]) false) (.cond (.tmp 16) (.seq (.region _ (opsOf Ybaf.f6 [1, 0, 5, 1, 3, 1, 2, 0]) false) .ret) (.seq (.region _ (opsOf Ybaf.f6 [1, 0, 5, 1, 3, 1, 3, 0]) false) (.cond (.tmp 34) (.seq (.region _ (opsOf Ybaf.f6 [1, 0, 5, 1, 3, 1, 3, 1, 2, 0]) false) .ret) .skip)))) _ _ _
  refine srg ?_
  show wpList _ (opsOf Ybaf.f6 [1, 0, 5, 1, 3, 0]) _ [opAt Ybaf.f6 [1, 0, 5, 1, 3, 0] 0, opAt Ybaf.f6 [1, 0, 5, 1, 3, 0] 1, opAt Ybaf.f6 [1, 0, 5, 1, 3, 0] 2, opAt Ybaf.f6 [1, 0, 5, 1, 3, 0] 3, opAt Ybaf.f6 [1, 0, 5, 1, 3, 0] 4, opAt Ybaf.f6 [1, 0, 5, 1, 3, 0] 5, opAt Ybaf.f6 [1, 0, 5, 1, 3, 0] 6, opAt Ybaf.f6 [1, 0, 5, 1, 3, 0] 7, opAt Ybaf.f6 [1, 0, 5, 1, 3, 0] 8, opAt Ybaf.f6 [1, 0, 5, 1, 3, 0] 9, opAt Ybaf.f6 [1, 0, 5, 1, 3, 0] 10] _ _
  refine stMv hK (wn rfl) rfl rfl rfl (by decide) fun a hK => ?_
  refine st hK (wn rfl) (run_idx0 _ rfl ad n c (hK.op rfl) rfl (by omega) _) rfl (by decide) fun a hK => ?_
  refine stLd hK (wn rfl) rfl rfl (hb) (fun w => by kernel_rfl) rfl (by decide) fun a hK => ?_
  refine stBin hK (wn rfl) rfl rfl rfl (u8_eq (r := false) (decide_eq_false (by omega))) rfl (by decide) fun a hK => ?_
  refine stMv hK (wn rfl) rfl rfl rfl (by decide) fun a hK => ?_
  refine stSkip hK (hK.wno rfl rfl rfl (by decide)) rfl (by decide) fun a hK => ?_
  refine stSkip hK (hK.wno rfl rfl rfl (by decide)) rfl (by decide) fun a hK => ?_
  refine stSkip hK (hK.wno rfl rfl rfl (by decide)) rfl (by decide) fun a hK => ?_
  refine stSkip hK (hK.wno rfl rfl rfl (by decide)) rfl (by decide) fun a hK => ?_
  refine stPick hK (wn rfl) rfl rfl rfl rfl rfl (by decide) fun a hK => ?_
  refine stAs hK (wn rfl) rfl rfl rfl (by decide) fun a hK => ?_
  refine wp_cond_false (hK.op rfl) (srg ?_)
  show wpList _ (opsOf Ybaf.f6 [1, 0, 5, 1, 3, 1, 3, 0]) _ [opAt Ybaf.f6 [1, 0, 5, 1, 3, 1, 3, 0] 0, opAt Ybaf.f6 [1, 0, 5, 1, 3, 1, 3, 0] 1, opAt Ybaf.f6 [1, 0, 5, 1, 3, 1, 3, 0] 2, opAt Ybaf.f6 [1, 0, 5, 1, 3, 1, 3, 0] 3, opAt Ybaf.f6 [1, 0, 5, 1, 3, 1, 3, 0] 4, opAt Ybaf.f6 [1, 0, 5, 1, 3, 1, 3, 0] 5, opAt Ybaf.f6 [1, 0, 5, 1, 3, 1, 3, 0] 6, opAt Ybaf.f6 [1, 0, 5, 1, 3, 1, 3, 0] 7, opAt Ybaf.f6 [1, 0, 5, 1, 3, 1, 3, 0] 8, opAt Ybaf.f6 [1, 0, 5, 1, 3, 1, 3, 0] 9, opAt Ybaf.f6 [1, 0, 5, 1, 3, 1, 3, 0] 10, opAt Ybaf.f6 [1, 0, 5, 1, 3, 1, 3, 0] 11, opAt Ybaf.f6 [1, 0, 5, 1, 3, 1, 3, 0] 12, opAt Ybaf.f6 [1, 0, 5, 1, 3, 1, 3, 0] 13, opAt Ybaf.f6 [1, 0, 5, 1, 3, 1, 3, 0] 14, opAt Ybaf.f6 [1, 0, 5, 1, 3, 1, 3, 0] 15] _ _
  refine stMv hK (wn rfl) rfl rfl rfl (by decide) fun a hK => ?_
  refine st hK (wn rfl) (run_idx0 _ rfl ad n c (hK.op rfl) rfl (by omega) _) rfl (by decide) fun a hK => ?_
  refine stLd hK (wn rfl) rfl rfl (hb) (fun w => by kernel_rfl) rfl (by decide) fun a hK => ?_
  refine stBin hK (wn rfl) rfl rfl rfl (u8_ne (r := true) (decide_eq_true (by omega))) rfl (by decide) fun a hK => ?_
  refine stMv hK (wn rfl) rfl rfl rfl (by decide) fun a hK => ?_
  refine stMv hK (hK.wy rfl rfl rfl (by decide)) rfl rfl rfl (by decide) fun a hK => ?_
  refine stLenS hK (hK.wy rfl rfl rfl (by decide)) rfl Ybaf.underlying22 rfl rfl (by decide) fun a hK => ?_
  refine stBin hK (hK.wy rfl rfl rfl (by decide)) rfl rfl rfl (int_lt (r := false) (decide_eq_false (by omega))) rfl (by decide) fun a hK => ?_
  refine stMv hK (hK.wy rfl rfl rfl (by decide)) rfl rfl rfl (by decide) fun a hK => ?_
  refine stMv hK (hK.wy rfl rfl rfl (by decide)) rfl rfl rfl (by decide) fun a hK => ?_
  refine stLenS hK (hK.wy rfl rfl rfl (by decide)) rfl Ybaf.underlying22 rfl rfl (by decide) fun a hK => ?_
  refine stBin hK (hK.wy rfl rfl rfl (by decide)) rfl rfl rfl (int_sub (y := (n : Int) - 9) (by omega) (by omega) (by omega)) rfl (by decide) fun a hK => ?_
  refine stBin hK (hK.wy rfl rfl rfl (by decide)) rfl rfl rfl (int_gt (r := true) (decide_eq_true (by omega))) rfl (by decide) fun a hK => ?_
  refine stPick hK (hK.wy rfl rfl rfl (by decide)) rfl rfl rfl rfl rfl (by decide) fun a hK => ?_
  refine stPick hK (wn rfl) rfl rfl rfl rfl rfl (by decide) fun a hK => ?_
  refine stAs hK (wn rfl) rfl rfl rfl (by decide) fun a hK => ?_
  refine wp_cond_true (hK.op rfl) (srg ?_)
  show wpList _ (opsOf Ybaf.f6 [1, 0, 5, 1, 3, 1, 3, 1, 2, 0]) _ [opAt Ybaf.f6 [1, 0, 5, 1, 3, 1, 3, 1, 2, 0] 0, opAt Ybaf.f6 [1, 0, 5, 1, 3, 1, 3, 1, 2, 0] 1, opAt Ybaf.f6 [1, 0, 5, 1, 3, 1, 3, 1, 2, 0] 2, opAt Ybaf.f6 [1, 0, 5, 1, 3, 1, 3, 1, 2, 0] 3, opAt Ybaf.f6 [1, 0, 5, 1, 3, 1, 3, 1, 2, 0] 4, opAt Ybaf.f6 [1, 0, 5, 1, 3, 1, 3, 1, 2, 0] 5, opAt Ybaf.f6 [1, 0, 5, 1, 3, 1, 3, 1, 2, 0] 6] _ _
  refine stLd hK (wn rfl) rfl rfl (hE) (fun w => by kernel_rfl) rfl (by decide) fun a hK => ?_
  refine stMv hK (wn rfl) rfl rfl rfl (by decide) fun a hK => ?_
  refine stLenS hK (wn rfl) rfl Ybaf.underlying22 rfl rfl (by decide) fun a hK => ?_
  refine stIf hK (wn rfl) rfl rfl (by kernel_rfl) rfl (by decide) fun a hK => ?_
  refine st hK (wn rfl) (run_sl2 _ _ rfl q _ (hK.op rfl) (hK.op rfl) _) rfl (by decide) fun a hK => ?_
  refine stCall hK rfl rfl rfl (R := fun v w' => Wrapped q _ v w') (fun w => by kernel_rfl) (errorf3 F q s w.heap.size _ _ hF ((cell_at (heap_alloc_new _ _) 0).trans rfl) ((cell_at (heap_alloc_new _ _) 1).trans rfl) (hqA _)) rfl (by decide) fun v a W' hR hK => ?_
  refine stAs hK (wn rfl) rfl rfl rfl (by decide) fun a hK => ?_
  refine wp_ret ?_
  try dsimp only [Exit.then, Exit.inBlock]
  exact bodyPost_ret (result_of hK rfl rfl _) hK.defers ⟨_, rfl, ((Fr.refl [] w).alloc _).trans hR.1, hR.2⟩

set_option maxRecDepth 20000 in
theorem good_lock (F : Interp) (q : Addr) (s : ByteArray) (ad : Addr) (n c : Nat) (hn : 0 < n) (hn2 : n ≤ 4194304) (b : Int) (h0b : 0 ≤ b) (w : World) (hF : F.answers w.tape) (hE : w.cell? ⟨0, 0, none⟩ = some (errV q)) (hqA : ∀ o, (w.alloc o).cell? q = some (.string s)) (hb : w.cell? ad = some (.int .u8 b)) (h3 : b = 1 ∨ b = 2) (h4 : 9 ≤ n) (h5 : n ≤ 1033) : Calls Ybaf.prog 6 #[.slice (some ad) n c] w fun e w' => e = .returned .nilIface ∧ w' = w := by
  have _used := And.intro hn2 (And.intro h0b (And.intro hF (And.intro hE hqA)))
  go_enter Ybaf.func6, Ybaf.ntmps6
  show Code.wp _ (codeOf Ybaf.f6 []) _ _ _
  refine Fm.begin 56 [(0, .slice (some ad) n c)] rfl rfl ⟨rfl, trivial⟩ fun a hK => ?_
  show Code.wp _ (.seq (.region _ (opsOf Ybaf.f6 [0]) false) (codeOf Ybaf.f6 [1])) _ _ _
  refine srg ?_
  show wpList _ (opsOf Ybaf.f6 [0]) _ [opAt Ybaf.f6 [0] 0] _ _
  refine stAs hK (wn rfl) rfl rfl rfl (by decide) fun a hK => ?_
  show Code.wp _ (codeOf Ybaf.f6 [1]) _ _ _
  show Code.wp _ (.seq (.block 0 (codeOf Ybaf.f6 [1, 0, 5])) (codeOf Ybaf.f6 [1, 1])) _ _ _
  refine wp_seq (wp_block ?_)
  show Code.wp _ (.seq (.region _ (opsOf Ybaf.f6 [1, 0, 5, 0]) false) (.cond (.tmp 3) (.seq (.region _ (opsOf Ybaf.f6 [1, 0, 5, 1, 2, 0]) false) .ret) (codeOf Ybaf.f6 [1, 0, 5, 1, 3]))) _ _ _
  refine srg ?_
  show wpList _ (opsOf Ybaf.f6 [1, 0, 5, 0]) _ [opAt Ybaf.f6 [1, 0, 5, 0] 0, opAt Ybaf.f6 [1, 0, 5, 0] 1, opAt Ybaf.f6 [1, 0, 5, 0] 2, opAt Ybaf.f6 [1, 0, 5, 0] 3, opAt Ybaf.f6 [1, 0, 5, 0] 4, opAt Ybaf.f6 [1, 0, 5, 0] 5, opAt Ybaf.f6 [1, 0, 5, 0] 6, opAt Ybaf.f6 [1, 0, 5, 0] 7, opAt Ybaf.f6 [1, 0, 5, 0] 8, opAt Ybaf.f6 [1, 0, 5, 0] 9] _ _
  refine stMv hK (wn rfl) rfl rfl rfl (by decide) fun a hK => ?_
  refine stLenS hK (wn rfl) rfl Ybaf.underlying22 rfl rfl (by decide) fun a hK => ?_
  refine stBin hK (wn rfl) rfl rfl rfl (int_eq (r := false) (decide_eq_false (by omega))) rfl (by decide) fun a hK => ?_
  refine stMv hK (wn rfl) rfl rfl rfl (by decide) fun a hK => ?_
  refine stMv hK (hK.wy rfl rfl rfl (by decide)) rfl rfl rfl (by decide) fun a hK => ?_
  refine st hK (hK.wy rfl rfl rfl (by decide)) (run_idx0 _ rfl ad n c (hK.op rfl) rfl (by omega) _) rfl (by decide) fun a hK => ?_
  refine stLd hK (hK.wy rfl rfl rfl (by decide)) rfl rfl (hb) (fun w => by kernel_rfl) rfl (by decide) fun a hK => ?_
  refine stBin hK (hK.wy rfl rfl rfl (by decide)) rfl rfl rfl (u8_ge (r := false) (decide_eq_false (by omega))) rfl (by decide) fun a hK => ?_
  refine stPick hK (wn rfl) rfl rfl rfl rfl rfl (by decide) fun a hK => ?_
  refine stAs hK (wn rfl) rfl rfl rfl (by decide) fun a hK => ?_
  refine wp_cond_false (hK.op rfl) ?_
  show Code.wp _ (.seq (.region _ (opsOf Ybaf.f6 [1, 0, 5, 1, 3, 0]) false) (.cond (.tmp 16) (.seq (.region _ (opsOf Ybaf.f6 [1, 0, 5, 1, 3, 1, 2, 0]) false) .ret) (.seq (.region _ (opsOf Ybaf.f6 [1, 0, 5, 1, 3, 1, 3, 0]) false) (.cond (.tmp 34) (.seq (.region _ (opsOf Ybaf.f6 [1, 0, 5, 1, 3, 1, 3, 1, 2, 0]) false) .ret) .skip)))) _ _ _
  refine srg ?_
  show wpList _ (opsOf Ybaf.f6 [1, 0, 5, 1, 3, 0]) _ [opAt Ybaf.f6 [1, 0, 5, 1, 3, 0] 0, opAt Ybaf.f6 [1, 0, 5, 1, 3, 0] 1, opAt Ybaf.f6 [1, 0, 5, 1, 3, 0] 2, opAt Ybaf.f6 [1, 0, 5, 1, 3, 0] 3, opAt Ybaf.f6 [1, 0, 5, 1, 3, 0] 4, opAt Ybaf.f6 [1, 0, 5, 1, 3, 0] 5, opAt Ybaf.f6 [1, 0, 5, 1, 3, 0] 6, opAt Ybaf.f6 [1, 0, 5, 1, 3, 0] 7, opAt Ybaf.f6 [1, 0, 5, 1, 3, 0] 8, opAt Ybaf.f6 [1, 0, 5, 1, 3, 0] 9, opAt Ybaf.f6 [1, 0, 5, 1, 3, 0] 10] _ _
  refine stMv hK (wn rfl) rfl rfl rfl (by decide) fun a hK => ?_
  refine st hK (wn rfl) (run_idx0 _ rfl ad n c (hK.op rfl) rfl (by omega) _) rfl (by decide) fun a hK => ?_
  refine stLd hK (wn rfl) rfl rfl (hb) (fun w => by kernel_rfl) rfl (by decide) fun a hK => ?_
  refine stBin hK (wn rfl) rfl rfl rfl (u8_eq (r := false) (decide_eq_false (by omega))) rfl (by decide) fun a hK => ?_
  refine stMv hK (wn rfl) rfl rfl rfl (by decide) fun a hK => ?_
  refine stSkip hK (hK.wno rfl rfl rfl (by decide)) rfl (by decide) fun a hK => ?_
  refine stSkip hK (hK.wno rfl rfl rfl (by decide)) rfl (by decide) fun a hK => ?_
  refine stSkip hK (hK.wno rfl rfl rfl (by decide)) rfl (by decide) fun a hK => ?_
  refine stSkip hK (hK.wno rfl rfl rfl (by decide)) rfl (by decide) fun a hK => ?_
  refine stPick hK (wn rfl) rfl rfl rfl rfl rfl (by decide) fun a hK => ?_
  refine stAs hK (wn rfl) rfl rfl rfl (by decide) fun a hK => ?_
  refine wp_cond_false (hK.op rfl) (srg ?_)
  show wpList _ (opsOf Ybaf.f6 [1, 0, 5, 1, 3, 1, 3, 0]) _ [opAt Ybaf.f6 [1, 0, 5, 1, 3, 1, 3, 0] 0, opAt Ybaf.f6 [1, 0, 5, 1, 3, 1, 3, 0] 1, opAt Ybaf.f6 [1, 0, 5, 1, 3, 1, 3, 0] 2, opAt Ybaf.f6 [1, 0, 5, 1, 3, 1, 3, 0] 3, opAt Ybaf.f6 [1, 0, 5, 1, 3, 1, 3, 0] 4, opAt Ybaf.f6 [1, 0, 5, 1, 3, 1, 3, 0] 5, opAt Ybaf.f6 [1, 0, 5, 1, 3, 1, 3, 0] 6, opAt Ybaf.f6 [1, 0, 5, 1, 3, 1, 3, 0] 7, opAt Ybaf.f6 [1, 0, 5, 1, 3, 1, 3, 0] 8, opAt Ybaf.f6 [1, 0, 5, 1, 3, 1, 3, 0] 9, opAt Ybaf.f6 [1, 0, 5, 1, 3, 1, 3, 0] 10, opAt Ybaf.f6 [1, 0, 5, 1, 3, 1, 3, 0] 11, opAt Ybaf.f6 [1, 0, 5, 1, 3, 1, 3, 0] 12, opAt Ybaf.f6 [1, 0, 5, 1, 3, 1, 3, 0] 13, opAt Ybaf.f6 [1, 0, 5, 1, 3, 1, 3, 0] 14, opAt Ybaf.f6 [1, 0, 5, 1, 3, 1, 3, 0] 15] _ _
  refine stMv hK (wn rfl) rfl rfl rfl (by decide) fun a hK => ?_
  refine st hK (wn rfl) (run_idx0 _ rfl ad n c (hK.op rfl) rfl (by omega) _) rfl (by decide) fun a hK => ?_
  refine stLd hK (wn rfl) rfl rfl (hb) (fun w => by kernel_rfl) rfl (by decide) fun a hK => ?_
  refine stBin hK (wn rfl) rfl rfl rfl (u8_ne (r := true) (decide_eq_true (by omega))) rfl (by decide) fun a hK => ?_
  refine stMv hK (wn rfl) rfl rfl rfl (by decide) fun a hK => ?_
  refine stMv hK (hK.wy rfl rfl rfl (by decide)) rfl rfl rfl (by decide) fun a hK => ?_
  refine stLenS hK (hK.wy rfl rfl rfl (by decide)) rfl Ybaf.underlying22 rfl rfl (by decide) fun a hK => ?_
  refine stBin hK (hK.wy rfl rfl rfl (by decide)) rfl rfl rfl (int_lt (r := false) (decide_eq_false (by omega))) rfl (by decide) fun a hK => ?_
  refine stMv hK (hK.wy rfl rfl rfl (by decide)) rfl rfl rfl (by decide) fun a hK => ?_
  refine stMv hK (hK.wy rfl rfl rfl (by decide)) rfl rfl rfl (by decide) fun a hK => ?_
  refine stLenS hK (hK.wy rfl rfl rfl (by decide)) rfl Ybaf.underlying22 rfl rfl (by decide) fun a hK => ?_
  refine stBin hK (hK.wy rfl rfl rfl (by decide)) rfl rfl rfl (int_sub (y := (n : Int) - 9) (by omega) (by omega) (by omega)) rfl (by decide) fun a hK => ?_
  refine stBin hK (hK.wy rfl rfl rfl (by decide)) rfl rfl rfl (int_gt (r := false) (decide_eq_false (by omega))) rfl (by decide) fun a hK => ?_
  refine stPick hK (hK.wy rfl rfl rfl (by decide)) rfl rfl rfl rfl rfl (by decide) fun a hK => ?_
  refine stPick hK (wn rfl) rfl rfl rfl rfl rfl (by decide) fun a hK => ?_
  refine stAs hK (wn rfl) rfl rfl rfl (by decide) fun a hK => ?_
  refine wp_cond_false (hK.op rfl) (wp_skip ?_)
  show Code.wp _ (.seq (.region _ (opsOf Ybaf.f6 [1, 1, 0]) false) .ret) _ _ _
  refine srg ?_
  show wpList _ (opsOf Ybaf.f6 [1, 1, 0]) _ [opAt Ybaf.f6 [1, 1, 0] 0] _ _
  refine stAs hK (wn rfl) rfl rfl rfl (by decide) fun a hK => ?_
  refine wp_ret ?_
  try dsimp only [Exit.then, Exit.inBlock]
  exact bodyPost_ret (result_of hK rfl rfl _) hK.defers ⟨rfl, rfl⟩

end Go.Proofs.YbulkaevsFmt
