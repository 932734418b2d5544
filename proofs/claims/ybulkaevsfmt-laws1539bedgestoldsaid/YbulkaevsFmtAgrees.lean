import Derived.Test.YbulkaevsFmtChecks
namespace Go.Proofs.YbulkaevsFmt
open Go.RowKit Go.Extern.Stop Go.Stop Go.Extern
theorem stCallW {P : Program} {n : Nat} {K : List (Nat × Value)} {a : Act} {ops : Array Oper} {rest : List Oper} {o : Oper} {w : World} {Q : Exit → Act → World → Prop} {d : Nat} (hK : Fm n K a) (hw : Region.wanted o (yielded ops a.tmps) = true) {f : FuncId} {xs : Array Operand} {tt : Array TypeId} (ho : o.op = .call { callee := .value (.func f), args := xs, argTypes := tt }) {vs : List Value} (hx : lookL K xs.toList = some vs) {R : Value → World → Prop} (hb : ∀ w, (callFunc f vs.toArray).run P w = .ok (.enter f vs.toArray) w)
    (hc : Calls P f vs.toArray w fun e w' => ∃ v, e = .returned v ∧ R v w') (hd : o.dst = some d) (hn : d < n) (h : ∀ v a' w', R v w' → Fm n ((d, v) :: K) a' → wpList P ops Q rest a' w') : wpList P ops Q (o :: rest) a w :=
  BigFrame.wpList_want hw fun _ hk => wp_enter (run_callFn f xs tt ho rfl vs.toArray (hK.opA hx) w (hb w)) (hc.mono fun _e _w' ⟨v, he, hr⟩ => ⟨v, he, hk _ _ (h v _ _ hr (by rw [hd]; exact hK.put hn v))⟩)

set_option maxRecDepth 20000 in
theorem agrees (q : Addr) (p : Value) (ok : Bool) (w : World) (hE : ∀ W, Fr [] w W → W.cell? ⟨0, 0, none⟩ = some (errV q)) (hok : ∀ W, Fr [] w W → Calls Ybaf.prog 7 #[p] W fun e w' => e = .returned (.bool ok) ∧ w' = W)
    (hchk : Calls Ybaf.prog 6 #[p] w fun e w' => ∃ v, e = .returned v ∧ (if ok = true then v = .nilIface ∧ w' = w else Wrapped q w v w')) :
    Calls Ybaf.prog 5 #[p] w fun e w' => e = .returned (.bool true) ∧ Fr [] w w' := by
  go_enter Ybaf.func5, Ybaf.ntmps5
  show Code.wp _ (codeOf Ybaf.f5 []) _ _ _
  refine Fm.begin 17 [(0, p)] rfl rfl ⟨rfl, trivial⟩ fun a hK => ?_
  show Code.wp _ (.seq (.region _ (opsOf Ybaf.f5 [0]) false) (codeOf Ybaf.f5 [1])) _ _ _
  refine srg ?_
  show wpList _ (opsOf Ybaf.f5 [0]) _ [opAt Ybaf.f5 [0] 0] _ _
  refine stAs hK (wn rfl) rfl rfl rfl (by decide) fun a hK => ?_
  show Code.wp _ (codeOf Ybaf.f5 [1]) _ _ _
  show Code.wp _ (.seq (.region _ (opsOf Ybaf.f5 [1, 0]) false) (codeOf Ybaf.f5 [1, 1])) _ _ _
  refine srg ?_
  show wpList _ (opsOf Ybaf.f5 [1, 0]) _ [opAt Ybaf.f5 [1, 0] 0, opAt Ybaf.f5 [1, 0] 1, opAt Ybaf.f5 [1, 0] 2] _ _
  refine stMv hK (wn rfl) rfl rfl rfl (by decide) fun a hK => ?_
  refine stCall hK rfl rfl rfl (R := fun v w' => if ok = true then v = .nilIface ∧ w' = w else Wrapped q w v w') (fun w => by kernel_rfl) hchk rfl (by decide) fun v a w1 hR hK => ?_
  refine stAs hK (wn rfl) rfl rfl rfl (by decide) fun a hK => ?_
  show Code.wp _ (codeOf Ybaf.f5 [1, 1]) _ _ _
  have hF1 : Fr [] w w1 := by cases ok with | true => (rw [if_pos rfl] at hR; rw [hR.2]; exact Fr.refl _ _) | false => exact hR.1
  show Code.wp _ (.seq (.seq (.region _ (opsOf Ybaf.f5 [1, 1, 0, 0]) false) (codeOf Ybaf.f5 [1, 1, 0, 1])) (codeOf Ybaf.f5 [1, 1, 1])) _ _ _
  refine wp_seq (srg ?_)
  show wpList _ (opsOf Ybaf.f5 [1, 1, 0, 0]) _ [opAt Ybaf.f5 [1, 1, 0, 0] 0, opAt Ybaf.f5 [1, 1, 0, 0] 1] _ _
  refine stMv hK (wn rfl) rfl rfl rfl (by decide) fun a hK => ?_
  refine stCall hK rfl rfl rfl (R := fun u w' => u = .bool ok ∧ w' = w1) (fun w => by kernel_rfl) ((hok w1 hF1).mono fun _ _ h => ⟨_, h.1, rfl, h.2⟩) rfl (by decide) fun u a w2 hU hK => ?_
  obtain ⟨rfl, rfl⟩ := hU
  cases ok with
  | true =>
    rw [if_pos rfl] at hR
    obtain ⟨rfl, rfl⟩ := hR
    show Code.wp _ (.cond (.tmp 7) (.seq (.region _ (opsOf Ybaf.f5 [1, 1, 0, 1, 2, 0]) false) .ret) .skip) _ _ _
    refine wp_cond_true (hK.op rfl) (srg ?_)
    show wpList _ (opsOf Ybaf.f5 [1, 1, 0, 1, 2, 0]) _ [opAt Ybaf.f5 [1, 1, 0, 1, 2, 0] 0, opAt Ybaf.f5 [1, 1, 0, 1, 2, 0] 1, opAt Ybaf.f5 [1, 1, 0, 1, 2, 0] 2] _ _
    refine stMv hK (wn rfl) rfl rfl rfl (by decide) fun a hK => ?_
    refine stBin hK (wn rfl) rfl rfl rfl ((by kernel_rfl : _ = Result.ok (Value.bool true) _)) rfl (by decide) fun a hK => ?_
    refine stAs hK (wn rfl) rfl rfl rfl (by decide) fun a hK => ?_
    refine wp_ret ?_
    try dsimp only [Exit.then, Exit.inBlock]
    exact bodyPost_ret (result_of hK rfl rfl _) hK.defers ⟨rfl, Fr.refl _ _⟩
  | false =>
    obtain ⟨hF, pb, rfl, hcell⟩ := (show Wrapped q w v _ from hR)
    show Code.wp _ (.cond (.tmp 7) (codeOf Ybaf.f5 [1, 1, 0, 1, 2]) .skip) _ _ _
    refine wp_cond_false (hK.op rfl) (wp_skip ?_)
    show Code.wp _ (codeOf Ybaf.f5 [1, 1, 1]) _ _ _
    show Code.wp _ (.seq (.region _ (opsOf Ybaf.f5 [1, 1, 1, 0]) false) .ret) _ _ _
    refine srg ?_
    show wpList _ (opsOf Ybaf.f5 [1, 1, 1, 0]) _ [opAt Ybaf.f5 [1, 1, 1, 0] 0, opAt Ybaf.f5 [1, 1, 1, 0] 1, opAt Ybaf.f5 [1, 1, 1, 0] 2, opAt Ybaf.f5 [1, 1, 1, 0] 3, opAt Ybaf.f5 [1, 1, 1, 0] 4, opAt Ybaf.f5 [1, 1, 1, 0] 5, opAt Ybaf.f5 [1, 1, 1, 0] 6, opAt Ybaf.f5 [1, 1, 1, 0] 7] _ _
    refine stMv hK (wn rfl) rfl rfl rfl (by decide) fun a hK => ?_
    refine stBin hK (wn rfl) rfl rfl rfl ((by kernel_rfl : _ = Result.ok (Value.bool true) _)) rfl (by decide) fun a hK => ?_
    refine stMv hK (wn rfl) rfl rfl rfl (by decide) fun a hK => ?_
    refine stMv hK (hK.wy rfl rfl rfl (by decide)) rfl rfl rfl (by decide) fun a hK => ?_
    refine stLd hK (hK.wy rfl rfl rfl (by decide)) rfl rfl (hE _ hF1) (fun w => by kernel_rfl) rfl (by decide) fun a hK => ?_
    refine stCallW hK (hK.wy rfl rfl rfl (by decide)) rfl rfl (R := fun u w' => u = .bool true ∧ w' = _) (fun w => by kernel_rfl) ((is_wrap_same pb 0 q _ hcell).mono fun _ _ h => ⟨_, h.1, rfl, h.2⟩) rfl (by decide) fun u a w3 hU hK => ?_
    obtain ⟨rfl, rfl⟩ := hU
    refine stPick hK (wn rfl) rfl rfl rfl rfl rfl (by decide) fun a hK => ?_
    refine stAs hK (wn rfl) rfl rfl rfl (by decide) fun a hK => ?_
    refine wp_ret ?_
    try dsimp only [Exit.then, Exit.inBlock]
    exact bodyPost_ret (result_of hK rfl rfl _) hK.defers ⟨rfl, hF1⟩

end Go.Proofs.YbulkaevsFmt
