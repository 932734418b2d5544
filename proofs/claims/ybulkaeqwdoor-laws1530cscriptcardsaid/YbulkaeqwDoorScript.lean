import Derived.Test.YbulkaeqwDoorLoop
namespace Go.Proofs.YbulkaeqwDoor
open Go.RowKit

set_option maxRecDepth 20000 in
theorem script_law (xs : List UInt8) (ba : Option Addr) (bc : Nat) (na : Option Addr) (nc : Nat) (ys : List Int) (q : Addr) (w : World) (hb : Bs (.slice ba xs.length bc) xs w) (hE : w.cell? ⟨0, 0, none⟩ = some (errV q)) (hna : na = none → ys.length = 0) (hns : ∀ ad, na = some ad → ∀ (i : Nat) y, ys[i]? = some y → w.cell? (ad.add i) = some (.int .i8 y)) :
    Calls Ybad.prog 4 #[.slice ba xs.length bc, .slice na ys.length nc] w fun e w' => e = .returned (.bool true) ∧ Fr [] w w' := by
  go_enter Ybad.func4, Ybad.ntmps4
  show Code.wp _ (codeOf Ybad.f4 []) _ _ _
  refine Fm.begin 122 [(0, .slice ba xs.length bc), (1, .slice na ys.length nc)] rfl rfl ⟨rfl, rfl, trivial⟩ fun a hK => ?_
  show Code.wp _ (.seq (.region _ (opsOf Ybad.f4 [0]) false) (codeOf Ybad.f4 [1])) _ _ _
  refine srg ?_
  show wpList _ (opsOf Ybad.f4 [0]) _ [opAt Ybad.f4 [0] 0] _ _
  refine stAs hK (wn rfl) rfl rfl rfl (by decide) fun a hK => ?_
  show Code.wp _ (codeOf Ybad.f4 [1]) _ _ _
  show Code.wp _ (.seq (.seq (.region _ (opsOf Ybad.f4 [1, 0, 0]) false) (codeOf Ybad.f4 [1, 0, 1])) (codeOf Ybad.f4 [1, 1])) _ _ _
  refine wp_seq (srg ?_)
  show wpList _ (opsOf Ybad.f4 [1, 0, 0]) _ [opAt Ybad.f4 [1, 0, 0] 0, opAt Ybad.f4 [1, 0, 0] 1, opAt Ybad.f4 [1, 0, 0] 2, opAt Ybad.f4 [1, 0, 0] 3, opAt Ybad.f4 [1, 0, 0] 4, opAt Ybad.f4 [1, 0, 0] 5, opAt Ybad.f4 [1, 0, 0] 6, opAt Ybad.f4 [1, 0, 0] 7] _ _
  refine stMv hK (wn rfl) rfl rfl rfl (by decide) fun a hK => ?_
  refine stLenS hK (wn rfl) rfl Ybad.underlying22 rfl rfl (by decide) fun a hK => ?_
  have hret : ∀ a, Fm 122 [(19, .bool true)] a → Code.wp Ybad.prog (codeOf Ybad.f4 [1, 0, 1]) (Exit.then (Code.wp Ybad.prog (codeOf Ybad.f4 [1, 1]) (bodyPost Ybad.prog Ybad.f4 fun e w' => e = .returned (.bool true) ∧ Fr [] w w')) (bodyPost Ybad.prog Ybad.f4 fun e w' => e = .returned (.bool true) ∧ Fr [] w w')) a w := by
    intro a hK
    show Code.wp _ (.cond (.tmp 19) (.seq (.region _ (opsOf Ybad.f4 [1, 0, 1, 2, 0]) false) .ret) .skip) _ _ _
    refine wp_cond_true (hK.op rfl) (srg ?_)
    show wpList _ (opsOf Ybad.f4 [1, 0, 1, 2, 0]) _ [opAt Ybad.f4 [1, 0, 1, 2, 0] 0] _ _
    refine stAs hK (wn rfl) rfl rfl rfl (by decide) fun a hK => ?_
    refine wp_ret ?_
    try dsimp only [Exit.then]
    exact bodyPost_ret (result_of hK rfl rfl _) hK.defers ⟨rfl, Fr.refl _ _⟩
  by_cases hn : 1024 < xs.length
  · refine stBin hK (wn rfl) rfl rfl rfl (gtrT (by omega)) rfl (by decide) fun a hK => ?_
    refine stMv hK (wn rfl) rfl rfl rfl (by decide) fun a hK => ?_
    refine stSkip hK (hK.wno rfl rfl rfl (by decide)) rfl (by decide) fun a hK => ?_
    refine stSkip hK (hK.wno rfl rfl rfl (by decide)) rfl (by decide) fun a hK => ?_
    refine stSkip hK (hK.wno rfl rfl rfl (by decide)) rfl (by decide) fun a hK => ?_
    refine stPick hK (wn rfl) rfl rfl rfl rfl rfl (by decide) fun a hK => ?_
    exact hret _ (hK.sub _ ⟨rfl, trivial⟩)
  refine stBin hK (wn rfl) rfl rfl rfl (gtrF (by omega)) rfl (by decide) fun a hK => ?_
  refine stMv hK (wn rfl) rfl rfl rfl (by decide) fun a hK => ?_
  refine stMv hK (hK.wy rfl rfl rfl (by decide)) rfl rfl rfl (by decide) fun a hK => ?_
  refine stLenS hK (hK.wy rfl rfl rfl (by decide)) rfl Ybad.underlying33 rfl rfl (by decide) fun a hK => ?_
  by_cases hm : 256 < ys.length
  · refine stBin hK (hK.wy rfl rfl rfl (by decide)) rfl rfl rfl (gtrT (by omega)) rfl (by decide) fun a hK => ?_
    refine stPick hK (wn rfl) rfl rfl rfl rfl rfl (by decide) fun a hK => ?_
    exact hret _ (hK.sub _ ⟨rfl, trivial⟩)
  refine stBin hK (hK.wy rfl rfl rfl (by decide)) rfl rfl rfl (gtrF (by omega)) rfl (by decide) fun a hK => ?_
  refine stPick hK (wn rfl) rfl rfl rfl rfl rfl (by decide) fun a hK => ?_
  show Code.wp _ (.cond (.tmp 19) (codeOf Ybad.f4 [1, 0, 1, 2]) .skip) _ _ _
  refine wp_cond_false (hK.op rfl) (wp_skip ?_)
  show Code.wp _ (codeOf Ybad.f4 [1, 1]) _ _ _
  show Code.wp _ (.seq (.region _ (opsOf Ybad.f4 [1, 1, 0]) false) (codeOf Ybad.f4 [1, 1, 1])) _ _ _
  refine srg ?_
  show wpList _ (opsOf Ybad.f4 [1, 1, 0]) _ [opAt Ybad.f4 [1, 1, 0] 0, opAt Ybad.f4 [1, 1, 0] 1, opAt Ybad.f4 [1, 1, 0] 2, opAt Ybad.f4 [1, 1, 0] 3, opAt Ybad.f4 [1, 1, 0] 4] _ _
  refine stMv hK (wn rfl) rfl rfl rfl (by decide) fun a hK => ?_
  refine stCall hK rfl rfl rfl (R := fun v w' => Bs v xs w' ∧ Fr [] w w') (fun w => by kernel_rfl) ((clone hb (by omega)).mono fun _ _ ⟨v', h⟩ => ⟨v', h⟩) rfl (by decide) fun v a w1 hR hK => ?_
  obtain ⟨hv, hF1⟩ := hR
  obtain ⟨ra, rc, rfl, hrc, _⟩ := id hv
  refine stBuild hK (wn rfl) rfl rfl ((by kernel_rfl : _ = Result.ok (Value.agg #[.slice ra xs.length rc, .nilIface]) _)) rfl (by decide) fun a hK => ?_
  refine st hK (wn rfl) (run_boxOp 29 _ rfl _ (hK.op rfl) _) rfl (by decide) fun a hK => ?_
  refine stAs hK (wn rfl) rfl rfl rfl (by decide) fun a hK => ?_
  show Code.wp _ (codeOf Ybad.f4 [1, 1, 1]) _ _ _
  show Code.wp _ (.seq (.region _ (opsOf Ybad.f4 [1, 1, 1, 0]) false) (codeOf Ybad.f4 [1, 1, 1, 1])) _ _ _
  refine srg ?_
  show wpList _ (opsOf Ybad.f4 [1, 1, 1, 0]) _ [opAt Ybad.f4 [1, 1, 1, 0] 0] _ _
  refine stAs hK (wn rfl) rfl rfl rfl (by decide) fun a hK => ?_
  show Code.wp _ (codeOf Ybad.f4 [1, 1, 1, 1]) _ _ _
  show Code.wp _ (.seq (.region _ (opsOf Ybad.f4 [1, 1, 1, 1, 0]) false) (codeOf Ybad.f4 [1, 1, 1, 1, 1])) _ _ _
  refine srg ?_
  show wpList _ (opsOf Ybad.f4 [1, 1, 1, 1, 0]) _ [opAt Ybad.f4 [1, 1, 1, 1, 0] 0] _ _
  refine stAs hK (wn rfl) rfl rfl rfl (by decide) fun a hK => ?_
  show Code.wp _ (codeOf Ybad.f4 [1, 1, 1, 1, 1]) _ _ _
  have hFA := hF1.alloc (.cells #[.slice ra xs.length rc, .nilIface] 29)
  refine sc_loop w w1.heap.size xs (by omega) ba bc na nc ys q hF1.size hb hE hna hns (by omega) a _ (hK.sub _ (by repeat (first | exact trivial | refine ⟨rfl, ?_⟩))) (Sc.of (fl := false) hFA (heap_alloc_new _ _) (hv.keep ((Fr.refl [] w1).alloc _))) (fun _ _ d _ _ h => by cases d <;> exact h) fun a W k fl hk hK hSc => ?_
  exact sc_last w w1.heap.size xs ba bc na nc ys q hb a W k fl hk hK hSc (fun _ _ d _ _ h => by cases d <;> exact h) fun a W hK hF => bodyPost_ret (result_of hK rfl rfl _) hK.defers ⟨rfl, hF⟩

end Go.Proofs.YbulkaeqwDoor
