import Derived.Test.YbulkaesmRows
import Derived.Test.YbulkaesmBase
import Derived.Deep.MidRow
import Derived.OwnWalk
namespace Go.Proofs.Ybulkaesm
open Go.RowKit
def ptr (b : Nat) : Value := .pointer (some ⟨b, 0, none⟩)
theorem Fm.begin {P : Program} {c : Code} {Q : Exit → Act → World → Prop} {a : Act} {w : World} (n : Nat) (K : List (Nat × Value)) (h1 : a.tmps.size = n) (h2 : a.defers = []) (h : SubA K a) (g : ∀ a, Fm n K a → Code.wp P c Q a w) : Code.wp P c Q a w := g a (Fm.of h1 h2 h)
theorem result_of {n : Nat} {K : List (Nat × Value)} {a : Act} {fn : Func} {t : Nat} {v : Value} (hK : Fm n K a) (hf : fn.results = #[.tmp t]) (h : look K t = some v) (W : World) : (results fn a.tmps).run Yba.prog W = .ok v W := by
  rw [results_tmp hf]
  have := hK.get t v h
  rw [show a.tmps.getD t undef = v from this]
theorem int_lss {x z : Int} {a b : Operand} {w : World} : (do eqGuard .lss 3 a b (.int .i64 x) (.int .i64 z); binOp .lss 3 (.int .i64 x) (.int .i64 z) : Sem Value).run Yba.prog w = .ok (.bool (decide (x < z))) w := by kernel_rfl
theorem int_geq {x z : Int} {a b : Operand} {w : World} : (do eqGuard .geq 3 a b (.int .i64 x) (.int .i64 z); binOp .geq 3 (.int .i64 x) (.int .i64 z) : Sem Value).run Yba.prog w = .ok (.bool (decide (x ≥ z))) w := by kernel_rfl
theorem int_gtr {x z : Int} {a b : Operand} {w : World} : (do eqGuard .gtr 3 a b (.int .i64 x) (.int .i64 z); binOp .gtr 3 (.int .i64 x) (.int .i64 z) : Sem Value).run Yba.prog w = .ok (.bool (decide (x > z))) w := by kernel_rfl
theorem int_eql {x z : Int} {a b : Operand} {w : World} : (do eqGuard .eql 3 a b (.int .i64 x) (.int .i64 z); binOp .eql 3 (.int .i64 x) (.int .i64 z) : Sem Value).run Yba.prog w = .ok (.bool (decide (x = z))) w := by
  have : (do eqGuard .eql 3 a b (.int .i64 x) (.int .i64 z); binOp .eql 3 (.int .i64 x) (.int .i64 z) : Sem Value).run Yba.prog w = .ok (.bool (x == z)) w := by kernel_rfl
  rw [this]; rfl
theorem u8_eql {t : TypeId} {x z : Int} {a b : Operand} {w : World} (ht : t = 5 ∨ t = 34) : (do eqGuard .eql t a b (.int .u8 x) (.int .u8 z); binOp .eql t (.int .u8 x) (.int .u8 z) : Sem Value).run Yba.prog w = .ok (.bool (decide (x = z))) w := by
  have : (do eqGuard .eql t a b (.int .u8 x) (.int .u8 z); binOp .eql t (.int .u8 x) (.int .u8 z) : Sem Value).run Yba.prog w = .ok (.bool (x == z)) w := by rcases ht with rfl | rfl <;> kernel_rfl
  rw [this]; rfl
theorem u8_rem {x : Int} {a b : Operand} {w : World} (h0 : 0 ≤ x) : (do eqGuard .rem 5 a b (.int .u8 x) (.int .u8 3); binOp .rem 5 (.int .u8 x) (.int .u8 3) : Sem Value).run Yba.prog w = .ok (.int .u8 (x % 3)) w := by
  have : (do eqGuard .rem 5 a b (.int .u8 x) (.int .u8 3); binOp .rem 5 (.int .u8 x) (.int .u8 3) : Sem Value).run Yba.prog w = .ok (.int .u8 (Int.tmod x 3)) w := by kernel_rfl
  rw [this, Int.tmod_eq_emod_of_nonneg h0]
theorem int_add {x z y : Int} {a b : Operand} {w : World} (h : x + z = y) (h1 : -1000000 ≤ y) (h2 : y ≤ 1000000) : (do eqGuard .add 3 a b (.int .i64 x) (.int .i64 z); binOp .add 3 (.int .i64 x) (.int .i64 z) : Sem Value).run Yba.prog w = .ok (.int .i64 y) w := by
  have : (do eqGuard .add 3 a b (.int .i64 x) (.int .i64 z); binOp .add 3 (.int .i64 x) (.int .i64 z) : Sem Value).run Yba.prog w = .ok (.int .i64 (IntKind.wrap .i64 (x + z))) w := by kernel_rfl
  rw [this, h, show IntKind.wrap .i64 y = y from by rw [IntKind.wrap_i64]; omega]

set_option maxRecDepth 20000 in
theorem role (r : Int) (hr0 : 0 ≤ r) (w : World) : Calls Yba.prog 4 #[.int .u8 r] w fun e w' => e = .returned (.int .u8 (r % 3)) ∧ w' = w := by
  go_enter Yba.func4, Yba.ntmps4
  show Code.wp _ (codeOf Yba.f4 []) _ _ _
  refine Fm.begin 9 [(0, .int .u8 r)] rfl rfl ⟨rfl, trivial⟩ fun a hK => ?_
  show Code.wp _ (.seq (.region _ (opsOf Yba.f4 [0]) false) (codeOf Yba.f4 [1])) _ _ _
  refine srg ?_
  show wpList _ (opsOf Yba.f4 [0]) _ [opAt Yba.f4 [0] 0] _ _
  refine stAs hK (wn rfl) rfl rfl rfl (by decide) fun a hK => ?_
  show Code.wp _ (codeOf Yba.f4 [1]) _ _ _
  show Code.wp _ (.seq (.seq (.region _ (opsOf Yba.f4 [1, 0, 0]) false) (.block 0 (codeOf Yba.f4 [1, 0, 1, 5]))) (codeOf Yba.f4 [1, 1])) _ _ _
  refine wp_seq (srg ?_)
  show wpList _ (opsOf Yba.f4 [1, 0, 0]) _ [opAt Yba.f4 [1, 0, 0] 0, opAt Yba.f4 [1, 0, 0] 1] _ _
  refine stMv hK (wn rfl) rfl rfl rfl (by decide) fun a hK => ?_
  refine stBin hK (wn rfl) rfl rfl rfl (u8_rem hr0) rfl (by decide) fun a hK => ?_
  show Code.wp _ (.block 0 (codeOf Yba.f4 [1, 0, 1, 5])) _ _ _
  refine wp_block ?_
  show Code.wp _ (.seq (.region _ (opsOf Yba.f4 [1, 0, 1, 5, 0]) false) (.cond (.tmp 5) (.seq (.region _ (opsOf Yba.f4 [1, 0, 1, 5, 1, 2, 0]) false) .ret) (.seq (.region _ (opsOf Yba.f4 [1, 0, 1, 5, 1, 3, 0]) false) (.cond (.tmp 7) (.seq (.region _ (opsOf Yba.f4 [1, 0, 1, 5, 1, 3, 1, 2, 0]) false) .ret) .skip)))) _ _ _
  refine srg ?_
  show wpList _ (opsOf Yba.f4 [1, 0, 1, 5, 0]) _ [opAt Yba.f4 [1, 0, 1, 5, 0] 0, opAt Yba.f4 [1, 0, 1, 5, 0] 1] _ _
  refine stBin hK (wn rfl) rfl rfl rfl (u8_eql (.inl rfl)) rfl (by decide) fun a hK => ?_
  refine stAs hK (wn rfl) rfl rfl rfl (by decide) fun a hK => ?_
  by_cases h0 : r % 3 = 0
  · refine wp_cond_true ((hK.op rfl).trans (by rw [decide_eq_true h0])) (srg ?_)
    show wpList _ (opsOf Yba.f4 [1, 0, 1, 5, 1, 2, 0]) _ [opAt Yba.f4 [1, 0, 1, 5, 1, 2, 0] 0] _ _
    refine stAs hK (wn rfl) rfl rfl rfl (by decide) fun a hK => ?_
    refine wp_ret ?_
    try dsimp only [Exit.then, Exit.inBlock]
    exact bodyPost_ret (result_of hK rfl rfl _) hK.defers ⟨by rw [h0], rfl⟩
  refine wp_cond_false ((hK.op rfl).trans (by rw [decide_eq_false h0])) (srg ?_)
  show wpList _ (opsOf Yba.f4 [1, 0, 1, 5, 1, 3, 0]) _ [opAt Yba.f4 [1, 0, 1, 5, 1, 3, 0] 0, opAt Yba.f4 [1, 0, 1, 5, 1, 3, 0] 1] _ _
  refine stBin hK (wn rfl) rfl rfl rfl (u8_eql (.inl rfl)) rfl (by decide) fun a hK => ?_
  refine stAs hK (wn rfl) rfl rfl rfl (by decide) fun a hK => ?_
  by_cases h1 : r % 3 = 1
  · refine wp_cond_true ((hK.op rfl).trans (by rw [decide_eq_true h1])) (srg ?_)
    show wpList _ (opsOf Yba.f4 [1, 0, 1, 5, 1, 3, 1, 2, 0]) _ [opAt Yba.f4 [1, 0, 1, 5, 1, 3, 1, 2, 0] 0] _ _
    refine stAs hK (wn rfl) rfl rfl rfl (by decide) fun a hK => ?_
    refine wp_ret ?_
    try dsimp only [Exit.then, Exit.inBlock]
    exact bodyPost_ret (result_of hK rfl rfl _) hK.defers ⟨by rw [h1], rfl⟩
  refine wp_cond_false ((hK.op rfl).trans (by rw [decide_eq_false h1])) (wp_skip ?_)
  show Code.wp _ (.seq (.region _ (opsOf Yba.f4 [1, 1, 0]) false) .ret) _ _ _
  refine srg ?_
  show wpList _ (opsOf Yba.f4 [1, 1, 0]) _ [opAt Yba.f4 [1, 1, 0] 0] _ _
  refine stAs hK (wn rfl) rfl rfl rfl (by decide) fun a hK => ?_
  refine wp_ret ?_
  try dsimp only [Exit.then, Exit.inBlock]
  exact bodyPost_ret (result_of hK rfl rfl _) hK.defers ⟨by rw [show r % 3 = 2 by omega], rfl⟩

end Go.Proofs.Ybulkaesm
