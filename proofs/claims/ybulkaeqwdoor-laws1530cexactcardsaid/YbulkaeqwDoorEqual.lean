import Derived.Test.YbulkaeqwDoorBytes
namespace Go.Proofs.YbulkaeqwDoor
open Go.RowKit
def ptr (b : Nat) : Value := .pointer (some ⟨b, 0, none⟩)
theorem Fm.begin {P : Program} {c : Code} {Q : Exit → Act → World → Prop} {a : Act} {w : World} (n : Nat) (K : List (Nat × Value)) (h1 : a.tmps.size = n) (h2 : a.defers = []) (h : SubA K a) (g : ∀ a, Fm n K a → Code.wp P c Q a w) : Code.wp P c Q a w := g a (Fm.of h1 h2 h)
def nilS : Value := .slice none 0 0
/-- errCutShort's value. -/
def errV (q : Addr) : Value := .iface 36 (.pointer (some q))
theorem result_of {n : Nat} {K : List (Nat × Value)} {a : Act} {fn : Func} {t : Nat} {v : Value} (hK : Fm n K a) (hf : fn.results = #[.tmp t]) (h : look K t = some v) (W : World) : (results fn a.tmps).run Ybad.prog W = .ok v W := by
  rw [results_tmp hf]
  have := hK.get t v h
  rw [show a.tmps.getD t undef = v from this]
theorem isOk {x : Value} {a b : Operand} {t : TypeId} {v : Value} {w : World} {op : BinOp} {r : Value} (h1 : (eqGuard op t a b x v).run Ybad.prog w = .ok () w) (h2 : (binOp op t x v).run Ybad.prog w = .ok r w) : (do eqGuard op t a b x v; binOp op t x v : Sem Value).run Ybad.prog w = .ok r w := by
  rw [Sem.run_bind, h1]; simp only [Result.andThen_ok]; exact h2
theorem int_lss {x z : Int} {a b : Operand} {w : World} : (do eqGuard .lss 3 a b (.int .i64 x) (.int .i64 z); binOp .lss 3 (.int .i64 x) (.int .i64 z) : Sem Value).run Ybad.prog w = .ok (.bool (decide (x < z))) w := by kernel_rfl
theorem int_gtr {x z : Int} {a b : Operand} {w : World} : (do eqGuard .gtr 3 a b (.int .i64 x) (.int .i64 z); binOp .gtr 3 (.int .i64 x) (.int .i64 z) : Sem Value).run Ybad.prog w = .ok (.bool (decide (x > z))) w := by kernel_rfl
theorem int_eql {x z : Int} {a b : Operand} {w : World} (h : x = z) : (do eqGuard .eql 3 a b (.int .i64 x) (.int .i64 z); binOp .eql 3 (.int .i64 x) (.int .i64 z) : Sem Value).run Ybad.prog w = .ok (.bool true) w := by
  subst h
  have : (do eqGuard .eql 3 a b (.int .i64 x) (.int .i64 x); binOp .eql 3 (.int .i64 x) (.int .i64 x) : Sem Value).run Ybad.prog w = .ok (.bool (x == x)) w := by kernel_rfl
  rw [this]; simp
theorem int_neq {x z : Int} {a b : Operand} {w : World} (h : x = z) : (do eqGuard .neq 3 a b (.int .i64 x) (.int .i64 z); binOp .neq 3 (.int .i64 x) (.int .i64 z) : Sem Value).run Ybad.prog w = .ok (.bool false) w := by
  subst h
  have : (do eqGuard .neq 3 a b (.int .i64 x) (.int .i64 x); binOp .neq 3 (.int .i64 x) (.int .i64 x) : Sem Value).run Ybad.prog w = .ok (.bool (x != x)) w := by kernel_rfl
  rw [this]; simp
theorem int_add {x z y : Int} {a b : Operand} {w : World} (h : x + z = y) (h1 : -1000000 ≤ y) (h2 : y ≤ 1000000) : (do eqGuard .add 3 a b (.int .i64 x) (.int .i64 z); binOp .add 3 (.int .i64 x) (.int .i64 z) : Sem Value).run Ybad.prog w = .ok (.int .i64 y) w := by
  have : (do eqGuard .add 3 a b (.int .i64 x) (.int .i64 z); binOp .add 3 (.int .i64 x) (.int .i64 z) : Sem Value).run Ybad.prog w = .ok (.int .i64 (IntKind.wrap .i64 (x + z))) w := by kernel_rfl
  rw [this, h, show IntKind.wrap .i64 y = y from by rw [IntKind.wrap_i64]; omega]
theorem int_sub {x z y : Int} {a b : Operand} {w : World} (h : x - z = y) (h1 : -1000000 ≤ y) (h2 : y ≤ 1000000) : (do eqGuard .sub 3 a b (.int .i64 x) (.int .i64 z); binOp .sub 3 (.int .i64 x) (.int .i64 z) : Sem Value).run Ybad.prog w = .ok (.int .i64 y) w := by
  have : (do eqGuard .sub 3 a b (.int .i64 x) (.int .i64 z); binOp .sub 3 (.int .i64 x) (.int .i64 z) : Sem Value).run Ybad.prog w = .ok (.int .i64 (IntKind.wrap .i64 (x - z))) w := by kernel_rfl
  rw [this, h, show IntKind.wrap .i64 y = y from by rw [IntKind.wrap_i64]; omega]

set_option maxRecDepth 20000 in
theorem equal_yes {v u : Value} {xs : List UInt8} {w : World} (hv : Bs v xs w) (hu : Bs u xs w) : Calls Ybad.prog 8 #[v, u] w fun e w' => e = .returned (.bool true) ∧ w' = w := by
  go_enter Ybad.func8, Ybad.ntmps8
  show Code.wp _ (codeOf Ybad.f8 []) _ _ _
  refine Fm.begin 10 [(0, v), (1, u)] rfl rfl ⟨rfl, rfl, trivial⟩ fun a hK => ?_
  show Code.wp _ (.seq (.region _ (opsOf Ybad.f8 [0]) false) (codeOf Ybad.f8 [1])) _ _ _
  refine srg ?_
  show wpList _ (opsOf Ybad.f8 [0]) _ [opAt Ybad.f8 [0] 0] _ _
  refine stAs hK (wn rfl) rfl rfl rfl (by decide) fun a hK => ?_
  show Code.wp _ (codeOf Ybad.f8 [1]) _ _ _
  show Code.wp _ (.seq (.region _ (opsOf Ybad.f8 [1, 0]) false) .ret) _ _ _
  refine srg ?_
  show wpList _ (opsOf Ybad.f8 [1, 0]) _ [opAt Ybad.f8 [1, 0] 0, opAt Ybad.f8 [1, 0] 1, opAt Ybad.f8 [1, 0] 2, opAt Ybad.f8 [1, 0] 3, opAt Ybad.f8 [1, 0] 4, opAt Ybad.f8 [1, 0] 5] _ _
  refine stMv hK (wn rfl) rfl rfl rfl (by decide) fun a hK => ?_
  refine st hK (wn rfl) (run_conv _ _ _ rfl _ _ (hK.op rfl) _ hv.convert) rfl (by decide) fun a hK => ?_
  refine stMv hK (wn rfl) rfl rfl rfl (by decide) fun a hK => ?_
  refine st hK (wn rfl) (run_conv _ _ _ rfl _ _ (hK.op rfl) _ hu.convert) rfl (by decide) fun a hK => ?_
  refine stBin hK (wn rfl) rfl rfl rfl (str_eq _ _ _ _) rfl (by decide) fun a hK => ?_
  refine stAs hK (wn rfl) rfl rfl rfl (by decide) fun a hK => ?_
  exact wp_ret (bodyPost_ret (result_of hK rfl rfl _) hK.defers ⟨rfl, rfl⟩)

set_option maxRecDepth 20000 in
theorem errors_new (s : ByteArray) (w : World) : Calls Ybad.prog 6 #[.string s] w fun e w' => e = .returned (errV ⟨w.heap.size, 0, none⟩) ∧ Fr [] w w' := by
  go_enter Ybad.func6, Ybad.ntmps6
  show Code.wp _ (codeOf Ybad.f6 []) _ _ _
  refine Fm.begin 7 [(0, .string s)] rfl rfl ⟨rfl, trivial⟩ fun a hK => ?_
  have hW := Wd.start w
  show Code.wp _ (.seq (.region _ (opsOf Ybad.f6 [0]) false) (codeOf Ybad.f6 [1])) _ _ _
  refine srg ?_
  show wpList _ (opsOf Ybad.f6 [0]) _ [opAt Ybad.f6 [0] 0] _ _
  refine stAs hK (wn rfl) rfl rfl rfl (by decide) fun a hK => ?_
  show Code.wp _ (codeOf Ybad.f6 [1]) _ _ _
  show Code.wp _ (.seq (.region _ (opsOf Ybad.f6 [1, 0]) false) .ret) _ _ _
  refine srg ?_
  show wpList _ (opsOf Ybad.f6 [1, 0]) _ [opAt Ybad.f6 [1, 0] 0, opAt Ybad.f6 [1, 0] 1, opAt Ybad.f6 [1, 0] 2, opAt Ybad.f6 [1, 0] 3, opAt Ybad.f6 [1, 0] 4] _ _
  refine stMv hK (wn rfl) rfl rfl rfl (by decide) fun a hK => ?_
  refine stBuild hK (wn rfl) rfl rfl ((by kernel_rfl : _ = Result.ok (Value.agg #[.string s]) _)) rfl (by decide) fun a hK => ?_
  refine stBox hK hW (wn rfl) rfl rfl rfl (by decide) fun a w hK hW => ?_
  refine stIf hK (wn rfl) rfl rfl (by kernel_rfl) rfl (by decide) fun a hK => ?_
  refine stAs hK (wn rfl) rfl rfl rfl (by decide) fun a hK => ?_
  exact wp_ret (bodyPost_ret (result_of hK rfl rfl _) hK.defers ⟨rfl, hW.fr⟩)

end Go.Proofs.YbulkaeqwDoor
