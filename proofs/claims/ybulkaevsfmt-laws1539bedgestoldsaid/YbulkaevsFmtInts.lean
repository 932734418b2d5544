import Derived.Test.YbulkaevsFmtOk
namespace Go.Proofs.YbulkaevsFmt
open Go.RowKit Go.Extern.Stop Go.Stop Go.Extern
def errV (q : Addr) : Value := .iface 50 (.pointer (some q))
theorem run_sl1 {ρ : Operand → Value} {o : Oper} (x : Operand) (ho : o.op = .buildSlice 36 1 #[(0, x)]) (q : Addr) (hx : ρ x = errV q) (w : World) : (execOp ρ o).run Ybaf.prog w = .ok (.value (.slice (some ⟨w.heap.size, 0, none⟩) 1 1)) (w.alloc (.cells #[errV q] 20)) := by
  unfold execOp; rw [ho]; simp only [List.map_toArray, List.map_cons, List.map_nil, hx]; kernel_rfl
theorem run_sl2 {ρ : Operand → Value} {o : Oper} (x y : Operand) (ho : o.op = .buildSlice 36 2 #[(0, x), (1, y)]) (q : Addr) (i : Int) (hx : ρ x = errV q) (hy : ρ y = .iface 3 (.int .i64 i)) (w : World) : (execOp ρ o).run Ybaf.prog w = .ok (.value (.slice (some ⟨w.heap.size, 0, none⟩) 2 2)) (w.alloc (.cells #[errV q, .iface 3 (.int .i64 i)] 20)) := by
  unfold execOp; rw [ho]; simp only [List.map_toArray, List.map_cons, List.map_nil, hx, hy]; kernel_rfl
theorem int_eq {x z : Int} {a b : Operand} {w : World} {r : Bool} (h : decide (x = z) = r) : (do eqGuard .eql 3 a b (.int .i64 x) (.int .i64 z); binOp .eql 3 (.int .i64 x) (.int .i64 z) : Sem Value).run Ybaf.prog w = .ok (.bool r) w := by
  subst h
  have : (do eqGuard .eql 3 a b (.int .i64 x) (.int .i64 z); binOp .eql 3 (.int .i64 x) (.int .i64 z) : Sem Value).run Ybaf.prog w = .ok (.bool (x == z)) w := by kernel_rfl
  rw [this]; rfl
theorem u8_eq {x z : Int} {a b : Operand} {w : World} {r : Bool} (h : decide (x = z) = r) : (do eqGuard .eql 5 a b (.int .u8 x) (.int .u8 z); binOp .eql 5 (.int .u8 x) (.int .u8 z) : Sem Value).run Ybaf.prog w = .ok (.bool r) w := by
  subst h
  have : (do eqGuard .eql 5 a b (.int .u8 x) (.int .u8 z); binOp .eql 5 (.int .u8 x) (.int .u8 z) : Sem Value).run Ybaf.prog w = .ok (.bool (x == z)) w := by kernel_rfl
  rw [this]; rfl
theorem u8_ne {x z : Int} {a b : Operand} {w : World} {r : Bool} (h : decide (x ≠ z) = r) : (do eqGuard .neq 5 a b (.int .u8 x) (.int .u8 z); binOp .neq 5 (.int .u8 x) (.int .u8 z) : Sem Value).run Ybaf.prog w = .ok (.bool r) w := by
  subst h
  have : (do eqGuard .neq 5 a b (.int .u8 x) (.int .u8 z); binOp .neq 5 (.int .u8 x) (.int .u8 z) : Sem Value).run Ybaf.prog w = .ok (.bool (x != z)) w := by kernel_rfl
  rw [this]; simp [bne]; rfl
theorem u8_ge {x z : Int} {a b : Operand} {w : World} {r : Bool} (h : decide (x ≥ z) = r) : (do eqGuard .geq 5 a b (.int .u8 x) (.int .u8 z); binOp .geq 5 (.int .u8 x) (.int .u8 z) : Sem Value).run Ybaf.prog w = .ok (.bool r) w := by subst h; kernel_rfl
theorem int_lt {x z : Int} {a b : Operand} {w : World} {r : Bool} (h : decide (x < z) = r) : (do eqGuard .lss 3 a b (.int .i64 x) (.int .i64 z); binOp .lss 3 (.int .i64 x) (.int .i64 z) : Sem Value).run Ybaf.prog w = .ok (.bool r) w := by subst h; kernel_rfl
theorem int_gt {x z : Int} {a b : Operand} {w : World} {r : Bool} (h : decide (x > z) = r) : (do eqGuard .gtr 3 a b (.int .i64 x) (.int .i64 z); binOp .gtr 3 (.int .i64 x) (.int .i64 z) : Sem Value).run Ybaf.prog w = .ok (.bool r) w := by subst h; kernel_rfl
theorem int_sub {x z y : Int} {a b : Operand} {w : World} (h : x - z = y) (h1 : -10000000 ≤ y) (h2 : y ≤ 10000000) : (do eqGuard .sub 3 a b (.int .i64 x) (.int .i64 z); binOp .sub 3 (.int .i64 x) (.int .i64 z) : Sem Value).run Ybaf.prog w = .ok (.int .i64 y) w := by
  have : (do eqGuard .sub 3 a b (.int .i64 x) (.int .i64 z); binOp .sub 3 (.int .i64 x) (.int .i64 z) : Sem Value).run Ybaf.prog w = .ok (.int .i64 (IntKind.wrap .i64 (x - z))) w := by kernel_rfl
  rw [this, h, show IntKind.wrap .i64 y = y from by rw [IntKind.wrap_i64]; omega]
end Go.Proofs.YbulkaevsFmt
