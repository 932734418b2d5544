/-
  More single operations at a state that is a variable; the way to a piece of a function's body.
-/
import Derived.Test.YbulkaeqiAnswerAt
namespace Go.Proofs.Ybulkaeqi
open Go.RowKit
def codeAt : List Nat → Code → Code
  | 0 :: p, .seq a _ => codeAt p a
  | 1 :: p, .seq _ b => codeAt p b
  | 2 :: p, .cond _ a _ => codeAt p a
  | 3 :: p, .cond _ _ b => codeAt p b
  | 4 :: p, .loop b => codeAt p b
  | 5 :: p, .block _ b => codeAt p b
  | _, c => c
def codeOf (f : Func) (p : List Nat) : Code := match f.body with | some c => codeAt p c | none => .skip
section
variable {P : Program}
theorem wanted_of {ops : Array Oper} {o : Oper} {a : Act} {j : Nat} {b : Bool} {d : Nat} (hg : o.guard = some (j, b)) (hj : (ops[j]?).bind (·.dst) = some d) (hv : a.eval (.tmp d) = .bool b) (hd : d < a.tmps.size) : Region.wanted o (yielded ops a.tmps) = true := by
  have hv' : a.tmps[d]? = some (.bool b) := by
    simp [Act.eval, hd] at hv
    rw [Array.getElem?_eq_getElem hd, hv]
  simp [Region.wanted, hg, yielded, hj, hv']
theorem wanted_not {ops : Array Oper} {o : Oper} {a : Act} {j : Nat} {b : Bool} {d : Nat} (hg : o.guard = some (j, b)) (hj : (ops[j]?).bind (·.dst) = some d) (hv : a.eval (.tmp d) = .bool (!b)) (hd : d < a.tmps.size) : Region.wanted o (yielded ops a.tmps) = false := by
  have hv' : a.tmps[d]? = some (.bool (!b)) := by
    simp [Act.eval, hd] at hv
    rw [Array.getElem?_eq_getElem hd, hv]
  cases b <;> simp_all [Region.wanted, yielded]
theorem run_lenS {ρ : Operand → Value} {o : Oper} (t e : TypeId) (x : Operand) (ho : o.op = .call { callee := .builtin .len, args := #[x], argTypes := #[t] }) (ht : P.underlying t = some (.slice e)) (ad : Option Addr) (n c : Nat) (hx : ρ x = .slice ad n c) (w : World) :
    (execOp ρ o).run P w = .ok (.value (.int .i64 n)) w := by
  unfold execOp; rw [ho]
  simp [resolve, invoke, builtin, hx, Builtin.len_, run_underlying ht, goInt]
theorem run_lenM {ρ : Operand → Value} {o : Oper} (t k e : TypeId) (x : Operand) (ho : o.op = .call { callee := .builtin .len, args := #[x], argTypes := #[t] }) (ht : P.underlying t = some (.map k e)) (m : Nat) (hx : ρ x = .map (some m)) (es : Array MapEntry) (c : Nat) (w : World) (hm : w.heap[m]? = some (.map es c)) :
    (execOp ρ o).run P w = .ok (.value (.int .i64 es.size)) w := by
  unfold execOp; rw [ho]
  simp [resolve, invoke, builtin, hx, len_map t k e o.type ht m es c w hm]
theorem run_not {ρ : Operand → Value} {o : Oper} (t : TypeId) (x : Operand) (ho : o.op = .unOp .not t x) (b : Bool) (hx : ρ x = .bool b) (w : World) : (execOp ρ o).run P w = .ok (.value (.bool !b)) w := by
  unfold execOp; rw [ho]; dsimp only; rw [hx]; rfl
theorem run_pick {ρ : Operand → Value} {o : Oper} (c x y : Operand) (ho : o.op = .pick c x y) (b : Bool) (u v : Value) (hc : ρ c = .bool b) (hx : ρ x = u) (hy : ρ y = v) (w : World) : (execOp ρ o).run P w = .ok (.value (if b then u else v)) w := by
  unfold execOp; rw [ho]; dsimp only; rw [hc, hx, hy]; rfl
theorem run_mkFn {ρ : Operand → Value} {o : Oper} (f : FuncId) (xs : Array Operand) (ho : o.op = .makeFunc (.func f) #[] xs) (cap : Array Value) (hx : xs.map ρ = cap) (w : World) : (execOp ρ o).run P w = .ok (.value (.func (.func f) #[] cap)) w := by
  unfold execOp; rw [ho]; dsimp only; rw [Array.map_empty, hx]; rfl
theorem run_boxOp {ρ : Operand → Value} {o : Oper} (t : TypeId) (x : Operand) (ho : o.op = .box t x) (cs : Array Value) (hx : ρ x = .agg cs) (w : World) : (execOp ρ o).run P w = .ok (.value (.pointer (some ⟨w.heap.size, 0, none⟩))) (w.alloc (.cells cs t)) := by
  unfold execOp; rw [ho]; dsimp only; rw [hx]; rfl
theorem run_idxS {ρ : Operand → Value} {o : Oper} (t e : TypeId) (x ix : Operand) (ho : o.op = .indexAddr t x ix) (ht : P.underlying t = some (.slice e)) (b off n c : Nat) (hx : ρ x = .slice (some ⟨b, off, none⟩) n c) (i : Nat) (hix : ρ ix = .int .i64 i) (hi : i < n) (size : Nat) (hs : ∀ w, (sizeOf e).run P w = .ok size w) (w : World)
    : (execOp ρ o).run P w = .ok (.value (.pointer (some ⟨b, off + i * size, none⟩))) w := by
  unfold execOp; rw [ho]; dsimp only; rw [hx, hix]
  simp [Instr.indexAt, run_underlying ht, hs, go_sem, Addr.add]
  rw [if_pos hi]
  by_cases h : i * size = 0
  · rw [if_pos h, h]; rfl
  · rw [if_neg h]
/-- A store of one cell, in a plain region. -/
theorem wpList_store1 {ops : Array Oper} {rest : List Oper} {o : Oper} {a : Act} {w : World} {Q : Exit → Act → World → Prop} (t : TypeId) (x y : Operand) (ho : o.op = .store t x y) (hg : o.guard = none) (p : Addr) (v : Value) (hx : a.eval x = .pointer (some p)) (hy : a.eval y = v)
    (hs : ∀ w, (sizeOf t).run P w = .ok 1 w) (hv : v.cells = #[v]) (h1 : v.oneCell' = true) (u : Value) (hc : w.cell? p = some u) (hf : w.frozen? p = false) (h : wpList P ops Q rest (a.put o.dst undef) (w.setCell p v)) : wpList P ops Q (o :: rest) a w :=
  wpList_plain hg fun _ hK => wp_store_one t x y ho p v hx hy hs hv h1 u hc hf (hK _ _ h)
theorem wpList_enter {ops : Array Oper} {rest : List Oper} {o : Oper} {a : Act} {w w' : World} {Q : Exit → Act → World → Prop} {f : FuncId} {args : Array Value} (hg : o.guard = none) (hr : (execOp a.eval o).run P w = .ok (.enter f args) w')
    (hc : Calls P f args w' fun e w'' => ∃ v, e = .returned v ∧ wpList P ops Q rest (a.put o.dst v) w'') : wpList P ops Q (o :: rest) a w :=
  wpList_plain hg fun _ hK => wp_enter hr (hc.mono fun _e _w'' ⟨v, he, h⟩ => ⟨v, he, hK _ _ h⟩)
end
end Go.Proofs.Ybulkaeqi
