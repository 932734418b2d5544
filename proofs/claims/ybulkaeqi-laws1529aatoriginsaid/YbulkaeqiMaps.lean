import Derived.Test.YbulkaeqiDone
namespace Go.Proofs.Ybulkaeqi
open Go.RowKit
section
variable {P : Program}
/-- The world with another object in block m. -/
def setB (w : World) (m : Nat) (o : Obj) : World := { w with heap := w.heap.setIfInBounds m o }
theorem fr_setB (w : World) (m : Nat) (o : Obj) : Fr [m] w (setB w m o) :=
  ⟨rfl, rfl, rfl, by simp [setB], fun k hk hn => by
    have : m ≠ k := fun e => hn (by simp [e])
    simp [setB, Array.getElem?_setIfInBounds_ne this]⟩
theorem heap_setB (w : World) (m : Nat) (o : Obj) (h : m < w.heap.size) : (setB w m o).heap[m]? = some o := by simp [setB, h]
theorem run_checkKey_int (b : Bool) (n : Nat) (k : TypeId) (q : IntKind) (hk : P.underlying k = some (.int q)) (x : Int) (w : World) : (Instr.checkKey b (n + 1) k (.int q x)).run P w = .ok () w := by
  unfold Instr.checkKey
  rw [Sem.run_bind, run_underlying hk, Result.andThen_ok]
  rfl
theorem run_findKey_int (k : TypeId) (q : IntKind) (hk : P.underlying k = some (.int q)) (x : Int) (es : List MapEntry) (r : Option (Nat × Value)) (hr : Instr.findNow (.int q) (.int q x) es 0 = some r) (w : World) : (Instr.findKey k (.int q x) es).run P w = .ok r w := by
  unfold Instr.findKey
  rw [Sem.run_bind, run_underlying hk, Result.andThen_ok, hr]
  rfl
theorem look_hit (t k e : TypeId) (q : IntKind) (ht : P.underlying t = some (.map k e)) (hk : P.underlying k = some (.int q)) (m : Nat) (x : Int) (es : Array MapEntry) (c i : Nat) (v : Value) (w : World) (hm : w.heap[m]? = some (.map es c)) (hf : Instr.findNow (.int q) (.int q x) es.toList 0 = some (some (i, v))) :
    (Instr.lookup t (.map (some m)) (.int q x) true).run P w = .ok (.tuple #[v, .bool true]) w := by
  unfold Instr.lookup
  have hg : (getObj m).run P w = .ok (.map es c) w := by simp [getObj, Sem.run, hm]
  simp [Sem.run_bind, run_underlying ht, hg, run_checkKey_int es.isEmpty 9999 k q hk, run_findKey_int k q hk x _ _ hf]
theorem look_miss (t k e : TypeId) (q : IntKind) (ht : P.underlying t = some (.map k e)) (hk : P.underlying k = some (.int q)) (m : Nat) (x : Int) (es : Array MapEntry) (c : Nat) (z : Value) (w : World) (hm : w.heap[m]? = some (.map es c)) (hf : Instr.findNow (.int q) (.int q x) es.toList 0 = some none) (hz : ∀ w, (zeroValue e).run P w = .ok z w) :
    (Instr.lookup t (.map (some m)) (.int q x) true).run P w = .ok (.tuple #[z, .bool false]) w := by
  unfold Instr.lookup
  have hg : (getObj m).run P w = .ok (.map es c) w := by simp [getObj, Sem.run, hm]
  simp [Sem.run_bind, run_underlying ht, hg, run_checkKey_int es.isEmpty 9999 k q hk, run_findKey_int k q hk x _ _ hf, hz]
theorem del_hit (t k e ty : TypeId) (q : IntKind) (ht : P.underlying t = some (.map k e)) (hk : P.underlying k = some (.int q)) (m : Nat) (x : Int) (es : Array MapEntry) (c i : Nat) (v : Value) (w : World) (hm : w.heap[m]? = some (.map es c)) (hf : Instr.findNow (.int q) (.int q x) es.toList 0 = some (some (i, v))) :
    (Builtin.delete_ #[t, k] ty #[.map (some m), .int q x]).run P w = .ok (.tuple #[]) (setB w m (.map (es.eraseIdxIfInBounds i) c)) := by
  unfold Builtin.delete_
  have hg : (getObj m).run P w = .ok (.map es c) w := by simp [getObj, Sem.run, hm]
  have hs : ∀ o, (setObj m o).run P w = .ok () (setB w m o) := fun o => by simp [setObj, Sem.run, hm, setB]
  simp [Sem.run_bind, run_underlying ht, hg, run_checkKey_int es.isEmpty 9999 k q hk, run_findKey_int k q hk x _ _ hf, hs]
theorem put_new (t k e : TypeId) (q : IntKind) (ht : P.underlying t = some (.map k e)) (hk : P.underlying k = some (.int q)) (m : Nat) (x : Int) (es : Array MapEntry) (c : Nat) (v : Value) (w : World) (hm : w.heap[m]? = some (.map es c)) (hf : Instr.findNow (.int q) (.int q x) es.toList 0 = some none) :
    (Instr.mapUpdate t (.map (some m)) (.int q x) v).run P w = .ok () (setB w m (.map (es.push { key := .int q x, val := v, born := c }) (c + 1))) := by
  unfold Instr.mapUpdate
  have hg : (getObj m).run P w = .ok (.map es c) w := by simp [getObj, Sem.run, hm]
  have hs : ∀ o, (setObj m o).run P w = .ok () (setB w m o) := fun o => by simp [setObj, Sem.run, hm, setB]
  simp [Sem.run_bind, run_underlying ht, hg, run_checkKey_int false 9999 k q hk, run_findKey_int k q hk x _ _ hf, hs]
theorem len_map (t k e ty : TypeId) (ht : P.underlying t = some (.map k e)) (m : Nat) (es : Array MapEntry) (c : Nat) (w : World) (hm : w.heap[m]? = some (.map es c)) :
    (Builtin.len_ #[t] ty #[.map (some m)]).run P w = .ok (.int .i64 es.size) w := by
  unfold Builtin.len_
  have hg : (getObj m).run P w = .ok (.map es c) w := by simp [getObj, Sem.run, hm]
  simp [Sem.run_bind, run_underlying ht, hg, goInt]
/-! at a plain region's operations -/
variable {ops : Array Oper} {rest : List Oper} {o : Oper} {a : Act} {w : World} {Q : Exit → Act → World → Prop}
theorem wpList_look (t : TypeId) (x ix : Operand) (ho : o.op = .lookup t x ix true) (hw : Region.wanted o (yielded ops a.tmps) = true) (u y r : Value) (hx : a.eval x = u) (hy : a.eval ix = y) (hr : (Instr.lookup t u y true).run P w = .ok r w)
    (h : wpList P ops Q rest (a.put o.dst r) w) : wpList P ops Q (o :: rest) a w := by
  refine wpList_of_run_want hw ?_ h
  unfold execOp; rw [ho]; dsimp only; rw [hx, hy, Sem.run_bind, hr]; rfl
theorem wpList_del (t k : TypeId) (x ix : Operand) (ho : o.op = .call { callee := .builtin .delete, args := #[x, ix], argTypes := #[t, k] }) (hw : Region.wanted o (yielded ops a.tmps) = true) (u y : Value) (w' : World) (hx : a.eval x = u) (hy : a.eval ix = y)
    (hr : (Builtin.delete_ #[t, k] o.type #[u, y]).run P w = .ok (.tuple #[]) w') (h : wpList P ops Q rest (a.put o.dst (.tuple #[])) w') : wpList P ops Q (o :: rest) a w := by
  refine wpList_of_run_want hw ?_ h
  unfold execOp; rw [ho]
  simp [resolve, invoke, builtin, hx, hy, hr]
theorem wpList_lenm (t : TypeId) (x : Operand) (ho : o.op = .call { callee := .builtin .len, args := #[x], argTypes := #[t] }) (hw : Region.wanted o (yielded ops a.tmps) = true) (u r : Value) (hx : a.eval x = u)
    (hr : (Builtin.len_ #[t] o.type #[u]).run P w = .ok r w) (h : wpList P ops Q rest (a.put o.dst r) w) : wpList P ops Q (o :: rest) a w := by
  refine wpList_of_run_want hw ?_ h
  unfold execOp; rw [ho]
  simp [resolve, invoke, builtin, hx, hr]
theorem wpList_put (t : TypeId) (m k x : Operand) (ho : o.op = .mapUpdate t m k x) (hw : Region.wanted o (yielded ops a.tmps) = true) (u y v : Value) (w' : World) (hm : a.eval m = u) (hy : a.eval k = y) (hx : a.eval x = v)
    (hr : (Instr.mapUpdate t u y v).run P w = .ok () w') (h : wpList P ops Q rest (a.put o.dst undef) w') : wpList P ops Q (o :: rest) a w := by
  refine BigFrame.wpList_want hw fun K hK => ?_
  unfold Oper.wp execOp; rw [ho]; dsimp only; rw [hm, hy, hx, Sem.run_bind, hr]
  exact hK _ _ h
end
end Go.Proofs.Ybulkaeqi
