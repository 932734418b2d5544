import Derived.Test.YbulkaeqwDoorClone
namespace Go.Proofs.YbulkaeqwDoor
open Go.RowKit
theorem eqPtr (d : Nat) (q : Addr) (w : World) : (Op.equalIn (d + 1) 36 (.pointer (some q)) (.pointer (some q))).run Ybad.prog w = .ok true w := by
  unfold Op.equalIn
  simp [run_underlying Ybad.underlying36]
  simp [sameAddr]
theorem eqErr (q : Addr) (w : World) : (Op.equal 25 (errV q) (errV q)).run Ybad.prog w = .ok true w := by
  have h : (Op.equal 25 (errV q) (errV q)).run Ybad.prog w = (Op.equalIn 9999 36 (.pointer (some q)) (.pointer (some q))).run Ybad.prog w := by kernel_rfl
  rw [h]; exact eqPtr 9998 q w
theorem err_neq (q : Addr) (x y : Operand) (w : World) : (do eqGuard .neq 25 x y (errV q) (errV q); binOp .neq 25 (errV q) (errV q) : Sem Value).run Ybad.prog w = .ok (.bool false) w := by
  refine isOk (by cases x <;> cases y <;> kernel_rfl) ?_
  have h : (binOp .neq 25 (errV q) (errV q)).run Ybad.prog w = ((fun a => Value.bool !a) <$> Op.equal 25 (errV q) (errV q) : Sem Value).run Ybad.prog w := by rfl
  rw [h]; simp [eqErr]
theorem err_eql (q : Addr) (x y : Operand) (w : World) : (do eqGuard .eql 25 x y (errV q) (errV q); binOp .eql 25 (errV q) (errV q) : Sem Value).run Ybad.prog w = .ok (.bool true) w := by
  refine isOk (by cases x <;> cases y <;> kernel_rfl) ?_
  have h : (binOp .eql 25 (errV q) (errV q)).run Ybad.prog w = (Value.bool <$> Op.equal 25 (errV q) (errV q) : Sem Value).run Ybad.prog w := by rfl
  rw [h]; simp [eqErr]
theorem run_idxA {P : Program} {ρ : Operand → Value} {o : Oper} (t e : TypeId) (x ix : Operand) (ho : o.op = .indexAddr t x ix) (ht : P.underlying t = some (.slice e)) (ad : Addr) (n c : Nat) (hx : ρ x = .slice (some ad) n c) (i : Nat) (hix : ρ ix = .int .i64 i) (hi : i < n) (hs : ∀ w, (sizeOf e).run P w = .ok 1 w) (w : World)
    : (execOp ρ o).run P w = .ok (.value (.pointer (some (ad.add i)))) w := by
  unfold execOp; rw [ho]; dsimp only; rw [hx, hix]
  simp [Instr.indexAt, run_underlying ht, hs, go_sem]
  intro h; omega
theorem i8conv (y : Int) (w : World) : (convert 34 3 (.int .i8 y)).run Ybad.prog w = .ok (.int .i64 (IntKind.wrap .i64 y)) w := by kernel_rfl
section
variable {P : Program} {n : Nat} {K : List (Nat × Value)} {a : Act} {ops : Array Oper} {rest : List Oper} {o : Oper} {w : World} {Q : Exit → Act → World → Prop} {d : Nat} {v : Value} {md : Region.Mode} {S : World → Prop} {fuel : Nat} {listed : Array Bool}
/-- A call of a function by its name, under a guard or none. -/
theorem stCallW (hK : Fm n K a) (hw : Region.wanted o (yielded ops a.tmps) = true) {f : FuncId} {xs : Array Operand} {tt : Array TypeId} (ho : o.op = .call { callee := .value (.func f), args := xs, argTypes := tt }) {vs : List Value} (hx : lookL K xs.toList = some vs) {R : Value → World → Prop} (hb : ∀ w, (callFunc f vs.toArray).run P w = .ok (.enter f vs.toArray) w)
    (hc : Calls P f vs.toArray w fun e w' => ∃ v, e = .returned v ∧ R v w') (hd : o.dst = some d) (hn : d < n) (h : ∀ v a' w', R v w' → Fm n ((d, v) :: K) a' → wpList P ops Q rest a' w') : wpList P ops Q (o :: rest) a w :=
  BigFrame.wpList_want hw fun _ hk => wp_enter (run_callFn f xs tt ho rfl vs.toArray (hK.opA hx) w (hb w)) (hc.mono fun _e _w' ⟨v, he, hr⟩ => ⟨v, he, hk _ _ (h v _ _ hr (by rw [hd]; exact hK.put hn v))⟩)
/-- One operation that reads, in a region that draws its order, under a guard or none. -/
theorem sdw (hK : Fm n K a) (i : Nat) {oi : Oper} (hi : ops[i]? = some oi) (hs : Region.noSelect ops = true) (hf : Region.free md ops listed i = true) (hr : (Region.ready md ops listed).contains i = true) (hQ : ∀ c a d v w, Q (.panic c) (Act.put a d v) w → Q (.panic c) a w) (hw : Region.wanted oi (yielded ops a.tmps) = true)
    (hy : ∀ W, S W → (execOp a.eval oi).run P W = .ok (.value v) W) (hS : S w) (hd : oi.dst = some d) (hn : d < n) (h : ∀ a', Fm n ((d, v) :: K) a' → wpAnyH P md ops Q S fuel (listed.setIfInBounds i true) a' w) : wpAnyH P md ops Q S (fuel + 1) listed a w :=
  wpAnyH_take hi hs hf hr (fun _ _ _ h => hQ _ _ _ _ _ h) (Or.inl ⟨hw, hy⟩) hS (h _ (by rw [hd]; exact hK.put hn v))
end
end Go.Proofs.YbulkaeqwDoor
