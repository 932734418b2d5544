/-
  Small laws of this program: comparisons, places, stores, channels, the deferred call.
-/
import Derived.Test.YbulkaevsRows
import Derived.Test.YbulkaevsMaps
import Derived.Deep.MidRow
import Derived.OwnWalk
import Derived.Laws.MakeOwn
namespace Go.Proofs.Ybulkaevs
open Go.RowKit
def ptr (b : Nat) : Value := .pointer (some ⟨b, 0, none⟩)
theorem Fm.begin {P : Program} {c : Code} {Q : Exit → Act → World → Prop} {a : Act} {w : World} (n : Nat) (K : List (Nat × Value)) (h1 : a.tmps.size = n) (h2 : a.defers = []) (h : SubA K a) (g : ∀ a, Fm n K a → Code.wp P c Q a w) : Code.wp P c Q a w := g a (Fm.of h1 h2 h)
theorem result_of {n : Nat} {K : List (Nat × Value)} {a : Act} {fn : Func} {t : Nat} {v : Value} (hK : Fm n K a) (hf : fn.results = #[.tmp t]) (h : look K t = some v) (W : World) : (results fn a.tmps).run Yba.prog W = .ok v W := by
  rw [results_tmp hf]
  have := hK.get t v h
  rw [show a.tmps.getD t undef = v from this]
section
variable {a b : Operand} {w : World}
theorem i_lt {x z : Int} {r : Bool} (h : decide (x < z) = r) : (do eqGuard .lss 3 a b (.int .i64 x) (.int .i64 z); binOp .lss 3 (.int .i64 x) (.int .i64 z) : Sem Value).run Yba.prog w = .ok (.bool r) w := by subst h; kernel_rfl
theorem i_gt {x z : Int} {r : Bool} (h : decide (x > z) = r) : (do eqGuard .gtr 3 a b (.int .i64 x) (.int .i64 z); binOp .gtr 3 (.int .i64 x) (.int .i64 z) : Sem Value).run Yba.prog w = .ok (.bool r) w := by subst h; kernel_rfl
theorem i_ne {x : Int} : (do eqGuard .neq 3 a b (.int .i64 x) (.int .i64 x); binOp .neq 3 (.int .i64 x) (.int .i64 x) : Sem Value).run Yba.prog w = .ok (.bool false) w := by
  have : (do eqGuard .neq 3 a b (.int .i64 x) (.int .i64 x); binOp .neq 3 (.int .i64 x) (.int .i64 x) : Sem Value).run Yba.prog w = .ok (.bool (x != x)) w := by kernel_rfl
  rw [this]; simp
theorem i_add {x z y : Int} (h : x + z = y) (h1 : -1000000 ≤ y) (h2 : y ≤ 1000000) : (do eqGuard .add 3 a b (.int .i64 x) (.int .i64 z); binOp .add 3 (.int .i64 x) (.int .i64 z) : Sem Value).run Yba.prog w = .ok (.int .i64 y) w := by
  have : (do eqGuard .add 3 a b (.int .i64 x) (.int .i64 z); binOp .add 3 (.int .i64 x) (.int .i64 z) : Sem Value).run Yba.prog w = .ok (.int .i64 (IntKind.wrap .i64 (x + z))) w := by kernel_rfl
  rw [this, h, show IntKind.wrap .i64 y = y from by rw [IntKind.wrap_i64]; omega]
theorem u_rem3 {x : Nat} : (do eqGuard .rem 22 a b (.int .u64 x) (.int .u64 3); binOp .rem 22 (.int .u64 x) (.int .u64 3) : Sem Value).run Yba.prog w = .ok (.int .u64 ((x % 3 : Nat) : Int)) w := by
  have : (do eqGuard .rem 22 a b (.int .u64 x) (.int .u64 3); binOp .rem 22 (.int .u64 x) (.int .u64 3) : Sem Value).run Yba.prog w = .ok (.int .u64 (Int.tmod x 3)) w := by kernel_rfl
  rw [this, Int.tmod_eq_emod_of_nonneg (Int.natCast_nonneg _)]; simp
theorem u_rem8 {x : Nat} : (do eqGuard .rem 22 a b (.int .u64 x) (.int .u64 8); binOp .rem 22 (.int .u64 x) (.int .u64 8) : Sem Value).run Yba.prog w = .ok (.int .u64 ((x % 8 : Nat) : Int)) w := by
  have : (do eqGuard .rem 22 a b (.int .u64 x) (.int .u64 8); binOp .rem 22 (.int .u64 x) (.int .u64 8) : Sem Value).run Yba.prog w = .ok (.int .u64 (Int.tmod x 8)) w := by kernel_rfl
  rw [this, Int.tmod_eq_emod_of_nonneg (Int.natCast_nonneg _)]; simp
theorem u_eq25 {x z : Nat} {r : Bool} (h : decide (x = z) = r) : (do eqGuard .eql 25 a b (.int .u64 x) (.int .u64 z); binOp .eql 25 (.int .u64 x) (.int .u64 z) : Sem Value).run Yba.prog w = .ok (.bool r) w := by
  have : (do eqGuard .eql 25 a b (.int .u64 x) (.int .u64 z); binOp .eql 25 (.int .u64 x) (.int .u64 z) : Sem Value).run Yba.prog w = .ok (.bool ((x : Int) == (z : Int))) w := by kernel_rfl
  rw [this, ← h]
  by_cases e : x = z
  · simp [e]
  · simp [e]; omega
theorem u_lt {x : Nat} {r : Bool} (h : decide (x < 8) = r) : (do eqGuard .lss 22 a b (.int .u64 x) (.int .u64 8); binOp .lss 22 (.int .u64 x) (.int .u64 8) : Sem Value).run Yba.prog w = .ok (.bool r) w := by
  have : (do eqGuard .lss 22 a b (.int .u64 x) (.int .u64 8); binOp .lss 22 (.int .u64 x) (.int .u64 8) : Sem Value).run Yba.prog w = .ok (.bool (decide ((x : Int) < 8))) w := by kernel_rfl
  rw [this, ← h]
  by_cases e : x < 8
  · simp [e]; omega
  · simp [e]; omega
theorem u_add1 {x : Nat} (h : x < 8) : (do eqGuard .add 22 a b (.int .u64 x) (.int .u64 1); binOp .add 22 (.int .u64 x) (.int .u64 1) : Sem Value).run Yba.prog w = .ok (.int .u64 ((x + 1 : Nat) : Int)) w := by
  have : (do eqGuard .add 22 a b (.int .u64 x) (.int .u64 1); binOp .add 22 (.int .u64 x) (.int .u64 1) : Sem Value).run Yba.prog w = .ok (.int .u64 (IntKind.wrap .u64 ((x : Int) + 1))) w := by kernel_rfl
  rw [this, show IntKind.wrap .u64 ((x : Int) + 1) = ((x + 1 : Nat) : Int) from by rw [IntKind.wrap_u64]; omega]
theorem u_ne {x : Int} : (do eqGuard .neq 22 a b (.int .u64 x) (.int .u64 x); binOp .neq 22 (.int .u64 x) (.int .u64 x) : Sem Value).run Yba.prog w = .ok (.bool false) w := by
  have : (do eqGuard .neq 22 a b (.int .u64 x) (.int .u64 x); binOp .neq 22 (.int .u64 x) (.int .u64 x) : Sem Value).run Yba.prog w = .ok (.bool (x != x)) w := by kernel_rfl
  rw [this]; simp
theorem s_ne {s : ByteArray} : (do eqGuard .neq 9 a b (.string s) (.string s); binOp .neq 9 (.string s) (.string s) : Sem Value).run Yba.prog w = .ok (.bool false) w := by
  have : (do eqGuard .neq 9 a b (.string s) (.string s); binOp .neq 9 (.string s) (.string s) : Sem Value).run Yba.prog w = .ok (.bool (!(s.toList == s.toList))) w := by kernel_rfl
  rw [this]; simp
theorem c_ne {n : Nat} : (do eqGuard .neq 31 a b (.chan (some n)) (.chan (some n)); binOp .neq 31 (.chan (some n)) (.chan (some n)) : Sem Value).run Yba.prog w = .ok (.bool false) w := by
  have : (do eqGuard .neq 31 a b (.chan (some n)) (.chan (some n)); binOp .neq 31 (.chan (some n)) (.chan (some n)) : Sem Value).run Yba.prog w = .ok (.bool (!(some n == some n))) w := by kernel_rfl
  rw [this]; simp
theorem c_nil {n : Nat} : (do eqGuard .eql 31 a b (.chan (some n)) (.chan none); binOp .eql 31 (.chan (some n)) (.chan none) : Sem Value).run Yba.prog w = .ok (.bool false) w := by kernel_rfl
theorem c_nilne : (do eqGuard .neq 31 a b (.chan none) (.chan none); binOp .neq 31 (.chan none) (.chan none) : Sem Value).run Yba.prog w = .ok (.bool false) w := by kernel_rfl
theorem p_nil : (do eqGuard .eql 28 a b (.pointer none) (.pointer none); binOp .eql 28 (.pointer none) (.pointer none) : Sem Value).run Yba.prog w = .ok (.bool true) w := by kernel_rfl
theorem p_some {p : Addr} : (do eqGuard .eql 28 a b (.pointer (some p)) (.pointer none); binOp .eql 28 (.pointer (some p)) (.pointer none) : Sem Value).run Yba.prog w = .ok (.bool false) w := by kernel_rfl
theorem p_ne {n : Nat} : (do eqGuard .neq 28 a b (ptr n) (ptr n); binOp .neq 28 (ptr n) (ptr n) : Sem Value).run Yba.prog w = .ok (.bool false) w := by
  have : (do eqGuard .neq 28 a b (ptr n) (ptr n); binOp .neq 28 (ptr n) (ptr n) : Sem Value).run Yba.prog w = (do pure (.bool (!(← sameAddr ⟨n, 0, none⟩ ⟨n, 0, none⟩))) : Sem Value).run Yba.prog w := by kernel_rfl
  rw [this]
  simp [sameAddr]
end
section
variable {P : Program} {ρ : Operand → Value} {o : Oper}
theorem run_look (t : TypeId) (x ix : Operand) (ok : Bool) (ho : o.op = .lookup t x ix ok) {u y r : Value} (hx : ρ x = u) (hy : ρ ix = y) (w : World) (hr : (Instr.lookup t u y ok).run P w = .ok r w) : (execOp ρ o).run P w = .ok (.value r) w := by
  unfold execOp; rw [ho]; dsimp only; rw [hx, hy, Sem.run_bind, hr]; rfl
theorem run_ext0 (x : Operand) (ho : o.op = .extract x 0) {u v : Value} (hx : ρ x = .tuple #[u, v]) (w : World) : (execOp ρ o).run P w = .ok (.value u) w := by
  unfold execOp; rw [ho]; dsimp only; rw [hx]; rfl
theorem run_ext1 (x : Operand) (ho : o.op = .extract x 1) {u v : Value} (hx : ρ x = .tuple #[u, v]) (w : World) : (execOp ρ o).run P w = .ok (.value v) w := by
  unfold execOp; rw [ho]; dsimp only; rw [hx]; rfl
def chan0 : Obj := .chan 0 #[] false 0 0 false
theorem run_mkChan {ρ : Operand → Value} {o : Oper} (ho : o.op = .makeChan 31 (.const (.int .i64 0))) (hc : ρ (.const (.int .i64 0)) = .int .i64 0) (w : World) : (execOp ρ o).run Yba.prog w = .ok (.value (.chan (some w.heap.size))) (w.alloc chan0) := by
  unfold execOp; rw [ho]; dsimp only; rw [hc]; kernel_rfl
/-- An array's cell by a number. -/
theorem run_idxR (t e : TypeId) (x ix : Operand) (ho : o.op = .indexAddr t x ix) (m : Nat) (ht : P.underlying t = some (.array m e)) (b : Nat) (hx : ρ x = .pointer (some ⟨b, 0, none⟩)) (q : IntKind) (i : Nat) (hix : ρ ix = .int q i) (hi : i < m) (hs : ∀ w, (sizeOf e).run P w = .ok 1 w) (w : World)
    : (execOp ρ o).run P w = .ok (.value (.pointer (some ⟨b, i, none⟩))) w := by
  unfold execOp; rw [ho]; dsimp only; rw [hx, hix]
  simp [Instr.indexAt, run_underlying ht, hs, go_sem, Addr.add_mid]
  omega
theorem run_idxA (t e : TypeId) (x ix : Operand) (ho : o.op = .indexAddr t x ix) (ht : P.underlying t = some (.slice e)) (ad : Addr) (n c : Nat) (hx : ρ x = .slice (some ad) n c) (i : Nat) (hix : ρ ix = .int .i64 i) (hi : i < n) (size : Nat) (hs : ∀ w, (sizeOf e).run P w = .ok size w) (w : World)
    : (execOp ρ o).run P w = .ok (.value (.pointer (some (ad.add (i * size))))) w := by
  unfold execOp; rw [ho]; dsimp only; rw [hx, hix]
  simp [Instr.indexAt, run_underlying ht, hs, go_sem]
  intro h; omega
end
section
variable {P : Program} {D : List Deferred} {n : Nat} {K : List (Nat × Value)} {a : Act} {ops : Array Oper} {rest : List Oper} {o : Oper} {w : World} {Q : Exit → Act → World → Prop} {v : Value} {d : Nat} {md : Region.Mode} {S : World → Prop} {fuel : Nat} {listed : Array Bool}
theorem stNs (hK : FmD D n K a) (hg : o.guard = none) {t : TypeId} {x y : Operand} (ho : o.op = .store t x y) {c c' : Array Value} (hx : lookO K x = some (.pointer (some ⟨w.heap.size, 0, none⟩))) (hy : lookO K y = some (.agg c')) (hi : (P.info? t).map (·.size) = some c'.size) (hc : c.size = c'.size) (h1 : c'.all (·.oneCell') = true) (hd : o.dst = none)
    (h : wpList P ops Q rest a (w.alloc (.cells c' t))) : wpList P ops Q (o :: rest) a (w.alloc (.cells c t)) :=
  wpList_store_new hg t x y ho c c' (hK.op hx) (hK.op hy) hi hc h1 (by rw [hd]; exact h)
theorem stStore (hK : FmD D n K a) (hg : o.guard = none) {t : TypeId} {x y : Operand} (ho : o.op = .store t x y) {b j : Nat} (hx : lookO K x = some (.pointer (some ⟨b, j, none⟩))) (hy : lookO K y = some v) (hs : ∀ w, (sizeOf t).run P w = .ok 1 w) (hv : v.cells = #[v]) (h1 : v.oneCell' = true)
    {cs : Array Value} {T : TypeId} (hb : w.heap[b]? = some (.cells cs T (0, 0))) (hj : j < cs.size) (hd : o.dst = none) (h : ∀ w', Fr [b] w w' → w'.heap.size = w.heap.size → w'.heap[b]? = some (.cells (cs.setIfInBounds j v) T (0, 0)) → wpList P ops Q rest a w') : wpList P ops Q (o :: rest) a w :=
  wpList_store1 t x y ho hg _ v (hK.op hx) (hK.op hy) hs hv h1 (cs[j]) (by rw [cell_at hb, Array.getElem?_eq_getElem hj]) (free_at hb j) (by rw [hd]; exact h _ ((Fr.refl _ _).setCell _ (by simp) _) (by simp) (heap_setCell_same _ _ _ _ _ _ hb))
/-- A store of three cells into a row. -/
theorem stStore3 (hK : FmD D n K a) (hg : o.guard = none) {t : TypeId} {x y : Operand} (ho : o.op = .store t x y) {b j : Nat} (hx : lookO K x = some (.pointer (some ⟨b, j, none⟩))) {u1 u2 u3 : Value} (hy : lookO K y = some (.agg #[u1, u2, u3])) (hi : (P.info? t).map (·.size) = some 3) (h1 : u1.oneCell' = true) (h2 : u2.oneCell' = true) (h3 : u3.oneCell' = true)
    {cs : Array Value} {T : TypeId} (hb : w.heap[b]? = some (.cells cs T (0, 0))) (hj : j + 2 < cs.size) (hd : o.dst = none) (h : ∀ w', Fr [b] w w' → w'.heap[b]? = some (.cells (((cs.setIfInBounds j u1).setIfInBounds (j + 1) u2).setIfInBounds (j + 2) u3) T (0, 0)) → wpList P ops Q rest a w') : wpList P ops Q (o :: rest) a w := by
  refine wpList_store_mid hg t x y ho b j #[u1, u2, u3] (hK.op hx) (hK.op hy) (fun k hk => ⟨by rw [cell_at hb, Array.getElem?_eq_getElem (by simp at hk; omega)]; rfl, free_at hb _⟩) hi (by simp [h1, h2, h3]) ?_
  rw [hd]
  refine h _ ((((Fr.refl _ _).setCell _ (by simp) _).setCell _ (by simp) _).setCell _ (by simp) _) ?_
  exact heap_setCell_same _ _ _ _ _ _ (heap_setCell_same _ _ _ _ _ _ (heap_setCell_same _ _ _ _ _ _ hb))
/-- A store of four cells into a row. -/
theorem stStore4 (hK : FmD D n K a) (hg : o.guard = none) {t : TypeId} {x y : Operand} (ho : o.op = .store t x y) {b j : Nat} (hx : lookO K x = some (.pointer (some ⟨b, j, none⟩))) {u1 u2 u3 u4 : Value} (hy : lookO K y = some (.agg #[u1, u2, u3, u4])) (hi : (P.info? t).map (·.size) = some 4) (h1 : u1.oneCell' = true) (h2 : u2.oneCell' = true) (h3 : u3.oneCell' = true) (h4 : u4.oneCell' = true)
    {cs : Array Value} {T : TypeId} (hb : w.heap[b]? = some (.cells cs T (0, 0))) (hj : j + 3 < cs.size) (hd : o.dst = none) (h : ∀ w', Fr [b] w w' → w'.heap[b]? = some (.cells ((((cs.setIfInBounds j u1).setIfInBounds (j + 1) u2).setIfInBounds (j + 2) u3).setIfInBounds (j + 3) u4) T (0, 0)) → wpList P ops Q rest a w') : wpList P ops Q (o :: rest) a w := by
  refine wpList_store_mid hg t x y ho b j #[u1, u2, u3, u4] (hK.op hx) (hK.op hy) (fun k hk => ⟨by rw [cell_at hb, Array.getElem?_eq_getElem (by simp at hk; omega)]; rfl, free_at hb _⟩) hi (by simp [h1, h2, h3, h4]) ?_
  rw [hd]
  refine h _ (((((Fr.refl _ _).setCell _ (by simp) _).setCell _ (by simp) _).setCell _ (by simp) _).setCell _ (by simp) _) ?_
  exact heap_setCell_same _ _ _ _ _ _ (heap_setCell_same _ _ _ _ _ _ (heap_setCell_same _ _ _ _ _ _ (heap_setCell_same _ _ _ _ _ _ hb)))
theorem sdw (hK : FmD D n K a) (i : Nat) {oi : Oper} (hi : ops[i]? = some oi) (hs : Region.noSelect ops = true) (hf : Region.free md ops listed i = true) (hr : (Region.ready md ops listed).contains i = true) (hQ : ∀ c a d v w, Q (.panic c) (Act.put a d v) w → Q (.panic c) a w) (hw : Region.wanted oi (yielded ops a.tmps) = true)
    (hy : ∀ W, S W → (execOp a.eval oi).run P W = .ok (.value v) W) (hS : S w) (hd : oi.dst = some d) (hn : d < n) (h : ∀ a', FmD D n ((d, v) :: K) a' → wpAnyH P md ops Q S fuel (listed.setIfInBounds i true) a' w) : wpAnyH P md ops Q S (fuel + 1) listed a w :=
  wpAnyH_take hi hs hf hr (fun _ _ _ h => hQ _ _ _ _ _ h) (Or.inl ⟨hw, hy⟩) hS (h _ (by rw [hd]; exact hK.put hn v))
theorem held_oneW {i : Nat} (hr : Region.ready md ops listed = [i]) (ho : ops[i]? = some o) (hw : Region.wanted o (yielded ops a.tmps) = true)
    (h : o.wp P a w (fun a' w' => S w' ∧ wpAnyH P md ops Q S fuel (listed.setIfInBounds i true) a' w') Q) : wpAnyH P md ops Q S (fuel + 1) listed a w := by
  refine wpAnyH_all hr (by simp) fun j hj => ?_
  obtain rfl : j = i := by simpa using hj
  unfold wpOp
  rw [ho]
  dsimp only
  rw [if_pos hw]
  exact .inl h
theorem wp_mapPut {K' : Act → World → Prop} (t : TypeId) (m k x : Operand) (ho : o.op = .mapUpdate t m k x) (u y v : Value) (w' : World) (hm : a.eval m = u) (hy : a.eval k = y) (hx : a.eval x = v) (hr : (Instr.mapUpdate t u y v).run P w = .ok () w') (hd : o.dst = none) (h : K' a w') : o.wp P a w K' Q := by
  unfold Oper.wp execOp; rw [ho]; dsimp only; rw [hm, hy, hx, Sem.run_bind, hr]
  show K' (a.put o.dst undef) w'
  rw [hd]; exact h
theorem wp_mapDel {K' : Act → World → Prop} (t k : TypeId) (x ix : Operand) (ho : o.op = .call { callee := .builtin .delete, args := #[x, ix], argTypes := #[t, k] }) (u y : Value) (w' : World) (hx : a.eval x = u) (hy : a.eval ix = y) (hr : (Builtin.delete_ #[t, k] o.type #[u, y]).run P w = .ok (.tuple #[]) w') (hd : o.dst = none) (h : K' a w') : o.wp P a w K' Q := by
  have : (execOp a.eval o).run P w = .ok (.value (.tuple #[])) w' := by
    unfold execOp; rw [ho]
    simp [resolve, invoke, builtin, hx, hy, hr]
  exact wp_of_run this (by rw [hd]; exact h)
theorem stMapPut (hK : FmD D n K a) (hg : o.guard = none) (t : TypeId) {m k x : Operand} (ho : o.op = .mapUpdate t m k x) {u y : Value} {w' : World} (hm : lookO K m = some u) (hy : lookO K k = some y) (hx : lookO K x = some v) (hr : (Instr.mapUpdate t u y v).run P w = .ok () w') (hd : o.dst = none) (h : wpList P ops Q rest a w') : wpList P ops Q (o :: rest) a w :=
  wpList_put t m k x ho (wn hg) _ _ v w' (hK.op hm) (hK.op hy) (hK.op hx) hr (by rw [hd]; exact h)
theorem stClose (hK : FmD D n K a) (hg : o.guard = none) {x : Operand} {ats : Array TypeId} (ho : o.op = .call { callee := .builtin .close, args := #[x], argTypes := ats }) {r : Nat} (hx : lookO K x = some (.chan (some r))) (hr : w.heap[r]? = some chan0) (hd : o.dst = none) (h : wpList P ops Q rest a (setB w r (.chan 0 #[] true 0 0 false))) : wpList P ops Q (o :: rest) a w := by
  have hx' := hK.op hx
  refine wpList_of_run_want (wn hg) (v := .tuple #[]) (w' := setB w r (.chan 0 #[] true 0 0 false)) ?_ (by rw [hd]; exact h)
  unfold execOp; rw [ho]
  have := run_close_open (P := P) ats o.type (show w.heap[r]? = some (.chan 0 #[] false 0 0 false) from hr)
  simp [resolve, invoke, builtin, hx', this, setB]
/-- 'defer f(x)'. -/
theorem stDefer (hK : FmD D n K a) (hg : o.guard = none) {f : FuncId} {x : Operand} {tt : Array TypeId} (ho : o.op = .defer { callee := .value (.func f), args := #[x], argTypes := tt }) (hx : lookO K x = some v) (hd : o.dst = none)
    (h : ∀ a', FmD ({ target := .fn (.func f) #[], args := #[v] } :: D) n K a' → wpList P ops Q rest a' w) : wpList P ops Q (o :: rest) a w := by
  have hx' := hK.op hx
  refine wpList_plain hg fun K' hK' => ?_
  unfold Oper.wp
  have hr : (execOp a.eval o).run P w = .ok (.defer { target := .fn (.func f) #[], args := #[v] }) w := by
    unfold execOp; rw [ho]
    have hf : a.eval (.func f) = .func (.func f) #[] #[] := rfl
    simp [resolve, Deferred.ofValue, hx', hf]
  rw [hr]
  refine hK' _ _ ?_
  rw [hd]
  refine h _ ⟨hK.size, ?_, fun i u hi => hK.get i u hi⟩
  show _ :: a.defers = _
  rw [hK.defers]
end
theorem Fr.drop {l : List Nat} {b : Nat} {w w' : World} (h : Fr (b :: l) w w') (e : w'.heap[b]? = w.heap[b]?) : Fr l w w' :=
  ⟨h.os, h.tape, h.output, h.size, fun k hk hn => by
    by_cases ek : k = b
    · subst ek; exact e
    · exact h.block k hk (by simp [ek, hn])⟩
theorem cell_block {w : World} {p : Addr} {v : Value} (h : w.cell? p = some v) : p.block < w.heap.size := by
  unfold World.cell? at h
  cases hx : w.heap[p.block]? with
  | none => simp [hx] at h
  | some o => exact lt_of_block hx
theorem ne_of {w : World} {x y : Nat} {o o' : Obj} (h : w.heap[x]? = some o) (h' : w.heap[y]? = some o') (hn : o ≠ o') : x ≠ y := by
  intro e; subst e; rw [h] at h'; exact hn (Option.some.inj h')
/-- A way out that never panics. -/
def Ways (R : Act → World → Prop) : Exit → Act → World → Prop
  | .normal, a, w => R a w
  | .ret, a, w => R a w
  | _, _, _ => False
end Go.Proofs.Ybulkaevs
