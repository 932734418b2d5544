/-
  A WALK BY FACTS: the frame is a variable; what its slots hold stands in a list K (slot, value); the blocks that the walk made stand in a list B (place behind the first, object).
  Each operation is one law: it hands on a new frame, a variable again, with one more fact.
-/
import Derived.Test.YbulkaeqiOps
namespace Go.Proofs.Ybulkaeqi
open Go.RowKit
def look : List (Nat × Value) → Nat → Option Value
  | [], _ => none
  | (j, v) :: K, i => match Nat.beq j i with | true => some v | false => look K i
def lookO (K : List (Nat × Value)) : Operand → Option Value
  | .tmp i => look K i
  | .const v => some v
  | _ => none
structure Fm (n : Nat) (K : List (Nat × Value)) (a : Act) : Prop where
  size : a.tmps.size = n
  defers : a.defers = []
  get : ∀ i v, look K i = some v → a.eval (.tmp i) = v
def Sub : List (Nat × Value) → List (Nat × Value) → Prop
  | [], _ => True
  | (j, v) :: K', K => look K j = some v ∧ Sub K' K
theorem Sub.look {K' K : List (Nat × Value)} (h : Sub K' K) (i : Nat) (v : Value) (hi : look K' i = some v) : look K i = some v := by
  induction K' with
  | nil => cases hi
  | cons p K' ih =>
    obtain ⟨j, u⟩ := p
    cases hb : Nat.beq j i with
    | true =>
      have hj : j = i := Nat.eq_of_beq_eq_true hb
      have hu : u = v := by simpa [Go.Proofs.Ybulkaeqi.look, hb] using hi
      subst hj; subst hu; exact h.1
    | false => exact ih h.2 (by simpa [Go.Proofs.Ybulkaeqi.look, hb] using hi)
section
variable {P : Program} {n : Nat} {K : List (Nat × Value)} {a : Act}
theorem Fm.op (h : Fm n K a) {x : Operand} {v : Value} (hx : lookO K x = some v) : a.eval x = v := by
  cases x with
  | tmp i => exact h.get i v hx
  | const u => cases hx; rfl
  | _ => cases hx
theorem Fm.sub (h : Fm n K a) (K' : List (Nat × Value)) (hs : Sub K' K) : Fm n K' a := ⟨h.size, h.defers, fun i v hi => h.get i v (hs.look i v hi)⟩
theorem Fm.put (h : Fm n K a) {d : Nat} (hd : d < n) (v : Value) : Fm n ((d, v) :: K) (a.put (some d) v) := by
  refine ⟨by rw [size_put, h.size], by rw [defers_put, h.defers], fun i u hi => ?_⟩
  cases hb : Nat.beq d i with
  | true =>
    have hj : d = i := Nat.eq_of_beq_eq_true hb
    have hu : v = u := by simpa [look, hb] using hi
    subst hj; subst hu; exact eval_same _ _ _ (by rw [h.size]; exact hd)
  | false =>
    have hj : d ≠ i := fun e => by subst e; simp at hb
    rw [eval_other _ _ _ _ hj]; exact h.get i u (by simpa [look, hb] using hi)
theorem wn {ops : Array Oper} {o : Oper} (hg : o.guard = none) : Region.wanted o (yielded ops a.tmps) = true := by simp [Region.wanted, hg]
theorem Fm.wy (h : Fm n K a) {ops : Array Oper} {o : Oper} {j d : Nat} {b : Bool} (hg : o.guard = some (j, b)) (hj : (ops[j]?).bind (·.dst) = some d) (hv : look K d = some (.bool b)) (hd : d < n) : Region.wanted o (yielded ops a.tmps) = true :=
  wanted_of hg hj (h.get d _ hv) (by rw [h.size]; exact hd)
theorem Fm.wno (h : Fm n K a) {ops : Array Oper} {o : Oper} {j d : Nat} {b : Bool} (hg : o.guard = some (j, b)) (hj : (ops[j]?).bind (·.dst) = some d) (hv : look K d = some (.bool (!b))) (hd : d < n) : Region.wanted o (yielded ops a.tmps) = false :=
  wanted_not hg hj (h.get d _ hv) (by rw [h.size]; exact hd)
variable {ops : Array Oper} {rest : List Oper} {o : Oper} {w w' : World} {Q : Exit → Act → World → Prop} {v : Value} {d : Nat}
/-- One operation that gives a value. -/
theorem st (hK : Fm n K a) (hw : Region.wanted o (yielded ops a.tmps) = true) (hr : (execOp a.eval o).run P w = .ok (.value v) w') (hd : o.dst = some d) (hn : d < n)
    (h : ∀ a', Fm n ((d, v) :: K) a' → wpList P ops Q rest a' w') : wpList P ops Q (o :: rest) a w :=
  wpList_of_run_want hw hr (h _ (by rw [hd]; exact hK.put hn v))
theorem stMv (hK : Fm n K a) (hw : Region.wanted o (yielded ops a.tmps) = true) {x : Operand} (ho : o.op = .move x) (hx : lookO K x = some v) (hd : o.dst = some d) (hn : d < n)
    (h : ∀ a', Fm n ((d, v) :: K) a' → wpList P ops Q rest a' w) : wpList P ops Q (o :: rest) a w := st hK hw (run_mv x ho v (hK.op hx) w) hd hn h
theorem stAs (hK : Fm n K a) (hw : Region.wanted o (yielded ops a.tmps) = true) {x : Operand} (ho : o.op = .assign x) (hx : lookO K x = some v) (hd : o.dst = some d) (hn : d < n)
    (h : ∀ a', Fm n ((d, v) :: K) a' → wpList P ops Q rest a' w) : wpList P ops Q (o :: rest) a w := st hK hw (run_asg x ho v (hK.op hx) w) hd hn h
theorem stNil (hK : Fm n K a) (hw : Region.wanted o (yielded ops a.tmps) = true) {x : Operand} (ho : o.op = .nilCheck x) {p : Addr} (hx : lookO K x = some (.pointer (some p))) (hd : o.dst = some d) (hn : d < n)
    (h : ∀ a', Fm n ((d, .pointer (some p)) :: K) a' → wpList P ops Q rest a' w) : wpList P ops Q (o :: rest) a w := st hK hw (run_nilCheck x ho p (hK.op hx) w) hd hn h
theorem stFa (hK : Fm n K a) (hw : Region.wanted o (yielded ops a.tmps) = true) {S : TypeId} {x : Operand} {f : Nat} (ho : o.op = .fieldAddr S x f) {b : Nat} (hx : lookO K x = some (.pointer (some ⟨b, 0, none⟩))) (j : Nat) (hF : ∀ b w, (Instr.fieldAt S (.pointer (some ⟨b, 0, none⟩)) f).run P w = .ok (.pointer (some ⟨b, j, none⟩)) w)
    (hd : o.dst = some d) (hn : d < n) (h : ∀ a', Fm n ((d, .pointer (some ⟨b, j, none⟩)) :: K) a' → wpList P ops Q rest a' w) : wpList P ops Q (o :: rest) a w := st hK hw (run_fieldAddr S x f ho _ _ (hK.op hx) w (hF b w)) hd hn h
theorem stLd (hK : Fm n K a) (hw : Region.wanted o (yielded ops a.tmps) = true) {t : TypeId} {x : Operand} (ho : o.op = .load t x) {p : Addr} (hx : lookO K x = some (.pointer (some p))) (hc : w.cell? p = some v) (ha : ∀ w, (isAgg t).run P w = .ok false w)
    (hd : o.dst = some d) (hn : d < n) (h : ∀ a', Fm n ((d, v) :: K) a' → wpList P ops Q rest a' w) : wpList P ops Q (o :: rest) a w := st hK hw (run_load_one t x ho p v (hK.op hx) w hc (ha w)) hd hn h
theorem stLr (hK : Fm n K a) (hw : Region.wanted o (yielded ops a.tmps) = true) {t : TypeId} {x : Operand} (ho : o.op = .load t x) {b off : Nat} (hx : lookO K x = some (.pointer (some ⟨b, off, none⟩))) {cs : List Value} {m : Nat} (hl : cs.length = m) (ht : RowType P t m) (hc : w.rangeAt b off cs)
    (hd : o.dst = some d) (hn : d < n) (h : ∀ a', Fm n ((d, .agg cs.toArray) :: K) a' → wpList P ops Q rest a' w) : wpList P ops Q (o :: rest) a w := st hK hw (run_load_row t x ho b off (hK.op hx) cs m hl ht w hc) hd hn h
theorem stBin (hK : Fm n K a) (hw : Region.wanted o (yielded ops a.tmps) = true) {op : BinOp} {t rt : TypeId} {x y : Operand} (ho : o.op = .binOp op t x y rt) {u r : Value} (hx : lookO K x = some u) (hy : lookO K y = some v) (hr : (do eqGuard op t x y u v; binOp op t u v : Sem Value).run P w = .ok r w)
    (hd : o.dst = some d) (hn : d < n) (h : ∀ a', Fm n ((d, r) :: K) a' → wpList P ops Q rest a' w) : wpList P ops Q (o :: rest) a w := st hK hw (run_bin op t x y rt ho u v r (hK.op hx) (hK.op hy) w hr) hd hn h
theorem stLenS (hK : Fm n K a) (hw : Region.wanted o (yielded ops a.tmps) = true) {t : TypeId} {x : Operand} (ho : o.op = .call { callee := .builtin .len, args := #[x], argTypes := #[t] }) {e : TypeId} (ht : P.underlying t = some (.slice e)) {ad : Option Addr} {m c : Nat} (hx : lookO K x = some (.slice ad m c))
    (hd : o.dst = some d) (hn : d < n) (h : ∀ a', Fm n ((d, .int .i64 m) :: K) a' → wpList P ops Q rest a' w) : wpList P ops Q (o :: rest) a w := st hK hw (run_lenS t e x ho ht ad m c (hK.op hx) w) hd hn h
theorem stLenM (hK : Fm n K a) (hw : Region.wanted o (yielded ops a.tmps) = true) {t : TypeId} {x : Operand} (ho : o.op = .call { callee := .builtin .len, args := #[x], argTypes := #[t] }) {k e : TypeId} (ht : P.underlying t = some (.map k e)) {m : Nat} (hx : lookO K x = some (.map (some m))) {es : Array MapEntry} {c : Nat} (hm : w.heap[m]? = some (.map es c))
    (hd : o.dst = some d) (hn : d < n) (h : ∀ a', Fm n ((d, .int .i64 es.size) :: K) a' → wpList P ops Q rest a' w) : wpList P ops Q (o :: rest) a w := st hK hw (run_lenM t k e x ho ht m (hK.op hx) es c w hm) hd hn h
theorem stNot (hK : Fm n K a) (hw : Region.wanted o (yielded ops a.tmps) = true) {t : TypeId} {x : Operand} (ho : o.op = .unOp .not t x) {b : Bool} (hx : lookO K x = some (.bool b))
    (hd : o.dst = some d) (hn : d < n) (h : ∀ a', Fm n ((d, .bool !b) :: K) a' → wpList P ops Q rest a' w) : wpList P ops Q (o :: rest) a w := st hK hw (run_not t x ho b (hK.op hx) w) hd hn h
theorem stPick (hK : Fm n K a) (hw : Region.wanted o (yielded ops a.tmps) = true) {c x y : Operand} (ho : o.op = .pick c x y) {b : Bool} {u : Value} (hc : lookO K c = some (.bool b)) (hx : lookO K x = some u) (hy : lookO K y = some v)
    (hd : o.dst = some d) (hn : d < n) (h : ∀ a', Fm n ((d, if b then u else v) :: K) a' → wpList P ops Q rest a' w) : wpList P ops Q (o :: rest) a w := st hK hw (run_pick c x y ho b u v (hK.op hc) (hK.op hx) (hK.op hy) w) hd hn h
theorem stSkip (hK : Fm n K a) (hw : Region.wanted o (yielded ops a.tmps) = false) (hd : o.dst = some d) (hn : d < n)
    (h : ∀ a', Fm n ((d, undef) :: K) a' → wpList P ops Q rest a' w) : wpList P ops Q (o :: rest) a w := wpList_skip hw (h _ (by rw [hd]; exact hK.put hn _))
def lookL (K : List (Nat × Value)) : List Operand → Option (List Value)
  | [] => some []
  | x :: xs => match lookO K x, lookL K xs with | some v, some vs => some (v :: vs) | _, _ => none
theorem Fm.opL (h : Fm n K a) {xs : List Operand} {vs : List Value} (hx : lookL K xs = some vs) : xs.map a.eval = vs := by
  induction xs generalizing vs with
  | nil => cases hx; rfl
  | cons x xs ih =>
    unfold lookL at hx
    split at hx
    · rename_i u us e1 e2
      cases hx
      rw [List.map_cons, h.op e1, ih e2]
    · cases hx
theorem Fm.opA (h : Fm n K a) {xs : Array Operand} {vs : List Value} (hx : lookL K xs.toList = some vs) : xs.map a.eval = vs.toArray := by
  obtain ⟨l⟩ := xs
  rw [List.map_toArray, h.opL hx]
theorem Fm.parts (h : Fm n K a) {xs : Array (Nat × Operand)} {vs : List Value} (hx : lookL K (xs.toList.map Prod.snd) = some vs) : (xs.map fun (i, x) => (i, a.eval x)) = ((xs.toList.map Prod.fst).zip vs).toArray := by
  obtain ⟨l⟩ := xs
  rw [List.map_toArray]
  congr 1
  have := h.opL hx
  subst this
  clear hx
  induction l with
  | nil => rfl
  | cons p l ih => simp at ih ⊢; exact ih
theorem stFn (hK : Fm n K a) (hw : Region.wanted o (yielded ops a.tmps) = true) {f : FuncId} {xs : Array Operand} (ho : o.op = .makeFunc (.func f) #[] xs) {vs : List Value} (hx : lookL K xs.toList = some vs)
    (hd : o.dst = some d) (hn : d < n) (h : ∀ a', Fm n ((d, .func (.func f) #[] vs.toArray) :: K) a' → wpList P ops Q rest a' w) : wpList P ops Q (o :: rest) a w := st hK hw (run_mkFn f xs ho vs.toArray (hK.opA hx) w) hd hn h
theorem stBuild (hK : Fm n K a) (hw : Region.wanted o (yielded ops a.tmps) = true) {t : TypeId} {parts : Array (Nat × Operand)} (ho : o.op = .build t parts) {vs : List Value} (hx : lookL K (parts.toList.map Prod.snd) = some vs) {r : Value} (hr : (Instr.build t ((parts.toList.map Prod.fst).zip vs).toArray).run P w = .ok r w)
    (hd : o.dst = some d) (hn : d < n) (h : ∀ a', Fm n ((d, r) :: K) a' → wpList P ops Q rest a' w) : wpList P ops Q (o :: rest) a w := st hK hw (run_build t parts ho _ (hK.parts hx) r w hr) hd hn h
theorem run_mkIf {ρ : Operand → Value} (t : TypeId) (x : Operand) (ho : o.op = .makeInterface t x) (v : Value) (hx : ρ x = v) (w : World) (hr : (Instr.makeInterface t v).run P w = .ok (.iface t v) w) : (execOp ρ o).run P w = .ok (.value (.iface t v)) w := by
  unfold execOp; rw [ho]; dsimp only; rw [hx, Sem.run_bind, hr]; rfl
theorem stIf (hK : Fm n K a) (hw : Region.wanted o (yielded ops a.tmps) = true) {t : TypeId} {x : Operand} (ho : o.op = .makeInterface t x) (hx : lookO K x = some v) (hr : (Instr.makeInterface t v).run P w = .ok (.iface t v) w) (hd : o.dst = some d) (hn : d < n)
    (h : ∀ a', Fm n ((d, .iface t v) :: K) a' → wpList P ops Q rest a' w) : wpList P ops Q (o :: rest) a w := st hK hw (run_mkIf t x ho v (hK.op hx) w hr) hd hn h
end
/-! ### the blocks -/
def lookB : List (Nat × Obj) → Nat → Option Obj
  | [], _ => none
  | (j, v) :: K, i => match Nat.beq j i with | true => some v | false => lookB K i
structure Wd (w0 : World) (S : Nat) (B : List (Nat × Obj)) (w : World) : Prop where
  size : w.heap.size = w0.heap.size + S
  fr : Fr [] w0 w
  get : ∀ k o, lookB B k = some o → w.heap[w0.heap.size + k]? = some o
def SubB : List (Nat × Obj) → List (Nat × Obj) → Prop
  | [], _ => True
  | (j, v) :: K', K => lookB K j = some v ∧ SubB K' K
theorem SubB.look {K' K : List (Nat × Obj)} (h : SubB K' K) (i : Nat) (v : Obj) (hi : lookB K' i = some v) : lookB K i = some v := by
  induction K' with
  | nil => cases hi
  | cons p K' ih =>
    obtain ⟨j, u⟩ := p
    cases hb : Nat.beq j i with
    | true =>
      have hj : j = i := Nat.eq_of_beq_eq_true hb
      have hu : u = v := by simpa [lookB, hb] using hi
      subst hj; subst hu; exact h.1
    | false => exact ih h.2 (by simpa [lookB, hb] using hi)
theorem Wd.sub {w0 w : World} {S : Nat} {B : List (Nat × Obj)} (h : Wd w0 S B w) (B' : List (Nat × Obj)) (hs : SubB B' B) : Wd w0 S B' w := ⟨h.size, h.fr, fun k o hk => h.get k o (hs.look k o hk)⟩
theorem Wd.start (w : World) : Wd w 0 [] w := ⟨rfl, Fr.refl _ _, fun _ _ h => by cases h⟩
section
variable {P : Program} {n : Nat} {K : List (Nat × Value)} {a : Act} {w0 w : World} {S : Nat} {B : List (Nat × Obj)}
theorem Wd.alloc (h : Wd w0 S B w) (o : Obj) : Wd w0 (S + 1) ((S, o) :: B) (w.alloc o) := by
  refine ⟨by rw [size_al, h.size]; rfl, h.fr.alloc o, fun k u hk => ?_⟩
  rw [heap_get, h.size]
  cases hb : Nat.beq S k with
  | true =>
    have hj : S = k := Nat.eq_of_beq_eq_true hb
    have hu : o = u := by simpa [lookB, hb] using hk
    subst hj; subst hu; rw [if_pos rfl]
  | false =>
    have hj : S ≠ k := fun e => by subst e; simp at hb
    rw [if_neg (by omega)]; exact h.get k u (by simpa [lookB, hb] using hk)
theorem Wd.change {w' : World} (h : Wd w0 S B w) (k : Nat) (o : Obj) (hf : Fr [w0.heap.size + k] w w') (hs : w'.heap.size = w.heap.size) (ho : w'.heap[w0.heap.size + k]? = some o) : Wd w0 S ((k, o) :: B) w' := by
  refine ⟨by rw [hs, h.size], (h.fr.andThen (l := []) hf (fun i hi => by simp at hi; omega)), fun j u hj => ?_⟩
  cases hb : Nat.beq k j with
  | true =>
    have hj' : k = j := Nat.eq_of_beq_eq_true hb
    have hu : o = u := by simpa [lookB, hb] using hj
    subst hj'; subst hu; exact ho
  | false =>
    have hj' : k ≠ j := fun e => by subst e; simp at hb
    exact hf.keep (h.get j u (by simpa [lookB, hb] using hj)) (by simp; omega)
theorem Wd.set (h : Wd w0 S B w) {k : Nat} {cs : Array Value} {t : TypeId} (hk : lookB B k = some (.cells cs t (0, 0))) (j : Nat) (v : Value) : Wd w0 S ((k, .cells (cs.setIfInBounds j v) t (0, 0)) :: B) (w.setCell ⟨w0.heap.size + k, j, none⟩ v) :=
  h.change k _ ((Fr.refl _ _).setCell _ (by simp) _) (by simp) (heap_setCell_same _ _ _ _ _ _ (h.get k _ hk))
theorem Wd.setM (h : Wd w0 S B w) {k : Nat} {o : Obj} (hk : lookB B k = some o) (o' : Obj) : Wd w0 S ((k, o') :: B) (setB w (w0.heap.size + k) o') :=
  h.change k _ (fr_setB _ _ _) (by simp [setB]) (heap_setB _ _ _ (lt_of_block (h.get k _ hk)))
variable {ops : Array Oper} {rest : List Oper} {o : Oper} {Q : Exit → Act → World → Prop} {v : Value} {d : Nat}
theorem stBox (hK : Fm n K a) (hW : Wd w0 S B w) (hw : Region.wanted o (yielded ops a.tmps) = true) {t : TypeId} {x : Operand} (ho : o.op = .box t x) {cs : Array Value} (hx : lookO K x = some (.agg cs)) (hd : o.dst = some d) (hn : d < n)
    (h : ∀ a' w', Fm n ((d, .pointer (some ⟨w0.heap.size + S, 0, none⟩)) :: K) a' → Wd w0 (S + 1) ((S, .cells cs t (0, 0)) :: B) w' → wpList P ops Q rest a' w') : wpList P ops Q (o :: rest) a w :=
  st hK hw (run_boxOp t x ho cs (hK.op hx) w) hd hn (fun a' hK' => h a' _ (by rw [hW.size] at hK'; exact hK') (hW.alloc _))
theorem stAl (hK : Fm n K a) (hW : Wd w0 S B w) (hw : Region.wanted o (yielded ops a.tmps) = true) {t : TypeId} (ho : o.op = .alloc t) (cs : Array Value) (hr : ∀ w, (Instr.alloc t true (.tuple #[])).run P w = .ok (.pointer (some ⟨w.heap.size, 0, none⟩)) (w.alloc (.cells cs t))) (hd : o.dst = some d) (hn : d < n)
    (h : ∀ a' w', Fm n ((d, .pointer (some ⟨w0.heap.size + S, 0, none⟩)) :: K) a' → Wd w0 (S + 1) ((S, .cells cs t (0, 0)) :: B) w' → wpList P ops Q rest a' w') : wpList P ops Q (o :: rest) a w :=
  st hK hw (run_allocOp t ho cs w (hr w)) hd hn (fun a' hK' => h a' _ (by rw [hW.size] at hK'; exact hK') (hW.alloc _))
theorem run_mkMap {ρ : Operand → Value} (t : TypeId) (ho : o.op = .makeMap t none) (w : World) : (execOp ρ o).run P w = .ok (.value (.map (some w.heap.size))) (w.alloc (.map #[] 0)) := by
  unfold execOp; rw [ho]; rfl
theorem stMap (hK : Fm n K a) (hW : Wd w0 S B w) (hw : Region.wanted o (yielded ops a.tmps) = true) {t : TypeId} (ho : o.op = .makeMap t none) (hd : o.dst = some d) (hn : d < n)
    (h : ∀ a' w', Fm n ((d, .map (some (w0.heap.size + S))) :: K) a' → Wd w0 (S + 1) ((S, .map #[] 0) :: B) w' → wpList P ops Q rest a' w') : wpList P ops Q (o :: rest) a w :=
  st hK hw (run_mkMap t ho w) hd hn (fun a' hK' => h a' _ (by rw [hW.size] at hK'; exact hK') (hW.alloc _))
/-- A store of one cell into a block of the walk's. -/
theorem stSt (hK : Fm n K a) (hW : Wd w0 S B w) (hg : o.guard = none) {t : TypeId} {x y : Operand} (ho : o.op = .store t x y) {k j : Nat} (hx : lookO K x = some (.pointer (some ⟨w0.heap.size + k, j, none⟩))) (hy : lookO K y = some v) (hs : ∀ w, (sizeOf t).run P w = .ok 1 w) (hv : v.cells = #[v]) (h1 : v.oneCell' = true)
    {cs : Array Value} {T : TypeId} (hk : lookB B k = some (.cells cs T (0, 0))) (hj : j < cs.size) (hd : o.dst = none) (h : ∀ w', Wd w0 S ((k, .cells (cs.setIfInBounds j v) T (0, 0)) :: B) w' → wpList P ops Q rest a w') : wpList P ops Q (o :: rest) a w :=
  wpList_store1 t x y ho hg _ v (hK.op hx) (hK.op hy) hs hv h1 (cs[j]) (by rw [cell_at (hW.get k _ hk), Array.getElem?_eq_getElem hj]) (free_at (hW.get k _ hk) j) (by rw [hd]; exact h _ (hW.set hk j v))
/-- A new key into a map of the walk's. -/
theorem stPut (hK : Fm n K a) (hW : Wd w0 S B w) (hw : Region.wanted o (yielded ops a.tmps) = true) {t kt e : TypeId} {x y z : Operand} (ho : o.op = .mapUpdate t x y z) {q : IntKind} (ht : P.underlying t = some (.map kt e)) (hkt : P.underlying kt = some (.int q)) {k c : Nat} {i : Int} (hx : lookO K x = some (.map (some (w0.heap.size + k)))) (hy : lookO K y = some (.int q i)) (hz : lookO K z = some v)
    (hk : lookB B k = some (.map #[] c)) (hd : o.dst = none) (h : ∀ w', Wd w0 S ((k, .map #[⟨.int q i, v, c⟩] (c + 1)) :: B) w' → wpList P ops Q rest a w') : wpList P ops Q (o :: rest) a w := by
  refine wpList_put t x y z ho hw _ _ v _ (hK.op hx) (hK.op hy) (hK.op hz) (put_new t kt e q ht hkt _ i #[] c v w (hW.get k _ hk) rfl) ?_
  rw [hd]
  exact h _ (hW.setM hk _)
end
/-! ### statements -/
theorem srg {P : Program} {id : Nat} {ops : Array Oper} {y : Code} {Q : Exit → Act → World → Prop} {a : Act} {w : World} (h : wpList P ops (Exit.then (y.wp P Q) Q) ops.toList a w) : (Code.seq (.region id ops false) y).wp P Q a w := wp_seq (wp_region_list h)
end Go.Proofs.Ybulkaeqi
