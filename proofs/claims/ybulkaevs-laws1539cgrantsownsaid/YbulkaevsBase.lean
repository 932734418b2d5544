/-
  THE BASE: small laws over whatever program: frames, single operations at a state that is a variable, and the walk by facts.
-/
import Derived.WalkKit
import Derived.WalkSpells
import Derived.WalkLawsBesides
import Derived.Deep.RegionHeld3
import Derived.Deep.RegionLawGrows
import Derived.Deep.WholeRow
namespace Go.Proofs.Ybulkaevs
open Go.RowKit
/-! ### a region's operations, by the way to it (0: a sequence's first, 1: its second; 2, 3: a test's two ways; 4: a loop's body, 5: a block's) -/
def regionAt : List Nat → Code → Array Oper
  | 0 :: p, .seq a _ => regionAt p a
  | 1 :: p, .seq _ b => regionAt p b
  | 2 :: p, .cond _ a _ => regionAt p a
  | 3 :: p, .cond _ _ b => regionAt p b
  | 4 :: p, .loop b => regionAt p b
  | 5 :: p, .block _ b => regionAt p b
  | [], .region _ ops _ => ops
  | _, _ => #[]
def opsOf (f : Func) (p : List Nat) : Array Oper := match f.body with | some c => regionAt p c | none => #[]
def opAt (f : Func) (p : List Nat) (i : Nat) : Oper := ((opsOf f p)[i]?).getD { dst := none, op := .move (.tmp 0), type := 0, pos := "", after := #[], guard := none }
section
variable {P : Program}
/-! ### a state that is a variable -/
theorem eval_same (a : Act) (d : Nat) (v : Value) (h : d < a.tmps.size) : (a.put (some d) v).eval (.tmp d) = v := by
  simp [Act.put, Act.eval, h]
theorem eval_other (a : Act) (d t : Nat) (v : Value) (h : d ≠ t) : (a.put (some d) v).eval (.tmp t) = a.eval (.tmp t) :=
  Act.eval_put (fun x hx => by cases hx; intro e; cases e; exact h rfl)
theorem size_put (a : Act) (d : Option Nat) (v : Value) : (a.put d v).tmps.size = a.tmps.size := by cases d <;> simp [Act.put]
theorem defers_put (a : Act) (d : Option Nat) (v : Value) : (a.put d v).defers = a.defers := by cases d <;> rfl

/-! ### the frame: blocks that were there, but for those on the list, are as they were -/
structure Fr (l : List Nat) (w w' : World) : Prop where
  os : w'.os = w.os
  tape : w'.tape = w.tape
  output : w'.output = w.output
  size : w.heap.size ≤ w'.heap.size
  block : ∀ k, k < w.heap.size → k ∉ l → w'.heap[k]? = w.heap[k]?
theorem Fr.refl (l : List Nat) (w : World) : Fr l w w := ⟨rfl, rfl, rfl, Nat.le_refl _, fun _ _ _ => rfl⟩
theorem Fr.trans {l : List Nat} {a b c : World} (h : Fr l a b) (k : Fr l b c) : Fr l a c :=
  ⟨k.os.trans h.os, k.tape.trans h.tape, k.output.trans h.output, Nat.le_trans h.size k.size, fun i hi hn => (k.block i (Nat.lt_of_lt_of_le hi h.size) hn).trans (h.block i hi hn)⟩
/-- Rows that are new since 'a' may be written freely. -/
theorem Fr.andThen {l l' : List Nat} {a b c : World} (h : Fr l a b) (k : Fr l' b c) (hl : ∀ i ∈ l', i ∈ l ∨ a.heap.size ≤ i) : Fr l a c :=
  ⟨k.os.trans h.os, k.tape.trans h.tape, k.output.trans h.output, Nat.le_trans h.size k.size, fun i hi hn =>
    (k.block i (Nat.lt_of_lt_of_le hi h.size) (fun hm => by rcases hl i hm with h1 | h1; exact hn h1; omega)).trans (h.block i hi hn)⟩
theorem Fr.mono {l l' : List Nat} {a b : World} (h : Fr l a b) (hl : ∀ i ∈ l, i ∈ l') : Fr l' a b :=
  ⟨h.os, h.tape, h.output, h.size, fun i hi hn => h.block i hi (fun hm => hn (hl i hm))⟩
theorem Fr.drew {l : List Nat} {a w : World} (h : Fr l a w) : Fr l a w.drew := ⟨h.os, h.tape, h.output, h.size, h.block⟩
theorem Fr.drewN {l : List Nat} {a w : World} (h : Fr l a w) (n : Nat) : Fr l a (w.drewN n) := ⟨h.os, h.tape, h.output, h.size, h.block⟩
theorem Fr.alloc {l : List Nat} {a w : World} (h : Fr l a w) (o : Obj) : Fr l a (w.alloc o) :=
  ⟨h.os, h.tape, h.output, by have := h.size; simp; omega, fun k hk hn => (Below.heap_alloc w o k (by have := h.size; omega)).trans (h.block k hk hn)⟩
theorem Fr.setCell {l : List Nat} {a w : World} (h : Fr l a w) (p : Addr) (hp : p.block ∈ l ∨ a.heap.size ≤ p.block) (u : Value) : Fr l a (w.setCell p u) :=
  ⟨h.os, h.tape, h.output, by have := h.size; simpa using this, fun k hk hn => (Below.heap_setCell w p u k (fun e => by subst e; rcases hp with hp | hp; exact hn hp; omega)).trans (h.block k hk hn)⟩
theorem Fr.grown {l : List Nat} {a w w' : World} {row : Option Nat} (h : Fr l a w) (hg : w.grownBy w' row) (hr : ∀ k, row = some k → k ∈ l ∨ a.heap.size ≤ k) : Fr l a w' :=
  ⟨hg.os.trans h.os, hg.tape.trans h.tape, hg.output.trans h.output, Nat.le_trans h.size hg.size, fun k hk hn =>
    (hg.block k (Nat.lt_of_lt_of_le hk h.size) (fun e => by rcases hr k e.symm with h1 | h1; exact hn h1; omega)).trans (h.block k hk hn)⟩
theorem Fr.below {l : List Nat} {w w' : World} (h : Fr l w w') {B : Nat} (hB : B ≤ w.heap.size) (hl : ∀ i ∈ l, B ≤ i) : Below B w w' :=
  ⟨h.os, h.tape, h.output, h.size, fun k hk => h.block k (by omega) (fun hm => by have := hl k hm; omega)⟩
theorem Fr.fresh {l : List Nat} {w w' : World} (h : Fr l w w') (hl : ∀ i ∈ l, w.heap.size ≤ i) : Fr [] w w' := ⟨h.os, h.tape, h.output, h.size, fun k hk _ => h.block k hk (fun hm => by have := hl k hm; omega)⟩
theorem Fr.of_below {w w' : World} (h : Below w.heap.size w w') : Fr [] w w' := ⟨h.os, h.tape, h.output, h.size, fun k hk _ => h.block k hk⟩
theorem lt_of_block {w : World} {k : Nat} {o : Obj} (h : w.heap[k]? = some o) : k < w.heap.size := by
  have := (Array.getElem?_eq_some_iff.1 h).1; exact this
theorem Fr.keep {l : List Nat} {w w' : World} (h : Fr l w w') {k : Nat} {o : Obj} (hk : w.heap[k]? = some o) (hn : k ∉ l) : w'.heap[k]? = some o :=
  (h.block k (lt_of_block hk) hn).trans hk
theorem Fr.cell {l : List Nat} {w w' : World} (h : Fr l w w') {p : Addr} (hp : p.block < w.heap.size) (hn : p.block ∉ l) : w'.cell? p = w.cell? p :=
  World.cell?_of_block (w := w) (h.block p.block hp hn)
theorem Fr.range {l : List Nat} {w w' : World} (h : Fr l w w') {b o : Nat} {cs : List Value} (hc : w.rangeAt b o cs) (hb : b < w.heap.size) (hn : b ∉ l) : w'.rangeAt b o cs :=
  fun j v hv => (h.cell (p := ⟨b, o + j, none⟩) hb hn).trans (hc j v hv)

/-! ### whole blocks -/
theorem cell_at {w : World} {b : Nat} {cs : Array Value} {t : TypeId} {fr : Nat × Nat} (h : w.heap[b]? = some (.cells cs t fr)) (j : Nat) : w.cell? ⟨b, j, none⟩ = cs[j]? := cell_of_row w b j cs t fr h
theorem free_at {w : World} {b : Nat} {cs : Array Value} {t : TypeId} (h : w.heap[b]? = some (.cells cs t (0, 0))) (j : Nat) : w.frozen? ⟨b, j, none⟩ = false := frozen_of_row w b j cs t h
theorem range_at {w : World} {b : Nat} {cs : List Value} {t : TypeId} {fr : Nat × Nat} (h : w.heap[b]? = some (.cells cs.toArray t fr)) : w.rangeAt b 0 cs := by
  intro j v hv
  rw [Nat.zero_add, cell_of_row w b j _ t fr h]
  simpa using hv
theorem range_drop {w : World} {b o : Nat} {cs : List Value} (h : w.rangeAt b o cs) (i n : Nat) : w.rangeAt b (o + i) ((cs.drop i).take n) := by
  intro j v hv
  rw [Nat.add_assoc]
  refine h (i + j) v ?_
  rw [List.getElem?_take] at hv
  split at hv
  · simpa using hv
  · cases hv
theorem own_form {w : World} {base : Nat} {e : TypeId} {size n : Nat} {v : Value} {xs : List Value} (h : w.ownsRow base e size v (n + 1) xs) :
    ∃ g cap cur, v = .slice (some ⟨g, 0, none⟩) (n + 1) cap ∧ base ≤ g ∧ w.heap[g]? = some (.cells cur e (0, 0)) ∧ cur.toList.take ((n + 1) * size) = xs ∧ n + 1 ≤ cap := by
  obtain ⟨_, ⟨_, h⟩ | ⟨g, cap, cur, h1, h2, h3, h4, h5, h6, h7⟩⟩ := h
  · omega
  · exact ⟨g, cap, cur, h1, h2, h3, h7, h4⟩
theorem take_cell {cur : Array Value} {m : Nat} {cs : List Value} (h : cur.toList.take m = cs) {j : Nat} {v : Value} (hj : cs[j]? = some v) : cur[j]? = some v := by
  rw [← h, List.getElem?_take] at hj
  split at hj
  · simpa using hj
  · cases hj
theorem take_range {w : World} {g : Nat} {cur : Array Value} {e m : Nat} {fr : Nat × Nat} {cs : List Value} (hg : w.heap[g]? = some (.cells cur e fr)) (h : cur.toList.take m = cs) : w.rangeAt g 0 cs := by
  intro j v hv
  rw [Nat.zero_add, cell_at hg]
  exact take_cell h hv

/-! ### a slice literal of one struct -/
theorem fill_one (place : Nat → Option (Nat × Nat)) (Z : Array Value) (cs : Array Value) (h : place 0 = some (0, cs.size)) (hz : Z.size = cs.size) : Instr.fill place Z [(0, .agg cs)] = some cs := by
  have key : ∀ (l : List Value) (k : Nat) (A : Array Value), (∀ j, j < l.length → k + j < A.size) →
      ∀ i, (List.foldl (fun (c : Array Value) (x : Value × Nat) => c.setIfInBounds (0 + x.2) x.1) A (l.zipIdx k))[i]? = if k ≤ i ∧ i < k + l.length then l[i - k]? else A[i]? := by
    intro l
    induction l with
    | nil => intro k A _ i; simp; omega
    | cons x l ih =>
      intro k A hA i
      simp only [List.zipIdx_cons, List.foldl_cons, Nat.zero_add]
      have := ih (k + 1) (A.setIfInBounds k x) (fun j hj => by have := hA (j + 1) (by simp; omega); simp; omega) i
      simp only [Nat.zero_add] at this
      rw [this]
      have hk : k < A.size := by have := hA 0 (by simp); omega
      by_cases hik : i = k
      · subst hik
        simp [hk]
        omega
      · by_cases h1 : k + 1 ≤ i ∧ i < k + 1 + l.length
        · obtain ⟨m, rfl⟩ : ∃ m, i = k + 1 + m := ⟨i - (k + 1), by omega⟩
          have e1 : k + 1 + m - k = m + 1 := by omega
          rw [if_pos h1, if_pos (by simp; omega), e1]
          simp
        · rw [if_neg h1, if_neg (by simp; omega)]
          simp [Ne.symm hik]
  have e : (Value.agg cs).cells = cs := rfl
  unfold Instr.fill
  rw [h]
  dsimp only
  rw [e]
  split
  · rename_i hc; simp [hz] at hc
  show some _ = some _
  congr 1
  apply Array.ext_getElem?
  intro i
  have := key cs.toList 0 Z (fun j hj => by simp at hj; omega) i
  rw [← Array.toList_zipIdx] at this
  rw [← Array.foldl_toList]
  rw [this]
  by_cases hi : i < cs.size
  · simp [hi]
  · simp [hi]; omega
theorem run_buildSlice_one (t e : TypeId) (i : TypeInfo) (z : Value) (cs : Array Value) (w : World) (ht : P.underlying t = some (.slice e)) (hi : P.info? e = some i) (hz : i.zero = some z) (hs : i.size = cs.size)
    (hzs : z.cells.size = cs.size) (h0 : 0 < cs.size) (h24 : cs.size ≤ 1000) :
    (Instr.buildSlice t 1 #[(0, .agg cs)]).run P w = .ok (.slice (some ⟨w.heap.size, 0, none⟩) 1 1) (w.alloc (.cells cs e)) := by
  have hf : Instr.fill (fun i => some (i * cs.size, cs.size)) (Array.map (fun x => z.cells[x % cs.size]!) (Array.range cs.size)) [(0, .agg cs)] = some cs :=
    fill_one _ _ cs (by simp) (by simp)
  unfold Instr.buildSlice
  simp only [Sem.run_bind, run_underlying ht w, Result.andThen_ok, sizeOf, typeInfo, Sem.run_pure, Nat.one_mul]
  simp [hi, hs, zeroValue, typeInfo, hz, hzs, hf, newRow, newObj]
  rw [if_neg (by omega), if_neg (by intro h; simp [h] at h0)]
  rfl
theorem wp_buildSlice_one {op : Oper} {a : Act} {w : World} {K : Act → World → Prop} {Q : Exit → Act → World → Prop} (t : TypeId) (x : Operand) (ho : op.op = .buildSlice t 1 #[(0, x)])
    (e : TypeId) (i : TypeInfo) (z : Value) (cs : Array Value) (hx : a.eval x = .agg cs) (ht : P.underlying t = some (.slice e)) (hi : P.info? e = some i) (hz : i.zero = some z) (hs : i.size = cs.size)
    (hzs : z.cells.size = cs.size) (h0 : 0 < cs.size) (h24 : cs.size ≤ 1000)
    (h : K (a.put op.dst (.slice (some ⟨w.heap.size, 0, none⟩) 1 1)) (w.alloc (.cells cs e))) : op.wp P a w K Q := by
  unfold Oper.wp execOp
  simp only [ho, List.map_toArray, List.map_cons, List.map_nil, hx, Sem.run_bind, Sem.run_pure, Result.andThen_ok, run_buildSlice_one t e i z cs w ht hi hz hs hzs h0 h24]
  exact h
/-- A step of a region that draws, at an operation without a guard. -/
theorem step_of_wp {ops : Array Oper} {o : Oper} {a : Act} {w : World} {K : Act → World → Prop} {Q : Exit → Act → World → Prop} {E : Prop} (hg : o.guard = none) (h : Oper.wp P o a w K Q) :
    if Region.wanted o (yielded ops a.tmps) = true then Oper.wp P o a w K Q else E := by
  rw [if_pos (by simp [Region.wanted, hg])]; exact h
/-! ### single operations at a state that is a variable -/
theorem run_mv {ρ : Operand → Value} {o : Oper} (x : Operand) (ho : o.op = .move x) (v : Value) (hx : ρ x = v) (w : World) : (execOp ρ o).run P w = .ok (.value v) w := (BigFrame.run_move x ho w).trans (by rw [hx])
theorem run_asg {ρ : Operand → Value} {o : Oper} (x : Operand) (ho : o.op = .assign x) (v : Value) (hx : ρ x = v) (w : World) : (execOp ρ o).run P w = .ok (.value v) w := (BigFrame.run_assign x ho w).trans (by rw [hx])
theorem run_nilCheck {ρ : Operand → Value} {o : Oper} (x : Operand) (ho : o.op = .nilCheck x) (p : Addr) (hx : ρ x = .pointer (some p)) (w : World) : (execOp ρ o).run P w = .ok (.value (.pointer (some p))) w := by
  unfold execOp; rw [ho]; simp [hx, go_sem]
theorem run_fieldAddr {ρ : Operand → Value} {o : Oper} (S : TypeId) (x : Operand) (f : Nat) (ho : o.op = .fieldAddr S x f) (p : Addr) (q : Addr) (hx : ρ x = .pointer (some p)) (w : World)
    (hF : (Instr.fieldAt S (.pointer (some p)) f).run P w = .ok (.pointer (some q)) w) : (execOp ρ o).run P w = .ok (.value (.pointer (some q))) w := by
  unfold execOp; rw [ho]
  simp only [hx, Sem.run_bind, Sem.run_pure, hF, Result.andThen_ok]
theorem run_load_one {ρ : Operand → Value} {o : Oper} (t : TypeId) (x : Operand) (ho : o.op = .load t x) (p : Addr) (v : Value) (hx : ρ x = .pointer (some p)) (w : World) (hc : w.cell? p = some v)
    (ha : (isAgg t).run P w = .ok false w) : (execOp ρ o).run P w = .ok (.value v) w := by
  unfold execOp; rw [ho]
  simp [hx, Instr.loadAt, Instr.sureAddr, loadVar, Sem.run_bind, ha, Result.andThen_ok, load, Sem.run, hc]
theorem run_load_mid {ρ : Operand → Value} {op : Oper} (ty : TypeId) (x : Operand) (ho : op.op = .load ty x)
    (b o : Nat) (hx : ρ x = .pointer (some ⟨b, o, none⟩)) (cs : List Value) (d : TypeDesc) (w : World) (hc : w.rangeAt b o cs)
    (hu : P.underlying ty = some d) (hd : d.isRow = true) (hi : (P.info? ty).map (·.size) = some cs.length) : (execOp ρ op).run P w = .ok (.value (.agg cs.toArray)) w := by
  unfold execOp; rw [ho]
  simp only [hx, Instr.loadAt, Instr.sureAddr, Sem.run_bind, Sem.run_pure, Result.andThen_ok, run_loadVar_mid w b o ty cs d hc hu hd hi]
theorem wp_of_run {o : Oper} {a : Act} {w w' : World} {K : Act → World → Prop} {Q : Exit → Act → World → Prop} {v : Value} (hr : (execOp a.eval o).run P w = .ok (.value v) w') (h : K (a.put o.dst v) w') : o.wp P a w K Q := by
  unfold Oper.wp; rw [hr]; exact h
theorem wp_store_one {op : Oper} {a : Act} {w : World} {K : Act → World → Prop} {Q : Exit → Act → World → Prop} (t : TypeId) (x y : Operand) (ho : op.op = .store t x y) (p : Addr) (v : Value) (hx : a.eval x = .pointer (some p)) (hy : a.eval y = v)
    (hs : ∀ w, (sizeOf t).run P w = .ok 1 w) (hv : v.cells = #[v]) (h1 : v.oneCell' = true) (u : Value) (hc : w.cell? p = some u) (hf : w.frozen? p = false) (h : K (a.put op.dst undef) (w.setCell p v)) : op.wp P a w K Q := by
  unfold Oper.wp execOp
  have hst : (storeVar t p v).run P w = .ok () (w.setCell p v) := by
    simp only [storeVar, hv, Sem.run_bind, hs, Result.andThen_ok]
    cases v <;> first | (cases h1; done) | simp [storeCells, Addr.add, store, Sem.run, hc, hf]
  simp only [ho, hx, hy, Instr.storeAt, Instr.sureAddr, Sem.run_bind, Sem.run_pure, Result.andThen_ok, hst]
  exact h
theorem run_bin {ρ : Operand → Value} {o : Oper} (op : BinOp) (t : TypeId) (x y : Operand) (rt : TypeId) (ho : o.op = .binOp op t x y rt) (u v r : Value) (hx : ρ x = u) (hy : ρ y = v) (w : World)
    (h : (do eqGuard op t x y u v; binOp op t u v : Sem Value).run P w = .ok r w) : (execOp ρ o).run P w = .ok (.value r) w := by
  unfold execOp; rw [ho]
  dsimp only
  rw [hx, hy, Sem.run_bind, h]
  rfl
theorem run_build {ρ : Operand → Value} {o : Oper} (t : TypeId) (parts : Array (Nat × Operand)) (ho : o.op = .build t parts) (vals : Array (Nat × Value)) (hv : (parts.map fun (i, x) => (i, ρ x)) = vals) (r : Value) (w : World)
    (h : (Instr.build t vals).run P w = .ok r w) : (execOp ρ o).run P w = .ok (.value r) w := by
  unfold execOp; rw [ho]
  dsimp only
  rw [hv, Sem.run_bind, h]
  rfl
/-! ### one operation in a plain region -/
theorem wpList_of_run {ops : Array Oper} {rest : List Oper} {o : Oper} {a : Act} {w w' : World} {Q : Exit → Act → World → Prop} {v : Value} (hg : o.guard = none) (hr : (execOp a.eval o).run P w = .ok (.value v) w')
    (h : wpList P ops Q rest (a.put o.dst v) w') : wpList P ops Q (o :: rest) a w := wpList_plain hg fun _ hK => wp_of_run hr (hK _ _ h)
theorem wpList_of_run_want {ops : Array Oper} {rest : List Oper} {o : Oper} {a : Act} {w w' : World} {Q : Exit → Act → World → Prop} {v : Value} (hw : Region.wanted o (yielded ops a.tmps) = true) (hr : (execOp a.eval o).run P w = .ok (.value v) w')
    (h : wpList P ops Q rest (a.put o.dst v) w') : wpList P ops Q (o :: rest) a w := BigFrame.wpList_want hw fun _ hK => wp_of_run hr (hK _ _ h)
theorem run_allocOp {ρ : Operand → Value} {o : Oper} (t : TypeId) (ho : o.op = .alloc t) (cs : Array Value) (w : World) (h : (Instr.alloc t true (.tuple #[])).run P w = .ok (.pointer (some ⟨w.heap.size, 0, none⟩)) (w.alloc (.cells cs t))) :
    (execOp ρ o).run P w = .ok (.value (.pointer (some ⟨w.heap.size, 0, none⟩))) (w.alloc (.cells cs t)) := by
  unfold execOp; rw [ho]
  dsimp only
  rw [Sem.run_bind, h]
  rfl
theorem wpList_store_new {ops : Array Oper} {rest : List Oper} {o : Oper} {a : Act} {w : World} {Q : Exit → Act → World → Prop} (hg : o.guard = none) (t : TypeId) (x y : Operand) (ho : o.op = .store t x y) (c c' : Array Value)
    (hx : a.eval x = .pointer (some ⟨w.heap.size, 0, none⟩)) (hy : a.eval y = .agg c') (hi : (P.info? t).map (·.size) = some c'.size) (hc : c.size = c'.size) (h1 : c'.all (·.oneCell') = true)
    (h : wpList P ops Q rest (a.put o.dst undef) (w.alloc (.cells c' t))) : wpList P ops Q (o :: rest) a (w.alloc (.cells c t)) := by
  refine wpList_plain hg fun K hK => ?_
  unfold Oper.wp execOp
  simp only [ho, hx, hy, Sem.run_bind, run_storeAt_new w t c c' hi hc h1, Result.andThen_ok]
  exact hK _ _ h
/-- A struct's or an array's type, of n cells. -/
def RowType (P : Program) (ty : TypeId) (n : Nat) : Prop := (∃ d, P.underlying ty = some d ∧ d.isRow = true) ∧ (P.info? ty).map (·.size) = some n
theorem RowType.mk' {ty n : Nat} {d : TypeDesc} (h : P.underlying ty = some d) (hd : d.isRow = true) (hi : (P.info? ty).map (·.size) = some n) : RowType P ty n := ⟨⟨d, h, hd⟩, hi⟩
theorem run_load_row {ρ : Operand → Value} {op : Oper} (ty : TypeId) (x : Operand) (ho : op.op = .load ty x) (b o : Nat) (hx : ρ x = .pointer (some ⟨b, o, none⟩)) (cs : List Value) (n : Nat) (hn : cs.length = n) (hr : RowType P ty n) (w : World) (hc : w.rangeAt b o cs) :
    (execOp ρ op).run P w = .ok (.value (.agg cs.toArray)) w := by
  obtain ⟨⟨d, h1, h2⟩, h3⟩ := hr
  exact run_load_mid ty x ho b o hx cs d w hc h1 h2 (by rw [hn]; exact h3)
theorem wpList_want_load {ops : Array Oper} {rest : List Oper} {o : Oper} {a : Act} {w : World} {Q : Exit → Act → World → Prop} (ty : TypeId) (x : Operand) (ho : o.op = .load ty x) (hw : Region.wanted o (yielded ops a.tmps) = true)
    (b off : Nat) (hx : a.eval x = .pointer (some ⟨b, off, none⟩)) (cs : List Value) (n : Nat) (hn : cs.length = n) (hr : RowType P ty n) (hc : w.rangeAt b off cs) (h : wpList P ops Q rest (a.put o.dst (.agg cs.toArray)) w) : wpList P ops Q (o :: rest) a w :=
  wpList_of_run_want hw (run_load_row ty x ho b off hx cs n hn hr w hc) h
theorem wpList_want_bin {ops : Array Oper} {rest : List Oper} {o : Oper} {a : Act} {w : World} {Q : Exit → Act → World → Prop} (op : BinOp) (t : TypeId) (x y : Operand) (rt : TypeId) (ho : o.op = .binOp op t x y rt) (hw : Region.wanted o (yielded ops a.tmps) = true)
    (u v r : Value) (hx : a.eval x = u) (hy : a.eval y = v) (hr : (do eqGuard op t x y u v; binOp op t u v : Sem Value).run P w = .ok r w) (h : wpList P ops Q rest (a.put o.dst r) w) : wpList P ops Q (o :: rest) a w :=
  wpList_of_run_want hw (run_bin op t x y rt ho u v r hx hy w hr) h
theorem wpList_want_alloc {ops : Array Oper} {rest : List Oper} {o : Oper} {a : Act} {w : World} {Q : Exit → Act → World → Prop} (t : TypeId) (ho : o.op = .alloc t) (hw : Region.wanted o (yielded ops a.tmps) = true) (cs : Array Value)
    (hr : (Instr.alloc t true (.tuple #[])).run P w = .ok (.pointer (some ⟨w.heap.size, 0, none⟩)) (w.alloc (.cells cs t))) (h : wpList P ops Q rest (a.put o.dst (.pointer (some ⟨w.heap.size, 0, none⟩))) (w.alloc (.cells cs t))) : wpList P ops Q (o :: rest) a w :=
  wpList_of_run_want hw (run_allocOp t ho cs w hr) h
theorem wpList_want_build {ops : Array Oper} {rest : List Oper} {o : Oper} {a : Act} {w : World} {Q : Exit → Act → World → Prop} (t : TypeId) (parts : Array (Nat × Operand)) (ho : o.op = .build t parts) (hw : Region.wanted o (yielded ops a.tmps) = true)
    (vals : Array (Nat × Value)) (hv : (parts.map fun (i, x) => (i, a.eval x)) = vals) (r : Value) (hr : (Instr.build t vals).run P w = .ok r w) (h : wpList P ops Q rest (a.put o.dst r) w) : wpList P ops Q (o :: rest) a w :=
  wpList_of_run_want hw (run_build t parts ho vals hv r w hr) h
theorem wpList_want_slice1 {ops : Array Oper} {rest : List Oper} {op : Oper} {a : Act} {w : World} {Q : Exit → Act → World → Prop} (t : TypeId) (x : Operand) (ho : op.op = .buildSlice t 1 #[(0, x)]) (hg : op.guard = none)
    (e : TypeId) (i : TypeInfo) (z : Value) (cs : Array Value) (hx : a.eval x = .agg cs) (ht : P.underlying t = some (.slice e)) (hi : P.info? e = some i) (hz : i.zero = some z) (hs : i.size = cs.size)
    (hzs : z.cells.size = cs.size) (h0 : 0 < cs.size) (h24 : cs.size ≤ 1000)
    (h : wpList P ops Q rest (a.put op.dst (.slice (some ⟨w.heap.size, 0, none⟩) 1 1)) (w.alloc (.cells cs e))) : wpList P ops Q (op :: rest) a w :=
  wpList_plain hg fun _ hK => wp_buildSlice_one t x ho e i z cs hx ht hi hz hs hzs h0 h24 (hK _ _ h)
theorem size_al (w : World) (o : Obj) : (w.alloc o).heap.size = w.heap.size + 1 := by simp
theorem heap_get (w : World) (o : Obj) (k : Nat) : (w.alloc o).heap[k]? = if k = w.heap.size then some o else w.heap[k]? := by
  by_cases h : k = w.heap.size
  · subst h; rw [if_pos rfl]; exact heap_alloc_new w o
  · rw [if_neg h]
    by_cases h' : k < w.heap.size
    · exact Below.heap_alloc w o k h'
    · rw [Array.getElem?_eq_none (by simp; omega), Array.getElem?_eq_none (by omega)]
/-! ### calls -/
theorem parts4 {ρ : Operand → Value} {i j k l : Nat} {x y z u : Operand} {a b c d : Value} (h1 : ρ x = a) (h2 : ρ y = b) (h3 : ρ z = c) (h4 : ρ u = d) :
    (#[(i, x), (j, y), (k, z), (l, u)].map fun (p : Nat × Operand) => match p with | (i, x) => (i, ρ x)) = #[(i, a), (j, b), (k, c), (l, d)] := by simp [h1, h2, h3, h4]
theorem parts5 {ρ : Operand → Value} {i j k l m : Nat} {x y z u v : Operand} {a b c d e : Value} (h1 : ρ x = a) (h2 : ρ y = b) (h3 : ρ z = c) (h4 : ρ u = d) (h5 : ρ v = e) :
    (#[(i, x), (j, y), (k, z), (l, u), (m, v)].map fun (p : Nat × Operand) => match p with | (i, x) => (i, ρ x)) = #[(i, a), (j, b), (k, c), (l, d), (m, e)] := by simp [h1, h2, h3, h4, h5]
theorem args1 {ρ : Operand → Value} {x : Operand} {a : Value} (h1 : ρ x = a) : #[x].map ρ = #[a] := by simp [h1]
theorem args2 {ρ : Operand → Value} {x y : Operand} {a b : Value} (h1 : ρ x = a) (h2 : ρ y = b) : #[x, y].map ρ = #[a, b] := by simp [h1, h2]
theorem args3 {ρ : Operand → Value} {x y z : Operand} {a b c : Value} (h1 : ρ x = a) (h2 : ρ y = b) (h3 : ρ z = c) : #[x, y, z].map ρ = #[a, b, c] := by simp [h1, h2, h3]
theorem run_callFn {ρ : Operand → Value} {o : Oper} (f : FuncId) (xs : Array Operand) (tt : Array TypeId) (ho : o.op = .call { callee := .value (.func f), args := xs, argTypes := tt }) (hf : ρ (.func f) = .func (.func f) #[] #[])
    (args : Array Value) (ha : xs.map ρ = args) (w : World) (hb : (callFunc f args).run P w = .ok (.enter f args) w) : (execOp ρ o).run P w = .ok (.enter f args) w := by
  unfold execOp; rw [ho]
  simp [resolve, hf, ha, Deferred.ofValue, invoke, hb]
theorem run_invoke {ρ : Operand → Value} {o : Oper} (x : Operand) (m : String) (xs : Array Operand) (tt : Array TypeId) (ho : o.op = .call { callee := .invoke x m, args := xs, argTypes := tt })
    (v : Value) (hx : ρ x = v) (args as : Array Value) (f : FuncId) (ha : xs.map ρ = args) (w : World) (hb : (callMethod v m args).run P w = .ok (.enter f as) w) : (execOp ρ o).run P w = .ok (.enter f as) w := by
  unfold execOp; rw [ho]
  simp [resolve, hx, ha, invoke]
  rw [show (#[v] ++ args)[0]? = some v from by simp [Array.getElem?_append]]
  exact hb
theorem wp_enter {o : Oper} {a : Act} {w w' : World} {K : Act → World → Prop} {Q : Exit → Act → World → Prop} {f : FuncId} {args : Array Value} (hr : (execOp a.eval o).run P w = .ok (.enter f args) w')
    (hc : Calls P f args w' fun e w'' => ∃ v, e = .returned v ∧ K (a.put o.dst v) w'') : o.wp P a w K Q := by
  unfold Oper.wp; rw [hr]
  exact hc.mono fun e w'' ⟨v, he, hk⟩ => by subst he; exact hk
/-- Whatever order, with the condition S: one operation alone may come up, and it is the last. -/
theorem held_one {ops : Array Oper} {Q : Exit → Act → World → Prop} {md : Region.Mode} {S : World → Prop} {fuel : Nat} {listed : Array Bool} {a : Act} {w : World} {i : Nat} {o : Oper} (hr : Region.ready md ops listed = [i]) (ho : ops[i]? = some o) (hg : o.guard = none)
    (h : o.wp P a w (fun a' w' => S w' ∧ wpAnyH P md ops Q S fuel (listed.setIfInBounds i true) a' w') Q) : wpAnyH P md ops Q S (fuel + 1) listed a w := by
  refine wpAnyH_all hr (by simp) fun j hj => ?_
  obtain rfl : j = i := by simpa using hj
  unfold wpOp
  rw [ho]
  dsimp only
  rw [if_pos (by simp [Region.wanted, hg])]
  exact .inl h
theorem held_two {ops : Array Oper} {Q : Exit → Act → World → Prop} {md : Region.Mode} {S : World → Prop} {fuel : Nat} {listed : Array Bool} {a : Act} {w : World} {i j : Nat} {o o' : Oper} (hr : Region.ready md ops listed = [i, j]) (ho : ops[i]? = some o) (ho' : ops[j]? = some o') (hg : o.guard = none) (hg' : o'.guard = none)
    (h : o.wp P a w (fun a' w' => S w' ∧ wpAnyH P md ops Q S fuel (listed.setIfInBounds i true) a' w') Q)
    (h' : o'.wp P a w (fun a' w' => S w' ∧ wpAnyH P md ops Q S fuel (listed.setIfInBounds j true) a' w') Q) : wpAnyH P md ops Q S (fuel + 1) listed a w := by
  refine wpAnyH_all hr (by simp) fun k hk => ?_
  have hk' : k = i ∨ k = j := by simpa using hk
  unfold wpOp
  rcases hk' with rfl | rfl
  · rw [ho]
    dsimp only
    rw [if_pos (by simp [Region.wanted, hg])]
    exact .inl h
  · rw [ho']
    dsimp only
    rw [if_pos (by simp [Region.wanted, hg'])]
    exact .inl h'
/-- An append that must grow, as one operation. -/
theorem wp_append_grows {o : Oper} {a : Act} {w : World} {K : Act → World → Prop} {Q : Exit → Act → World → Prop}
    (hg : o.guard = none) (s x : Operand) (t : TypeId) (hop : o.op = Op.call { callee := Callee.builtin Builtin.append, args := #[s, x], argTypes := #[t, t] })
    (e : TypeId) (i : TypeInfo) (z : Value) (size bytes : Nat) (h1 : P.underlying t = some (.slice e)) (h2 : P.info? e = some i) (h3 : i.zero = some z) (h4 : i.size = size) (h5 : i.bytes = bytes) (h6 : z.cells.size = size) (h7 : 0 < size)
    (ao : Option Addr) (n cap : Nat) (olds : List Value) (hs : a.eval s = .slice ao n cap) (hnone : ao = none → n = 0 ∧ cap = 0) (hlo : olds.length = n * size) (holds : ∀ b, ao = some b → ∀ j u, olds[j]? = some u → w.cell? (b.add j) = some u)
    (ad : Addr) (m c : Nat) (news : List Value) (hx : a.eval x = .slice (some ad) m c) (hn : news.length = m * size) (hc : ∀ j u, news[j]? = some u → w.cell? (ad.add j) = some u) (h1c : ∀ u ∈ news, u.oneCell' = true)
    (hfull : cap < n + m) (b1 : n + m ≤ maxLen) (b2 : (n + m) * bytes ≤ 140737488355328)
    (hK : ∀ v' w', w'.ownsRow w.heap.size e size v' (n + m) (olds ++ news) → w.grownBy w' none → K (a.put o.dst v') w') : Oper.wp P o a w K Q := by
  have := step_append_grows (P := P) (ops := #[]) (E := False) (Q := Q) hg s x t hop e i z size bytes h1 h2 h3 h4 h5 h6 h7 ao n cap olds hs hnone hlo holds ad m c news hx hn hc h1c hfull b1 b2 hK
  rwa [if_pos (by simp [Region.wanted, hg])] at this
/-- A slice literal of one element of one cell. -/
theorem fill_one1 (place : Nat → Option (Nat × Nat)) (Z : Array Value) (v : Value) (h : place 0 = some (0, 1)) (hz : Z.size = 1) (hv : v.cells = #[v]) : Instr.fill place Z [(0, v)] = some #[v] := by
  obtain ⟨l⟩ := Z
  match l, hz with
  | [x], _ => simp [Instr.fill, h, hv]
theorem wp_buildSlice_one1 {op : Oper} {a : Act} {w : World} {K : Act → World → Prop} {Q : Exit → Act → World → Prop} (t : TypeId) (x : Operand) (ho : op.op = .buildSlice t 1 #[(0, x)])
    (e : TypeId) (i : TypeInfo) (z v : Value) (hx : a.eval x = v) (hv : v.cells = #[v]) (ht : P.underlying t = some (.slice e)) (hi : P.info? e = some i) (hz : i.zero = some z) (hs : i.size = 1)
    (h : K (a.put op.dst (.slice (some ⟨w.heap.size, 0, none⟩) 1 1)) (w.alloc (.cells #[v] e))) : op.wp P a w K Q := by
  have hf : ∀ Z : Array Value, Z.size = 1 → Instr.fill (fun i => some (i, 1)) Z [(0, v)] = some #[v] := fun Z hZ => fill_one1 _ Z v (by simp) hZ hv
  have hr : (Instr.buildSlice t 1 #[(0, v)]).run P w = .ok (.slice (some ⟨w.heap.size, 0, none⟩) 1 1) (w.alloc (.cells #[v] e)) := by
    unfold Instr.buildSlice
    simp only [Sem.run_bind, run_underlying ht w, Result.andThen_ok, sizeOf, typeInfo, Sem.run_pure, Nat.one_mul]
    simp [hi, hs, zeroValue, typeInfo, hz, newRow, newObj, hf]
    rfl
  unfold Oper.wp execOp
  simp only [ho, List.map_toArray, List.map_cons, List.map_nil, hx, Sem.run_bind, Sem.run_pure, Result.andThen_ok, hr]
  exact h
end
section
variable {P : Program}
/-- The world with another object in block m. -/
def setB (w : World) (m : Nat) (o : Obj) : World := { w with heap := w.heap.setIfInBounds m o }
theorem fr_setB (w : World) (m : Nat) (o : Obj) : Fr [m] w (setB w m o) :=
  ⟨rfl, rfl, rfl, by simp [setB], fun k hk hn => by
    have : m ≠ k := fun e => hn (by simp [e])
    simp [setB, Array.getElem?_setIfInBounds_ne this]⟩
theorem heap_setB (w : World) (m : Nat) (o : Obj) (h : m < w.heap.size) : (setB w m o).heap[m]? = some o := by simp [setB, h]
theorem run_checkKey_int (b : Bool) (n : Nat) (k : TypeId) (q : IntKind) (hk : P.underlying k = some (.int q)) (x : Int) (w : World) : (Instr.checkKey b (n + 1) k (.int q x)).run P w = .ok () w := by
  unfold Instr.checkKey
  rw [Sem.run_bind, run_underlying hk, Result.andThen_ok]
  rfl
theorem run_findKey_int (k : TypeId) (q : IntKind) (hk : P.underlying k = some (.int q)) (x : Int) (es : List MapEntry) (r : Option (Nat × Value)) (hr : Instr.findNow (.int q) (.int q x) es 0 = some r) (w : World) : (Instr.findKey k (.int q x) es).run P w = .ok r w := by
  unfold Instr.findKey
  rw [Sem.run_bind, run_underlying hk, Result.andThen_ok, hr]
  rfl
theorem look_hit (t k e : TypeId) (q : IntKind) (ht : P.underlying t = some (.map k e)) (hk : P.underlying k = some (.int q)) (m : Nat) (x : Int) (es : Array MapEntry) (c i : Nat) (v : Value) (w : World) (hm : w.heap[m]? = some (.map es c)) (hf : Instr.findNow (.int q) (.int q x) es.toList 0 = some (some (i, v))) :
    (Instr.lookup t (.map (some m)) (.int q x) true).run P w = .ok (.tuple #[v, .bool true]) w := by
  unfold Instr.lookup
  have hg : (getObj m).run P w = .ok (.map es c) w := by simp [getObj, Sem.run, hm]
  simp [Sem.run_bind, run_underlying ht, hg, run_checkKey_int es.isEmpty 9999 k q hk, run_findKey_int k q hk x _ _ hf]
theorem look_miss (t k e : TypeId) (q : IntKind) (ht : P.underlying t = some (.map k e)) (hk : P.underlying k = some (.int q)) (m : Nat) (x : Int) (es : Array MapEntry) (c : Nat) (z : Value) (w : World) (hm : w.heap[m]? = some (.map es c)) (hf : Instr.findNow (.int q) (.int q x) es.toList 0 = some none) (hz : ∀ w, (zeroValue e).run P w = .ok z w) :
    (Instr.lookup t (.map (some m)) (.int q x) true).run P w = .ok (.tuple #[z, .bool false]) w := by
  unfold Instr.lookup
  have hg : (getObj m).run P w = .ok (.map es c) w := by simp [getObj, Sem.run, hm]
  simp [Sem.run_bind, run_underlying ht, hg, run_checkKey_int es.isEmpty 9999 k q hk, run_findKey_int k q hk x _ _ hf, hz]
theorem del_hit (t k e ty : TypeId) (q : IntKind) (ht : P.underlying t = some (.map k e)) (hk : P.underlying k = some (.int q)) (m : Nat) (x : Int) (es : Array MapEntry) (c i : Nat) (v : Value) (w : World) (hm : w.heap[m]? = some (.map es c)) (hf : Instr.findNow (.int q) (.int q x) es.toList 0 = some (some (i, v))) :
    (Builtin.delete_ #[t, k] ty #[.map (some m), .int q x]).run P w = .ok (.tuple #[]) (setB w m (.map (es.eraseIdxIfInBounds i) c)) := by
  unfold Builtin.delete_
  have hg : (getObj m).run P w = .ok (.map es c) w := by simp [getObj, Sem.run, hm]
  have hs : ∀ o, (setObj m o).run P w = .ok () (setB w m o) := fun o => by simp [setObj, Sem.run, hm, setB]
  simp [Sem.run_bind, run_underlying ht, hg, run_checkKey_int es.isEmpty 9999 k q hk, run_findKey_int k q hk x _ _ hf, hs]
theorem put_new (t k e : TypeId) (q : IntKind) (ht : P.underlying t = some (.map k e)) (hk : P.underlying k = some (.int q)) (m : Nat) (x : Int) (es : Array MapEntry) (c : Nat) (v : Value) (w : World) (hm : w.heap[m]? = some (.map es c)) (hf : Instr.findNow (.int q) (.int q x) es.toList 0 = some none) :
    (Instr.mapUpdate t (.map (some m)) (.int q x) v).run P w = .ok () (setB w m (.map (es.push { key := .int q x, val := v, born := c }) (c + 1))) := by
  unfold Instr.mapUpdate
  have hg : (getObj m).run P w = .ok (.map es c) w := by simp [getObj, Sem.run, hm]
  have hs : ∀ o, (setObj m o).run P w = .ok () (setB w m o) := fun o => by simp [setObj, Sem.run, hm, setB]
  simp [Sem.run_bind, run_underlying ht, hg, run_checkKey_int false 9999 k q hk, run_findKey_int k q hk x _ _ hf, hs]
theorem len_map (t k e ty : TypeId) (ht : P.underlying t = some (.map k e)) (m : Nat) (es : Array MapEntry) (c : Nat) (w : World) (hm : w.heap[m]? = some (.map es c)) :
    (Builtin.len_ #[t] ty #[.map (some m)]).run P w = .ok (.int .i64 es.size) w := by
  unfold Builtin.len_
  have hg : (getObj m).run P w = .ok (.map es c) w := by simp [getObj, Sem.run, hm]
  simp [Sem.run_bind, run_underlying ht, hg, goInt]
/-! at a plain region's operations -/
variable {ops : Array Oper} {rest : List Oper} {o : Oper} {a : Act} {w : World} {Q : Exit → Act → World → Prop}
theorem wpList_look (t : TypeId) (x ix : Operand) (ho : o.op = .lookup t x ix true) (hw : Region.wanted o (yielded ops a.tmps) = true) (u y r : Value) (hx : a.eval x = u) (hy : a.eval ix = y) (hr : (Instr.lookup t u y true).run P w = .ok r w)
    (h : wpList P ops Q rest (a.put o.dst r) w) : wpList P ops Q (o :: rest) a w := by
  refine wpList_of_run_want hw ?_ h
  unfold execOp; rw [ho]; dsimp only; rw [hx, hy, Sem.run_bind, hr]; rfl
theorem wpList_del (t k : TypeId) (x ix : Operand) (ho : o.op = .call { callee := .builtin .delete, args := #[x, ix], argTypes := #[t, k] }) (hw : Region.wanted o (yielded ops a.tmps) = true) (u y : Value) (w' : World) (hx : a.eval x = u) (hy : a.eval ix = y)
    (hr : (Builtin.delete_ #[t, k] o.type #[u, y]).run P w = .ok (.tuple #[]) w') (h : wpList P ops Q rest (a.put o.dst (.tuple #[])) w') : wpList P ops Q (o :: rest) a w := by
  refine wpList_of_run_want hw ?_ h
  unfold execOp; rw [ho]
  simp [resolve, invoke, builtin, hx, hy, hr]
theorem wpList_lenm (t : TypeId) (x : Operand) (ho : o.op = .call { callee := .builtin .len, args := #[x], argTypes := #[t] }) (hw : Region.wanted o (yielded ops a.tmps) = true) (u r : Value) (hx : a.eval x = u)
    (hr : (Builtin.len_ #[t] o.type #[u]).run P w = .ok r w) (h : wpList P ops Q rest (a.put o.dst r) w) : wpList P ops Q (o :: rest) a w := by
  refine wpList_of_run_want hw ?_ h
  unfold execOp; rw [ho]
  simp [resolve, invoke, builtin, hx, hr]
theorem wpList_put (t : TypeId) (m k x : Operand) (ho : o.op = .mapUpdate t m k x) (hw : Region.wanted o (yielded ops a.tmps) = true) (u y v : Value) (w' : World) (hm : a.eval m = u) (hy : a.eval k = y) (hx : a.eval x = v)
    (hr : (Instr.mapUpdate t u y v).run P w = .ok () w') (h : wpList P ops Q rest (a.put o.dst undef) w') : wpList P ops Q (o :: rest) a w := by
  refine BigFrame.wpList_want hw fun K hK => ?_
  unfold Oper.wp execOp; rw [ho]; dsimp only; rw [hm, hy, hx, Sem.run_bind, hr]
  exact hK _ _ h
end
theorem run_callVal {P : Program} {ρ : Operand → Value} {o : Oper} (x : Operand) (xs : Array Operand) (tt : Array TypeId) (ho : o.op = .call { callee := .value x, args := xs, argTypes := tt }) (f : FuncId) (cap : Array Value) (hx : ρ x = .func (.func f) #[] cap)
    (args : Array Value) (ha : xs.map ρ = args) (w : World) (hb : (callFunc f (args ++ cap)).run P w = .ok (.enter f (args ++ cap)) w) : (execOp ρ o).run P w = .ok (.enter f (args ++ cap)) w := by
  unfold execOp; rw [ho]
  simp [resolve, hx, ha, Deferred.ofValue, invoke, hb]
/-- Who waits: nobody, or one, whose timer's stop writes 2 into the log. -/
def codeAt : List Nat → Code → Code
  | 0 :: p, .seq a _ => codeAt p a
  | 1 :: p, .seq _ b => codeAt p b
  | 2 :: p, .cond _ a _ => codeAt p a
  | 3 :: p, .cond _ _ b => codeAt p b
  | 4 :: p, .loop b => codeAt p b
  | 5 :: p, .block _ b => codeAt p b
  | _, c => c
def codeOf (f : Func) (p : List Nat) : Code := match f.body with | some c => codeAt p c | none => .skip
section
variable {P : Program}
theorem wanted_of {ops : Array Oper} {o : Oper} {a : Act} {j : Nat} {b : Bool} {d : Nat} (hg : o.guard = some (j, b)) (hj : (ops[j]?).bind (·.dst) = some d) (hv : a.eval (.tmp d) = .bool b) (hd : d < a.tmps.size) : Region.wanted o (yielded ops a.tmps) = true := by
  have hv' : a.tmps[d]? = some (.bool b) := by
    simp [Act.eval, hd] at hv
    rw [Array.getElem?_eq_getElem hd, hv]
  simp [Region.wanted, hg, yielded, hj, hv']
theorem wanted_not {ops : Array Oper} {o : Oper} {a : Act} {j : Nat} {b : Bool} {d : Nat} (hg : o.guard = some (j, b)) (hj : (ops[j]?).bind (·.dst) = some d) (hv : a.eval (.tmp d) = .bool (!b)) (hd : d < a.tmps.size) : Region.wanted o (yielded ops a.tmps) = false := by
  have hv' : a.tmps[d]? = some (.bool (!b)) := by
    simp [Act.eval, hd] at hv
    rw [Array.getElem?_eq_getElem hd, hv]
  cases b <;> simp_all [Region.wanted, yielded]
theorem run_lenS {ρ : Operand → Value} {o : Oper} (t e : TypeId) (x : Operand) (ho : o.op = .call { callee := .builtin .len, args := #[x], argTypes := #[t] }) (ht : P.underlying t = some (.slice e)) (ad : Option Addr) (n c : Nat) (hx : ρ x = .slice ad n c) (w : World) :
    (execOp ρ o).run P w = .ok (.value (.int .i64 n)) w := by
  unfold execOp; rw [ho]
  simp [resolve, invoke, builtin, hx, Builtin.len_, run_underlying ht, goInt]
theorem run_lenM {ρ : Operand → Value} {o : Oper} (t k e : TypeId) (x : Operand) (ho : o.op = .call { callee := .builtin .len, args := #[x], argTypes := #[t] }) (ht : P.underlying t = some (.map k e)) (m : Nat) (hx : ρ x = .map (some m)) (es : Array MapEntry) (c : Nat) (w : World) (hm : w.heap[m]? = some (.map es c)) :
    (execOp ρ o).run P w = .ok (.value (.int .i64 es.size)) w := by
  unfold execOp; rw [ho]
  simp [resolve, invoke, builtin, hx, len_map t k e o.type ht m es c w hm]
theorem run_not {ρ : Operand → Value} {o : Oper} (t : TypeId) (x : Operand) (ho : o.op = .unOp .not t x) (b : Bool) (hx : ρ x = .bool b) (w : World) : (execOp ρ o).run P w = .ok (.value (.bool !b)) w := by
  unfold execOp; rw [ho]; dsimp only; rw [hx]; rfl
theorem run_pick {ρ : Operand → Value} {o : Oper} (c x y : Operand) (ho : o.op = .pick c x y) (b : Bool) (u v : Value) (hc : ρ c = .bool b) (hx : ρ x = u) (hy : ρ y = v) (w : World) : (execOp ρ o).run P w = .ok (.value (if b then u else v)) w := by
  unfold execOp; rw [ho]; dsimp only; rw [hc, hx, hy]; rfl
theorem run_mkFn {ρ : Operand → Value} {o : Oper} (f : FuncId) (xs : Array Operand) (ho : o.op = .makeFunc (.func f) #[] xs) (cap : Array Value) (hx : xs.map ρ = cap) (w : World) : (execOp ρ o).run P w = .ok (.value (.func (.func f) #[] cap)) w := by
  unfold execOp; rw [ho]; dsimp only; rw [Array.map_empty, hx]; rfl
theorem run_boxOp {ρ : Operand → Value} {o : Oper} (t : TypeId) (x : Operand) (ho : o.op = .box t x) (cs : Array Value) (hx : ρ x = .agg cs) (w : World) : (execOp ρ o).run P w = .ok (.value (.pointer (some ⟨w.heap.size, 0, none⟩))) (w.alloc (.cells cs t)) := by
  unfold execOp; rw [ho]; dsimp only; rw [hx]; rfl
theorem run_idxS {ρ : Operand → Value} {o : Oper} (t e : TypeId) (x ix : Operand) (ho : o.op = .indexAddr t x ix) (ht : P.underlying t = some (.slice e)) (b off n c : Nat) (hx : ρ x = .slice (some ⟨b, off, none⟩) n c) (i : Nat) (hix : ρ ix = .int .i64 i) (hi : i < n) (size : Nat) (hs : ∀ w, (sizeOf e).run P w = .ok size w) (w : World)
    : (execOp ρ o).run P w = .ok (.value (.pointer (some ⟨b, off + i * size, none⟩))) w := by
  unfold execOp; rw [ho]; dsimp only; rw [hx, hix]
  simp [Instr.indexAt, run_underlying ht, hs, go_sem, Addr.add]
  rw [if_pos hi]
  by_cases h : i * size = 0
  · rw [if_pos h, h]; rfl
  · rw [if_neg h]
/-- A store of one cell, in a plain region. -/
theorem wpList_store1 {ops : Array Oper} {rest : List Oper} {o : Oper} {a : Act} {w : World} {Q : Exit → Act → World → Prop} (t : TypeId) (x y : Operand) (ho : o.op = .store t x y) (hg : o.guard = none) (p : Addr) (v : Value) (hx : a.eval x = .pointer (some p)) (hy : a.eval y = v)
    (hs : ∀ w, (sizeOf t).run P w = .ok 1 w) (hv : v.cells = #[v]) (h1 : v.oneCell' = true) (u : Value) (hc : w.cell? p = some u) (hf : w.frozen? p = false) (h : wpList P ops Q rest (a.put o.dst undef) (w.setCell p v)) : wpList P ops Q (o :: rest) a w :=
  wpList_plain hg fun _ hK => wp_store_one t x y ho p v hx hy hs hv h1 u hc hf (hK _ _ h)
theorem wpList_enter {ops : Array Oper} {rest : List Oper} {o : Oper} {a : Act} {w w' : World} {Q : Exit → Act → World → Prop} {f : FuncId} {args : Array Value} (hg : o.guard = none) (hr : (execOp a.eval o).run P w = .ok (.enter f args) w')
    (hc : Calls P f args w' fun e w'' => ∃ v, e = .returned v ∧ wpList P ops Q rest (a.put o.dst v) w'') : wpList P ops Q (o :: rest) a w :=
  wpList_plain hg fun _ hK => wp_enter hr (hc.mono fun _e _w'' ⟨v, he, h⟩ => ⟨v, he, hK _ _ h⟩)
end
def look : List (Nat × Value) → Nat → Option Value
  | [], _ => none
  | (j, v) :: K, i => match Nat.beq j i with | true => some v | false => look K i
def lookO (K : List (Nat × Value)) : Operand → Option Value
  | .tmp i => look K i
  | .const v => some v
  | .global g => some (.pointer (some ⟨g, 0, Option.none⟩))
  | _ => none
structure FmD (D : List Deferred) (n : Nat) (K : List (Nat × Value)) (a : Act) : Prop where
  size : a.tmps.size = n
  defers : a.defers = D
  get : ∀ i v, look K i = some v → a.eval (.tmp i) = v
abbrev Fm := FmD []
def Sub : List (Nat × Value) → List (Nat × Value) → Prop
  | [], _ => True
  | (j, v) :: K', K => look K j = some v ∧ Sub K' K
theorem Sub.look {K' K : List (Nat × Value)} (h : Sub K' K) (i : Nat) (v : Value) (hi : look K' i = some v) : look K i = some v := by
  induction K' with
  | nil => cases hi
  | cons p K' ih =>
    obtain ⟨j, u⟩ := p
    cases hb : Nat.beq j i with
    | true =>
      have hj : j = i := Nat.eq_of_beq_eq_true hb
      have hu : u = v := by simpa [Go.Proofs.Ybulkaevs.look, hb] using hi
      subst hj; subst hu; exact h.1
    | false => exact ih h.2 (by simpa [Go.Proofs.Ybulkaevs.look, hb] using hi)
section
variable {P : Program} {D : List Deferred} {n : Nat} {K : List (Nat × Value)} {a : Act}
theorem FmD.op (h : FmD D n K a) {x : Operand} {v : Value} (hx : lookO K x = some v) : a.eval x = v := by
  cases x with
  | tmp i => exact h.get i v hx
  | const u => cases hx; rfl
  | global g => cases hx; rfl
  | _ => cases hx
theorem FmD.sub (h : FmD D n K a) (K' : List (Nat × Value)) (hs : Sub K' K) : FmD D n K' a := ⟨h.size, h.defers, fun i v hi => h.get i v (hs.look i v hi)⟩
theorem FmD.put (h : FmD D n K a) {d : Nat} (hd : d < n) (v : Value) : FmD D n ((d, v) :: K) (a.put (some d) v) := by
  refine ⟨by rw [size_put, h.size], by rw [defers_put, h.defers], fun i u hi => ?_⟩
  cases hb : Nat.beq d i with
  | true =>
    have hj : d = i := Nat.eq_of_beq_eq_true hb
    have hu : v = u := by simpa [look, hb] using hi
    subst hj; subst hu; exact eval_same _ _ _ (by rw [h.size]; exact hd)
  | false =>
    have hj : d ≠ i := fun e => by subst e; simp at hb
    rw [eval_other _ _ _ _ hj]; exact h.get i u (by simpa [look, hb] using hi)
theorem wn {ops : Array Oper} {o : Oper} (hg : o.guard = none) : Region.wanted o (yielded ops a.tmps) = true := by simp [Region.wanted, hg]
theorem FmD.wy (h : FmD D n K a) {ops : Array Oper} {o : Oper} {j d : Nat} {b : Bool} (hg : o.guard = some (j, b)) (hj : (ops[j]?).bind (·.dst) = some d) (hv : look K d = some (.bool b)) (hd : d < n) : Region.wanted o (yielded ops a.tmps) = true :=
  wanted_of hg hj (h.get d _ hv) (by rw [h.size]; exact hd)
theorem FmD.wno (h : FmD D n K a) {ops : Array Oper} {o : Oper} {j d : Nat} {b : Bool} (hg : o.guard = some (j, b)) (hj : (ops[j]?).bind (·.dst) = some d) (hv : look K d = some (.bool (!b))) (hd : d < n) : Region.wanted o (yielded ops a.tmps) = false :=
  wanted_not hg hj (h.get d _ hv) (by rw [h.size]; exact hd)
variable {ops : Array Oper} {rest : List Oper} {o : Oper} {w w' : World} {Q : Exit → Act → World → Prop} {v : Value} {d : Nat}
/-- One operation that gives a value. -/
theorem st (hK : FmD D n K a) (hw : Region.wanted o (yielded ops a.tmps) = true) (hr : (execOp a.eval o).run P w = .ok (.value v) w') (hd : o.dst = some d) (hn : d < n)
    (h : ∀ a', FmD D n ((d, v) :: K) a' → wpList P ops Q rest a' w') : wpList P ops Q (o :: rest) a w :=
  wpList_of_run_want hw hr (h _ (by rw [hd]; exact hK.put hn v))
theorem stMv (hK : FmD D n K a) (hw : Region.wanted o (yielded ops a.tmps) = true) {x : Operand} (ho : o.op = .move x) (hx : lookO K x = some v) (hd : o.dst = some d) (hn : d < n)
    (h : ∀ a', FmD D n ((d, v) :: K) a' → wpList P ops Q rest a' w) : wpList P ops Q (o :: rest) a w := st hK hw (run_mv x ho v (hK.op hx) w) hd hn h
theorem stAs (hK : FmD D n K a) (hw : Region.wanted o (yielded ops a.tmps) = true) {x : Operand} (ho : o.op = .assign x) (hx : lookO K x = some v) (hd : o.dst = some d) (hn : d < n)
    (h : ∀ a', FmD D n ((d, v) :: K) a' → wpList P ops Q rest a' w) : wpList P ops Q (o :: rest) a w := st hK hw (run_asg x ho v (hK.op hx) w) hd hn h
theorem stNil (hK : FmD D n K a) (hw : Region.wanted o (yielded ops a.tmps) = true) {x : Operand} (ho : o.op = .nilCheck x) {p : Addr} (hx : lookO K x = some (.pointer (some p))) (hd : o.dst = some d) (hn : d < n)
    (h : ∀ a', FmD D n ((d, .pointer (some p)) :: K) a' → wpList P ops Q rest a' w) : wpList P ops Q (o :: rest) a w := st hK hw (run_nilCheck x ho p (hK.op hx) w) hd hn h
theorem stFa (hK : FmD D n K a) (hw : Region.wanted o (yielded ops a.tmps) = true) {S : TypeId} {x : Operand} {f : Nat} (ho : o.op = .fieldAddr S x f) {b : Nat} (hx : lookO K x = some (.pointer (some ⟨b, 0, none⟩))) (j : Nat) (hF : ∀ b w, (Instr.fieldAt S (.pointer (some ⟨b, 0, none⟩)) f).run P w = .ok (.pointer (some ⟨b, j, none⟩)) w)
    (hd : o.dst = some d) (hn : d < n) (h : ∀ a', FmD D n ((d, .pointer (some ⟨b, j, none⟩)) :: K) a' → wpList P ops Q rest a' w) : wpList P ops Q (o :: rest) a w := st hK hw (run_fieldAddr S x f ho _ _ (hK.op hx) w (hF b w)) hd hn h
theorem stLd (hK : FmD D n K a) (hw : Region.wanted o (yielded ops a.tmps) = true) {t : TypeId} {x : Operand} (ho : o.op = .load t x) {p : Addr} (hx : lookO K x = some (.pointer (some p))) (hc : w.cell? p = some v) (ha : ∀ w, (isAgg t).run P w = .ok false w)
    (hd : o.dst = some d) (hn : d < n) (h : ∀ a', FmD D n ((d, v) :: K) a' → wpList P ops Q rest a' w) : wpList P ops Q (o :: rest) a w := st hK hw (run_load_one t x ho p v (hK.op hx) w hc (ha w)) hd hn h
theorem stLr (hK : FmD D n K a) (hw : Region.wanted o (yielded ops a.tmps) = true) {t : TypeId} {x : Operand} (ho : o.op = .load t x) {b off : Nat} (hx : lookO K x = some (.pointer (some ⟨b, off, none⟩))) {cs : List Value} {m : Nat} (hl : cs.length = m) (ht : RowType P t m) (hc : w.rangeAt b off cs)
    (hd : o.dst = some d) (hn : d < n) (h : ∀ a', FmD D n ((d, .agg cs.toArray) :: K) a' → wpList P ops Q rest a' w) : wpList P ops Q (o :: rest) a w := st hK hw (run_load_row t x ho b off (hK.op hx) cs m hl ht w hc) hd hn h
theorem stBin (hK : FmD D n K a) (hw : Region.wanted o (yielded ops a.tmps) = true) {op : BinOp} {t rt : TypeId} {x y : Operand} (ho : o.op = .binOp op t x y rt) {u r : Value} (hx : lookO K x = some u) (hy : lookO K y = some v) (hr : (do eqGuard op t x y u v; binOp op t u v : Sem Value).run P w = .ok r w)
    (hd : o.dst = some d) (hn : d < n) (h : ∀ a', FmD D n ((d, r) :: K) a' → wpList P ops Q rest a' w) : wpList P ops Q (o :: rest) a w := st hK hw (run_bin op t x y rt ho u v r (hK.op hx) (hK.op hy) w hr) hd hn h
theorem stLenS (hK : FmD D n K a) (hw : Region.wanted o (yielded ops a.tmps) = true) {t : TypeId} {x : Operand} (ho : o.op = .call { callee := .builtin .len, args := #[x], argTypes := #[t] }) {e : TypeId} (ht : P.underlying t = some (.slice e)) {ad : Option Addr} {m c : Nat} (hx : lookO K x = some (.slice ad m c))
    (hd : o.dst = some d) (hn : d < n) (h : ∀ a', FmD D n ((d, .int .i64 m) :: K) a' → wpList P ops Q rest a' w) : wpList P ops Q (o :: rest) a w := st hK hw (run_lenS t e x ho ht ad m c (hK.op hx) w) hd hn h
theorem stLenM (hK : FmD D n K a) (hw : Region.wanted o (yielded ops a.tmps) = true) {t : TypeId} {x : Operand} (ho : o.op = .call { callee := .builtin .len, args := #[x], argTypes := #[t] }) {k e : TypeId} (ht : P.underlying t = some (.map k e)) {m : Nat} (hx : lookO K x = some (.map (some m))) {es : Array MapEntry} {c : Nat} (hm : w.heap[m]? = some (.map es c))
    (hd : o.dst = some d) (hn : d < n) (h : ∀ a', FmD D n ((d, .int .i64 es.size) :: K) a' → wpList P ops Q rest a' w) : wpList P ops Q (o :: rest) a w := st hK hw (run_lenM t k e x ho ht m (hK.op hx) es c w hm) hd hn h
theorem stNot (hK : FmD D n K a) (hw : Region.wanted o (yielded ops a.tmps) = true) {t : TypeId} {x : Operand} (ho : o.op = .unOp .not t x) {b : Bool} (hx : lookO K x = some (.bool b))
    (hd : o.dst = some d) (hn : d < n) (h : ∀ a', FmD D n ((d, .bool !b) :: K) a' → wpList P ops Q rest a' w) : wpList P ops Q (o :: rest) a w := st hK hw (run_not t x ho b (hK.op hx) w) hd hn h
theorem stPick (hK : FmD D n K a) (hw : Region.wanted o (yielded ops a.tmps) = true) {c x y : Operand} (ho : o.op = .pick c x y) {b : Bool} {u : Value} (hc : lookO K c = some (.bool b)) (hx : lookO K x = some u) (hy : lookO K y = some v)
    (hd : o.dst = some d) (hn : d < n) (h : ∀ a', FmD D n ((d, if b then u else v) :: K) a' → wpList P ops Q rest a' w) : wpList P ops Q (o :: rest) a w := st hK hw (run_pick c x y ho b u v (hK.op hc) (hK.op hx) (hK.op hy) w) hd hn h
theorem stSkip (hK : FmD D n K a) (hw : Region.wanted o (yielded ops a.tmps) = false) (hd : o.dst = some d) (hn : d < n)
    (h : ∀ a', FmD D n ((d, undef) :: K) a' → wpList P ops Q rest a' w) : wpList P ops Q (o :: rest) a w := wpList_skip hw (h _ (by rw [hd]; exact hK.put hn _))
def lookL (K : List (Nat × Value)) : List Operand → Option (List Value)
  | [] => some []
  | x :: xs => match lookO K x, lookL K xs with | some v, some vs => some (v :: vs) | _, _ => none
theorem FmD.opL (h : FmD D n K a) {xs : List Operand} {vs : List Value} (hx : lookL K xs = some vs) : xs.map a.eval = vs := by
  induction xs generalizing vs with
  | nil => cases hx; rfl
  | cons x xs ih =>
    unfold lookL at hx
    split at hx
    · rename_i u us e1 e2
      cases hx
      rw [List.map_cons, h.op e1, ih e2]
    · cases hx
theorem FmD.opA (h : FmD D n K a) {xs : Array Operand} {vs : List Value} (hx : lookL K xs.toList = some vs) : xs.map a.eval = vs.toArray := by
  obtain ⟨l⟩ := xs
  rw [List.map_toArray, h.opL hx]
theorem FmD.parts (h : FmD D n K a) {xs : Array (Nat × Operand)} {vs : List Value} (hx : lookL K (xs.toList.map Prod.snd) = some vs) : (xs.map fun (i, x) => (i, a.eval x)) = ((xs.toList.map Prod.fst).zip vs).toArray := by
  obtain ⟨l⟩ := xs
  rw [List.map_toArray]
  congr 1
  have := h.opL hx
  subst this
  clear hx
  induction l with
  | nil => rfl
  | cons p l ih => simp at ih ⊢; exact ih
theorem stFn (hK : FmD D n K a) (hw : Region.wanted o (yielded ops a.tmps) = true) {f : FuncId} {xs : Array Operand} (ho : o.op = .makeFunc (.func f) #[] xs) {vs : List Value} (hx : lookL K xs.toList = some vs)
    (hd : o.dst = some d) (hn : d < n) (h : ∀ a', FmD D n ((d, .func (.func f) #[] vs.toArray) :: K) a' → wpList P ops Q rest a' w) : wpList P ops Q (o :: rest) a w := st hK hw (run_mkFn f xs ho vs.toArray (hK.opA hx) w) hd hn h
theorem stBuild (hK : FmD D n K a) (hw : Region.wanted o (yielded ops a.tmps) = true) {t : TypeId} {parts : Array (Nat × Operand)} (ho : o.op = .build t parts) {vs : List Value} (hx : lookL K (parts.toList.map Prod.snd) = some vs) {r : Value} (hr : (Instr.build t ((parts.toList.map Prod.fst).zip vs).toArray).run P w = .ok r w)
    (hd : o.dst = some d) (hn : d < n) (h : ∀ a', FmD D n ((d, r) :: K) a' → wpList P ops Q rest a' w) : wpList P ops Q (o :: rest) a w := st hK hw (run_build t parts ho _ (hK.parts hx) r w hr) hd hn h
theorem run_mkIf {ρ : Operand → Value} (t : TypeId) (x : Operand) (ho : o.op = .makeInterface t x) (v : Value) (hx : ρ x = v) (w : World) (hr : (Instr.makeInterface t v).run P w = .ok (.iface t v) w) : (execOp ρ o).run P w = .ok (.value (.iface t v)) w := by
  unfold execOp; rw [ho]; dsimp only; rw [hx, Sem.run_bind, hr]; rfl
theorem stIf (hK : FmD D n K a) (hw : Region.wanted o (yielded ops a.tmps) = true) {t : TypeId} {x : Operand} (ho : o.op = .makeInterface t x) (hx : lookO K x = some v) (hr : (Instr.makeInterface t v).run P w = .ok (.iface t v) w) (hd : o.dst = some d) (hn : d < n)
    (h : ∀ a', FmD D n ((d, .iface t v) :: K) a' → wpList P ops Q rest a' w) : wpList P ops Q (o :: rest) a w := st hK hw (run_mkIf t x ho v (hK.op hx) w hr) hd hn h
end
/-! ### the blocks -/
def lookB : List (Nat × Obj) → Nat → Option Obj
  | [], _ => none
  | (j, v) :: K, i => match Nat.beq j i with | true => some v | false => lookB K i
structure Wd (w0 : World) (S : Nat) (B : List (Nat × Obj)) (w : World) : Prop where
  size : w.heap.size = w0.heap.size + S
  fr : Fr [] w0 w
  get : ∀ k o, lookB B k = some o → w.heap[w0.heap.size + k]? = some o
def SubB : List (Nat × Obj) → List (Nat × Obj) → Prop
  | [], _ => True
  | (j, v) :: K', K => lookB K j = some v ∧ SubB K' K
theorem SubB.look {K' K : List (Nat × Obj)} (h : SubB K' K) (i : Nat) (v : Obj) (hi : lookB K' i = some v) : lookB K i = some v := by
  induction K' with
  | nil => cases hi
  | cons p K' ih =>
    obtain ⟨j, u⟩ := p
    cases hb : Nat.beq j i with
    | true =>
      have hj : j = i := Nat.eq_of_beq_eq_true hb
      have hu : u = v := by simpa [lookB, hb] using hi
      subst hj; subst hu; exact h.1
    | false => exact ih h.2 (by simpa [lookB, hb] using hi)
theorem Wd.sub {w0 w : World} {S : Nat} {B : List (Nat × Obj)} (h : Wd w0 S B w) (B' : List (Nat × Obj)) (hs : SubB B' B) : Wd w0 S B' w := ⟨h.size, h.fr, fun k o hk => h.get k o (hs.look k o hk)⟩
theorem Wd.start (w : World) : Wd w 0 [] w := ⟨rfl, Fr.refl _ _, fun _ _ h => by cases h⟩
section
variable {P : Program} {D : List Deferred} {n : Nat} {K : List (Nat × Value)} {a : Act} {w0 w : World} {S : Nat} {B : List (Nat × Obj)}
theorem Wd.alloc (h : Wd w0 S B w) (o : Obj) : Wd w0 (S + 1) ((S, o) :: B) (w.alloc o) := by
  refine ⟨by rw [size_al, h.size]; rfl, h.fr.alloc o, fun k u hk => ?_⟩
  rw [heap_get, h.size]
  cases hb : Nat.beq S k with
  | true =>
    have hj : S = k := Nat.eq_of_beq_eq_true hb
    have hu : o = u := by simpa [lookB, hb] using hk
    subst hj; subst hu; rw [if_pos rfl]
  | false =>
    have hj : S ≠ k := fun e => by subst e; simp at hb
    rw [if_neg (by omega)]; exact h.get k u (by simpa [lookB, hb] using hk)
theorem Wd.change {w' : World} (h : Wd w0 S B w) (k : Nat) (o : Obj) (hf : Fr [w0.heap.size + k] w w') (hs : w'.heap.size = w.heap.size) (ho : w'.heap[w0.heap.size + k]? = some o) : Wd w0 S ((k, o) :: B) w' := by
  refine ⟨by rw [hs, h.size], (h.fr.andThen (l := []) hf (fun i hi => by simp at hi; omega)), fun j u hj => ?_⟩
  cases hb : Nat.beq k j with
  | true =>
    have hj' : k = j := Nat.eq_of_beq_eq_true hb
    have hu : o = u := by simpa [lookB, hb] using hj
    subst hj'; subst hu; exact ho
  | false =>
    have hj' : k ≠ j := fun e => by subst e; simp at hb
    exact hf.keep (h.get j u (by simpa [lookB, hb] using hj)) (by simp; omega)
theorem Wd.set (h : Wd w0 S B w) {k : Nat} {cs : Array Value} {t : TypeId} (hk : lookB B k = some (.cells cs t (0, 0))) (j : Nat) (v : Value) : Wd w0 S ((k, .cells (cs.setIfInBounds j v) t (0, 0)) :: B) (w.setCell ⟨w0.heap.size + k, j, none⟩ v) :=
  h.change k _ ((Fr.refl _ _).setCell _ (by simp) _) (by simp) (heap_setCell_same _ _ _ _ _ _ (h.get k _ hk))
theorem Wd.setM (h : Wd w0 S B w) {k : Nat} {o : Obj} (hk : lookB B k = some o) (o' : Obj) : Wd w0 S ((k, o') :: B) (setB w (w0.heap.size + k) o') :=
  h.change k _ (fr_setB _ _ _) (by simp [setB]) (heap_setB _ _ _ (lt_of_block (h.get k _ hk)))
variable {ops : Array Oper} {rest : List Oper} {o : Oper} {Q : Exit → Act → World → Prop} {v : Value} {d : Nat}
theorem stBox (hK : FmD D n K a) (hW : Wd w0 S B w) (hw : Region.wanted o (yielded ops a.tmps) = true) {t : TypeId} {x : Operand} (ho : o.op = .box t x) {cs : Array Value} (hx : lookO K x = some (.agg cs)) (hd : o.dst = some d) (hn : d < n)
    (h : ∀ a' w', FmD D n ((d, .pointer (some ⟨w0.heap.size + S, 0, none⟩)) :: K) a' → Wd w0 (S + 1) ((S, .cells cs t (0, 0)) :: B) w' → wpList P ops Q rest a' w') : wpList P ops Q (o :: rest) a w :=
  st hK hw (run_boxOp t x ho cs (hK.op hx) w) hd hn (fun a' hK' => h a' _ (by rw [hW.size] at hK'; exact hK') (hW.alloc _))
theorem stAl (hK : FmD D n K a) (hW : Wd w0 S B w) (hw : Region.wanted o (yielded ops a.tmps) = true) {t : TypeId} (ho : o.op = .alloc t) (cs : Array Value) (hr : ∀ w, (Instr.alloc t true (.tuple #[])).run P w = .ok (.pointer (some ⟨w.heap.size, 0, none⟩)) (w.alloc (.cells cs t))) (hd : o.dst = some d) (hn : d < n)
    (h : ∀ a' w', FmD D n ((d, .pointer (some ⟨w0.heap.size + S, 0, none⟩)) :: K) a' → Wd w0 (S + 1) ((S, .cells cs t (0, 0)) :: B) w' → wpList P ops Q rest a' w') : wpList P ops Q (o :: rest) a w :=
  st hK hw (run_allocOp t ho cs w (hr w)) hd hn (fun a' hK' => h a' _ (by rw [hW.size] at hK'; exact hK') (hW.alloc _))
theorem run_mkMap {ρ : Operand → Value} (t : TypeId) (ho : o.op = .makeMap t none) (w : World) : (execOp ρ o).run P w = .ok (.value (.map (some w.heap.size))) (w.alloc (.map #[] 0)) := by
  unfold execOp; rw [ho]; rfl
theorem stMap (hK : FmD D n K a) (hW : Wd w0 S B w) (hw : Region.wanted o (yielded ops a.tmps) = true) {t : TypeId} (ho : o.op = .makeMap t none) (hd : o.dst = some d) (hn : d < n)
    (h : ∀ a' w', FmD D n ((d, .map (some (w0.heap.size + S))) :: K) a' → Wd w0 (S + 1) ((S, .map #[] 0) :: B) w' → wpList P ops Q rest a' w') : wpList P ops Q (o :: rest) a w :=
  st hK hw (run_mkMap t ho w) hd hn (fun a' hK' => h a' _ (by rw [hW.size] at hK'; exact hK') (hW.alloc _))
/-- A store of one cell into a block of the walk's. -/
theorem stSt (hK : FmD D n K a) (hW : Wd w0 S B w) (hg : o.guard = none) {t : TypeId} {x y : Operand} (ho : o.op = .store t x y) {k j : Nat} (hx : lookO K x = some (.pointer (some ⟨w0.heap.size + k, j, none⟩))) (hy : lookO K y = some v) (hs : ∀ w, (sizeOf t).run P w = .ok 1 w) (hv : v.cells = #[v]) (h1 : v.oneCell' = true)
    {cs : Array Value} {T : TypeId} (hk : lookB B k = some (.cells cs T (0, 0))) (hj : j < cs.size) (hd : o.dst = none) (h : ∀ w', Wd w0 S ((k, .cells (cs.setIfInBounds j v) T (0, 0)) :: B) w' → wpList P ops Q rest a w') : wpList P ops Q (o :: rest) a w :=
  wpList_store1 t x y ho hg _ v (hK.op hx) (hK.op hy) hs hv h1 (cs[j]) (by rw [cell_at (hW.get k _ hk), Array.getElem?_eq_getElem hj]) (free_at (hW.get k _ hk) j) (by rw [hd]; exact h _ (hW.set hk j v))
/-- A new key into a map of the walk's. -/
theorem stPut (hK : FmD D n K a) (hW : Wd w0 S B w) (hw : Region.wanted o (yielded ops a.tmps) = true) {t kt e : TypeId} {x y z : Operand} (ho : o.op = .mapUpdate t x y z) {q : IntKind} (ht : P.underlying t = some (.map kt e)) (hkt : P.underlying kt = some (.int q)) {k c : Nat} {i : Int} (hx : lookO K x = some (.map (some (w0.heap.size + k)))) (hy : lookO K y = some (.int q i)) (hz : lookO K z = some v)
    (hk : lookB B k = some (.map #[] c)) (hd : o.dst = none) (h : ∀ w', Wd w0 S ((k, .map #[⟨.int q i, v, c⟩] (c + 1)) :: B) w' → wpList P ops Q rest a w') : wpList P ops Q (o :: rest) a w := by
  refine wpList_put t x y z ho hw _ _ v _ (hK.op hx) (hK.op hy) (hK.op hz) (put_new t kt e q ht hkt _ i #[] c v w (hW.get k _ hk) rfl) ?_
  rw [hd]
  exact h _ (hW.setM hk _)
end
/-! ### statements -/
theorem srg {P : Program} {id : Nat} {ops : Array Oper} {y : Code} {Q : Exit → Act → World → Prop} {a : Act} {w : World} (h : wpList P ops (Exit.then (y.wp P Q) Q) ops.toList a w) : (Code.seq (.region id ops false) y).wp P Q a w := wp_seq (wp_region_list h)
section
variable {P : Program} {D : List Deferred} {n : Nat} {K : List (Nat × Value)} {a : Act} {ops : Array Oper} {rest : List Oper} {o : Oper} {w : World} {Q : Exit → Act → World → Prop} {d : Nat}
/-- A call of a function by its name. -/
theorem stCall (hK : FmD D n K a) (hg : o.guard = none) {f : FuncId} {xs : Array Operand} {tt : Array TypeId} (ho : o.op = .call { callee := .value (.func f), args := xs, argTypes := tt }) {vs : List Value} (hx : lookL K xs.toList = some vs) {R : Value → World → Prop} (hb : ∀ w, (callFunc f vs.toArray).run P w = .ok (.enter f vs.toArray) w)
    (hc : Calls P f vs.toArray w fun e w' => ∃ v, e = .returned v ∧ R v w') (hd : o.dst = some d) (hn : d < n) (h : ∀ v a' w', R v w' → FmD D n ((d, v) :: K) a' → wpList P ops Q rest a' w') : wpList P ops Q (o :: rest) a w :=
  wpList_enter hg (run_callFn f xs tt ho rfl vs.toArray (hK.opA hx) w (hb w)) (hc.mono fun _e _w' ⟨v, he, hr⟩ => ⟨v, he, h v _ _ hr (by rw [hd]; exact hK.put hn v)⟩)
end
section
variable {P : Program} {D : List Deferred} {n : Nat} {K : List (Nat × Value)} {a : Act} {ops : Array Oper} {w : World} {Q : Exit → Act → World → Prop} {v : Value} {d : Nat} {md : Region.Mode} {S : World → Prop} {fuel : Nat} {listed : Array Bool}
/-- One operation that reads, in a region that draws its order. -/
theorem sd (hK : FmD D n K a) (i : Nat) {oi : Oper} (hi : ops[i]? = some oi) (hs : Region.noSelect ops = true) (hf : Region.free md ops listed i = true) (hr : (Region.ready md ops listed).contains i = true) (hQ : ∀ c a d v w, Q (.panic c) (Act.put a d v) w → Q (.panic c) a w) (hg : oi.guard = none)
    (hy : ∀ W, S W → (execOp a.eval oi).run P W = .ok (.value v) W) (hS : S w) (hd : oi.dst = some d) (hn : d < n) (h : ∀ a', FmD D n ((d, v) :: K) a' → wpAnyH P md ops Q S fuel (listed.setIfInBounds i true) a' w) : wpAnyH P md ops Q S (fuel + 1) listed a w :=
  wpAnyH_take hi hs hf hr (fun _ _ _ h => hQ _ _ _ _ _ h) (Or.inl ⟨wn hg, hy⟩) hS (h _ (by rw [hd]; exact hK.put hn v))
end
def SubA : List (Nat × Value) → Act → Prop
  | [], _ => True
  | (j, v) :: K, a => a.eval (.tmp j) = v ∧ SubA K a
theorem Fm.of {n : Nat} {K : List (Nat × Value)} {a : Act} (h1 : a.tmps.size = n) (h2 : a.defers = []) (h : SubA K a) : Fm n K a := by
  refine ⟨h1, h2, fun i v hi => ?_⟩
  induction K with
  | nil => cases hi
  | cons p K ih =>
    obtain ⟨j, u⟩ := p
    cases hb : Nat.beq j i with
    | true =>
      have hj : j = i := Nat.eq_of_beq_eq_true hb
      have hu : u = v := by simpa [look, hb] using hi
      subst hj; subst hu; exact h.1
    | false => exact ih h.2 (by simpa [look, hb] using hi)
end Go.Proofs.Ybulkaevs
