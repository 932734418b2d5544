/-
  Small laws over whatever program: frames, a frame relation with rows that may be written, a slice literal of one struct, an operation's run at a state that is a variable.
-/
import Derived.WalkKit
import Derived.WalkSpells
import Derived.WalkLawsBesides
import Derived.Deep.RegionHeld3
import Derived.Deep.RegionLawGrows
import Derived.Deep.WholeRow
namespace Go.Proofs.Ybulkaeqi
open Go.RowKit
/-! ### a region's operations, by the way to it (0: a sequence's first, 1: its second; 2, 3: a test's two ways; 4: a loop's body, 5: a block's) -/
def regionAt : List Nat → Code → Array Oper
  | 0 :: p, .seq a _ => regionAt p a
  | 1 :: p, .seq _ b => regionAt p b
  | 2 :: p, .cond _ a _ => regionAt p a
  | 3 :: p, .cond _ _ b => regionAt p b
  | 4 :: p, .loop b => regionAt p b
  | 5 :: p, .block _ b => regionAt p b
  | [], .region _ ops _ => ops
  | _, _ => #[]
def opsOf (f : Func) (p : List Nat) : Array Oper := match f.body with | some c => regionAt p c | none => #[]
def opAt (f : Func) (p : List Nat) (i : Nat) : Oper := ((opsOf f p)[i]?).getD { dst := none, op := .move (.tmp 0), type := 0, pos := "", after := #[], guard := none }
section
variable {P : Program}
/-! ### a state that is a variable -/
theorem eval_same (a : Act) (d : Nat) (v : Value) (h : d < a.tmps.size) : (a.put (some d) v).eval (.tmp d) = v := by
  simp [Act.put, Act.eval, h]
theorem eval_other (a : Act) (d t : Nat) (v : Value) (h : d ≠ t) : (a.put (some d) v).eval (.tmp t) = a.eval (.tmp t) :=
  Act.eval_put (fun x hx => by cases hx; intro e; cases e; exact h rfl)
theorem size_put (a : Act) (d : Option Nat) (v : Value) : (a.put d v).tmps.size = a.tmps.size := by cases d <;> simp [Act.put]
theorem defers_put (a : Act) (d : Option Nat) (v : Value) : (a.put d v).defers = a.defers := by cases d <;> rfl

/-! ### the frame: blocks that were there, but for those on the list, are as they were -/
structure Fr (l : List Nat) (w w' : World) : Prop where
  os : w'.os = w.os
  tape : w'.tape = w.tape
  output : w'.output = w.output
  size : w.heap.size ≤ w'.heap.size
  block : ∀ k, k < w.heap.size → k ∉ l → w'.heap[k]? = w.heap[k]?
theorem Fr.refl (l : List Nat) (w : World) : Fr l w w := ⟨rfl, rfl, rfl, Nat.le_refl _, fun _ _ _ => rfl⟩
theorem Fr.trans {l : List Nat} {a b c : World} (h : Fr l a b) (k : Fr l b c) : Fr l a c :=
  ⟨k.os.trans h.os, k.tape.trans h.tape, k.output.trans h.output, Nat.le_trans h.size k.size, fun i hi hn => (k.block i (Nat.lt_of_lt_of_le hi h.size) hn).trans (h.block i hi hn)⟩
/-- Rows that are new since 'a' may be written freely. -/
theorem Fr.andThen {l l' : List Nat} {a b c : World} (h : Fr l a b) (k : Fr l' b c) (hl : ∀ i ∈ l', i ∈ l ∨ a.heap.size ≤ i) : Fr l a c :=
  ⟨k.os.trans h.os, k.tape.trans h.tape, k.output.trans h.output, Nat.le_trans h.size k.size, fun i hi hn =>
    (k.block i (Nat.lt_of_lt_of_le hi h.size) (fun hm => by rcases hl i hm with h1 | h1; exact hn h1; omega)).trans (h.block i hi hn)⟩
theorem Fr.mono {l l' : List Nat} {a b : World} (h : Fr l a b) (hl : ∀ i ∈ l, i ∈ l') : Fr l' a b :=
  ⟨h.os, h.tape, h.output, h.size, fun i hi hn => h.block i hi (fun hm => hn (hl i hm))⟩
theorem Fr.drew {l : List Nat} {a w : World} (h : Fr l a w) : Fr l a w.drew := ⟨h.os, h.tape, h.output, h.size, h.block⟩
theorem Fr.drewN {l : List Nat} {a w : World} (h : Fr l a w) (n : Nat) : Fr l a (w.drewN n) := ⟨h.os, h.tape, h.output, h.size, h.block⟩
theorem Fr.alloc {l : List Nat} {a w : World} (h : Fr l a w) (o : Obj) : Fr l a (w.alloc o) :=
  ⟨h.os, h.tape, h.output, by have := h.size; simp; omega, fun k hk hn => (Below.heap_alloc w o k (by have := h.size; omega)).trans (h.block k hk hn)⟩
theorem Fr.setCell {l : List Nat} {a w : World} (h : Fr l a w) (p : Addr) (hp : p.block ∈ l ∨ a.heap.size ≤ p.block) (u : Value) : Fr l a (w.setCell p u) :=
  ⟨h.os, h.tape, h.output, by have := h.size; simpa using this, fun k hk hn => (Below.heap_setCell w p u k (fun e => by subst e; rcases hp with hp | hp; exact hn hp; omega)).trans (h.block k hk hn)⟩
theorem Fr.grown {l : List Nat} {a w w' : World} {row : Option Nat} (h : Fr l a w) (hg : w.grownBy w' row) (hr : ∀ k, row = some k → k ∈ l ∨ a.heap.size ≤ k) : Fr l a w' :=
  ⟨hg.os.trans h.os, hg.tape.trans h.tape, hg.output.trans h.output, Nat.le_trans h.size hg.size, fun k hk hn =>
    (hg.block k (Nat.lt_of_lt_of_le hk h.size) (fun e => by rcases hr k e.symm with h1 | h1; exact hn h1; omega)).trans (h.block k hk hn)⟩
theorem Fr.below {l : List Nat} {w w' : World} (h : Fr l w w') {B : Nat} (hB : B ≤ w.heap.size) (hl : ∀ i ∈ l, B ≤ i) : Below B w w' :=
  ⟨h.os, h.tape, h.output, h.size, fun k hk => h.block k (by omega) (fun hm => by have := hl k hm; omega)⟩
theorem Fr.fresh {l : List Nat} {w w' : World} (h : Fr l w w') (hl : ∀ i ∈ l, w.heap.size ≤ i) : Fr [] w w' := ⟨h.os, h.tape, h.output, h.size, fun k hk _ => h.block k hk (fun hm => by have := hl k hm; omega)⟩
theorem Fr.of_below {w w' : World} (h : Below w.heap.size w w') : Fr [] w w' := ⟨h.os, h.tape, h.output, h.size, fun k hk _ => h.block k hk⟩
theorem lt_of_block {w : World} {k : Nat} {o : Obj} (h : w.heap[k]? = some o) : k < w.heap.size := by
  have := (Array.getElem?_eq_some_iff.1 h).1; exact this
theorem Fr.keep {l : List Nat} {w w' : World} (h : Fr l w w') {k : Nat} {o : Obj} (hk : w.heap[k]? = some o) (hn : k ∉ l) : w'.heap[k]? = some o :=
  (h.block k (lt_of_block hk) hn).trans hk
theorem Fr.cell {l : List Nat} {w w' : World} (h : Fr l w w') {p : Addr} (hp : p.block < w.heap.size) (hn : p.block ∉ l) : w'.cell? p = w.cell? p :=
  World.cell?_of_block (w := w) (h.block p.block hp hn)
theorem Fr.range {l : List Nat} {w w' : World} (h : Fr l w w') {b o : Nat} {cs : List Value} (hc : w.rangeAt b o cs) (hb : b < w.heap.size) (hn : b ∉ l) : w'.rangeAt b o cs :=
  fun j v hv => (h.cell (p := ⟨b, o + j, none⟩) hb hn).trans (hc j v hv)

/-! ### whole blocks -/
theorem cell_at {w : World} {b : Nat} {cs : Array Value} {t : TypeId} {fr : Nat × Nat} (h : w.heap[b]? = some (.cells cs t fr)) (j : Nat) : w.cell? ⟨b, j, none⟩ = cs[j]? := cell_of_row w b j cs t fr h
theorem free_at {w : World} {b : Nat} {cs : Array Value} {t : TypeId} (h : w.heap[b]? = some (.cells cs t (0, 0))) (j : Nat) : w.frozen? ⟨b, j, none⟩ = false := frozen_of_row w b j cs t h
theorem range_at {w : World} {b : Nat} {cs : List Value} {t : TypeId} {fr : Nat × Nat} (h : w.heap[b]? = some (.cells cs.toArray t fr)) : w.rangeAt b 0 cs := by
  intro j v hv
  rw [Nat.zero_add, cell_of_row w b j _ t fr h]
  simpa using hv
theorem range_drop {w : World} {b o : Nat} {cs : List Value} (h : w.rangeAt b o cs) (i n : Nat) : w.rangeAt b (o + i) ((cs.drop i).take n) := by
  intro j v hv
  rw [Nat.add_assoc]
  refine h (i + j) v ?_
  rw [List.getElem?_take] at hv
  split at hv
  · simpa using hv
  · cases hv
theorem own_form {w : World} {base : Nat} {e : TypeId} {size n : Nat} {v : Value} {xs : List Value} (h : w.ownsRow base e size v (n + 1) xs) :
    ∃ g cap cur, v = .slice (some ⟨g, 0, none⟩) (n + 1) cap ∧ base ≤ g ∧ w.heap[g]? = some (.cells cur e (0, 0)) ∧ cur.toList.take ((n + 1) * size) = xs ∧ n + 1 ≤ cap := by
  obtain ⟨_, ⟨_, h⟩ | ⟨g, cap, cur, h1, h2, h3, h4, h5, h6, h7⟩⟩ := h
  · omega
  · exact ⟨g, cap, cur, h1, h2, h3, h7, h4⟩
theorem take_cell {cur : Array Value} {m : Nat} {cs : List Value} (h : cur.toList.take m = cs) {j : Nat} {v : Value} (hj : cs[j]? = some v) : cur[j]? = some v := by
  rw [← h, List.getElem?_take] at hj
  split at hj
  · simpa using hj
  · cases hj
theorem take_range {w : World} {g : Nat} {cur : Array Value} {e m : Nat} {fr : Nat × Nat} {cs : List Value} (hg : w.heap[g]? = some (.cells cur e fr)) (h : cur.toList.take m = cs) : w.rangeAt g 0 cs := by
  intro j v hv
  rw [Nat.zero_add, cell_at hg]
  exact take_cell h hv

/-! ### a slice literal of one struct -/
theorem fill_one (place : Nat → Option (Nat × Nat)) (Z : Array Value) (cs : Array Value) (h : place 0 = some (0, cs.size)) (hz : Z.size = cs.size) : Instr.fill place Z [(0, .agg cs)] = some cs := by
  have key : ∀ (l : List Value) (k : Nat) (A : Array Value), (∀ j, j < l.length → k + j < A.size) →
      ∀ i, (List.foldl (fun (c : Array Value) (x : Value × Nat) => c.setIfInBounds (0 + x.2) x.1) A (l.zipIdx k))[i]? = if k ≤ i ∧ i < k + l.length then l[i - k]? else A[i]? := by
    intro l
    induction l with
    | nil => intro k A _ i; simp; omega
    | cons x l ih =>
      intro k A hA i
      simp only [List.zipIdx_cons, List.foldl_cons, Nat.zero_add]
      have := ih (k + 1) (A.setIfInBounds k x) (fun j hj => by have := hA (j + 1) (by simp; omega); simp; omega) i
      simp only [Nat.zero_add] at this
      rw [this]
      have hk : k < A.size := by have := hA 0 (by simp); omega
      by_cases hik : i = k
      · subst hik
        simp [hk]
        omega
      · by_cases h1 : k + 1 ≤ i ∧ i < k + 1 + l.length
        · obtain ⟨m, rfl⟩ : ∃ m, i = k + 1 + m := ⟨i - (k + 1), by omega⟩
          have e1 : k + 1 + m - k = m + 1 := by omega
          rw [if_pos h1, if_pos (by simp; omega), e1]
          simp
        · rw [if_neg h1, if_neg (by simp; omega)]
          simp [Ne.symm hik]
  have e : (Value.agg cs).cells = cs := rfl
  unfold Instr.fill
  rw [h]
  dsimp only
  rw [e]
  split
  · rename_i hc; simp [hz] at hc
  show some _ = some _
  congr 1
  apply Array.ext_getElem?
  intro i
  have := key cs.toList 0 Z (fun j hj => by simp at hj; omega) i
  rw [← Array.toList_zipIdx] at this
  rw [← Array.foldl_toList]
  rw [this]
  by_cases hi : i < cs.size
  · simp [hi]
  · simp [hi]; omega
theorem run_buildSlice_one (t e : TypeId) (i : TypeInfo) (z : Value) (cs : Array Value) (w : World) (ht : P.underlying t = some (.slice e)) (hi : P.info? e = some i) (hz : i.zero = some z) (hs : i.size = cs.size)
    (hzs : z.cells.size = cs.size) (h0 : 0 < cs.size) (h24 : cs.size ≤ 1000) :
    (Instr.buildSlice t 1 #[(0, .agg cs)]).run P w = .ok (.slice (some ⟨w.heap.size, 0, none⟩) 1 1) (w.alloc (.cells cs e)) := by
  have hf : Instr.fill (fun i => some (i * cs.size, cs.size)) (Array.map (fun x => z.cells[x % cs.size]!) (Array.range cs.size)) [(0, .agg cs)] = some cs :=
    fill_one _ _ cs (by simp) (by simp)
  unfold Instr.buildSlice
  simp only [Sem.run_bind, run_underlying ht w, Result.andThen_ok, sizeOf, typeInfo, Sem.run_pure, Nat.one_mul]
  simp [hi, hs, zeroValue, typeInfo, hz, hzs, hf, newRow, newObj]
  rw [if_neg (by omega), if_neg (by intro h; simp [h] at h0)]
  rfl
theorem wp_buildSlice_one {op : Oper} {a : Act} {w : World} {K : Act → World → Prop} {Q : Exit → Act → World → Prop} (t : TypeId) (x : Operand) (ho : op.op = .buildSlice t 1 #[(0, x)])
    (e : TypeId) (i : TypeInfo) (z : Value) (cs : Array Value) (hx : a.eval x = .agg cs) (ht : P.underlying t = some (.slice e)) (hi : P.info? e = some i) (hz : i.zero = some z) (hs : i.size = cs.size)
    (hzs : z.cells.size = cs.size) (h0 : 0 < cs.size) (h24 : cs.size ≤ 1000)
    (h : K (a.put op.dst (.slice (some ⟨w.heap.size, 0, none⟩) 1 1)) (w.alloc (.cells cs e))) : op.wp P a w K Q := by
  unfold Oper.wp execOp
  simp only [ho, List.map_toArray, List.map_cons, List.map_nil, hx, Sem.run_bind, Sem.run_pure, Result.andThen_ok, run_buildSlice_one t e i z cs w ht hi hz hs hzs h0 h24]
  exact h
/-- A step of a region that draws, at an operation without a guard. -/
theorem step_of_wp {ops : Array Oper} {o : Oper} {a : Act} {w : World} {K : Act → World → Prop} {Q : Exit → Act → World → Prop} {E : Prop} (hg : o.guard = none) (h : Oper.wp P o a w K Q) :
    if Region.wanted o (yielded ops a.tmps) = true then Oper.wp P o a w K Q else E := by
  rw [if_pos (by simp [Region.wanted, hg])]; exact h
/-! ### single operations at a state that is a variable -/
theorem run_mv {ρ : Operand → Value} {o : Oper} (x : Operand) (ho : o.op = .move x) (v : Value) (hx : ρ x = v) (w : World) : (execOp ρ o).run P w = .ok (.value v) w := (BigFrame.run_move x ho w).trans (by rw [hx])
theorem run_asg {ρ : Operand → Value} {o : Oper} (x : Operand) (ho : o.op = .assign x) (v : Value) (hx : ρ x = v) (w : World) : (execOp ρ o).run P w = .ok (.value v) w := (BigFrame.run_assign x ho w).trans (by rw [hx])
theorem run_nilCheck {ρ : Operand → Value} {o : Oper} (x : Operand) (ho : o.op = .nilCheck x) (p : Addr) (hx : ρ x = .pointer (some p)) (w : World) : (execOp ρ o).run P w = .ok (.value (.pointer (some p))) w := by
  unfold execOp; rw [ho]; simp [hx, go_sem]
theorem run_fieldAddr {ρ : Operand → Value} {o : Oper} (S : TypeId) (x : Operand) (f : Nat) (ho : o.op = .fieldAddr S x f) (p : Addr) (q : Addr) (hx : ρ x = .pointer (some p)) (w : World)
    (hF : (Instr.fieldAt S (.pointer (some p)) f).run P w = .ok (.pointer (some q)) w) : (execOp ρ o).run P w = .ok (.value (.pointer (some q))) w := by
  unfold execOp; rw [ho]
  simp only [hx, Sem.run_bind, Sem.run_pure, hF, Result.andThen_ok]
theorem run_load_one {ρ : Operand → Value} {o : Oper} (t : TypeId) (x : Operand) (ho : o.op = .load t x) (p : Addr) (v : Value) (hx : ρ x = .pointer (some p)) (w : World) (hc : w.cell? p = some v)
    (ha : (isAgg t).run P w = .ok false w) : (execOp ρ o).run P w = .ok (.value v) w := by
  unfold execOp; rw [ho]
  simp [hx, Instr.loadAt, Instr.sureAddr, loadVar, Sem.run_bind, ha, Result.andThen_ok, load, Sem.run, hc]
theorem run_load_mid {ρ : Operand → Value} {op : Oper} (ty : TypeId) (x : Operand) (ho : op.op = .load ty x)
    (b o : Nat) (hx : ρ x = .pointer (some ⟨b, o, none⟩)) (cs : List Value) (d : TypeDesc) (w : World) (hc : w.rangeAt b o cs)
    (hu : P.underlying ty = some d) (hd : d.isRow = true) (hi : (P.info? ty).map (·.size) = some cs.length) : (execOp ρ op).run P w = .ok (.value (.agg cs.toArray)) w := by
  unfold execOp; rw [ho]
  simp only [hx, Instr.loadAt, Instr.sureAddr, Sem.run_bind, Sem.run_pure, Result.andThen_ok, run_loadVar_mid w b o ty cs d hc hu hd hi]
theorem wp_of_run {o : Oper} {a : Act} {w w' : World} {K : Act → World → Prop} {Q : Exit → Act → World → Prop} {v : Value} (hr : (execOp a.eval o).run P w = .ok (.value v) w') (h : K (a.put o.dst v) w') : o.wp P a w K Q := by
  unfold Oper.wp; rw [hr]; exact h
theorem wp_store_one {op : Oper} {a : Act} {w : World} {K : Act → World → Prop} {Q : Exit → Act → World → Prop} (t : TypeId) (x y : Operand) (ho : op.op = .store t x y) (p : Addr) (v : Value) (hx : a.eval x = .pointer (some p)) (hy : a.eval y = v)
    (hs : ∀ w, (sizeOf t).run P w = .ok 1 w) (hv : v.cells = #[v]) (h1 : v.oneCell' = true) (u : Value) (hc : w.cell? p = some u) (hf : w.frozen? p = false) (h : K (a.put op.dst undef) (w.setCell p v)) : op.wp P a w K Q := by
  unfold Oper.wp execOp
  have hst : (storeVar t p v).run P w = .ok () (w.setCell p v) := by
    simp only [storeVar, hv, Sem.run_bind, hs, Result.andThen_ok]
    cases v <;> first | (cases h1; done) | simp [storeCells, Addr.add, store, Sem.run, hc, hf]
  simp only [ho, hx, hy, Instr.storeAt, Instr.sureAddr, Sem.run_bind, Sem.run_pure, Result.andThen_ok, hst]
  exact h
theorem run_bin {ρ : Operand → Value} {o : Oper} (op : BinOp) (t : TypeId) (x y : Operand) (rt : TypeId) (ho : o.op = .binOp op t x y rt) (u v r : Value) (hx : ρ x = u) (hy : ρ y = v) (w : World)
    (h : (do eqGuard op t x y u v; binOp op t u v : Sem Value).run P w = .ok r w) : (execOp ρ o).run P w = .ok (.value r) w := by
  unfold execOp; rw [ho]
  dsimp only
  rw [hx, hy, Sem.run_bind, h]
  rfl
theorem run_build {ρ : Operand → Value} {o : Oper} (t : TypeId) (parts : Array (Nat × Operand)) (ho : o.op = .build t parts) (vals : Array (Nat × Value)) (hv : (parts.map fun (i, x) => (i, ρ x)) = vals) (r : Value) (w : World)
    (h : (Instr.build t vals).run P w = .ok r w) : (execOp ρ o).run P w = .ok (.value r) w := by
  unfold execOp; rw [ho]
  dsimp only
  rw [hv, Sem.run_bind, h]
  rfl
/-! ### one operation in a plain region -/
theorem wpList_of_run {ops : Array Oper} {rest : List Oper} {o : Oper} {a : Act} {w w' : World} {Q : Exit → Act → World → Prop} {v : Value} (hg : o.guard = none) (hr : (execOp a.eval o).run P w = .ok (.value v) w')
    (h : wpList P ops Q rest (a.put o.dst v) w') : wpList P ops Q (o :: rest) a w := wpList_plain hg fun _ hK => wp_of_run hr (hK _ _ h)
theorem wpList_of_run_want {ops : Array Oper} {rest : List Oper} {o : Oper} {a : Act} {w w' : World} {Q : Exit → Act → World → Prop} {v : Value} (hw : Region.wanted o (yielded ops a.tmps) = true) (hr : (execOp a.eval o).run P w = .ok (.value v) w')
    (h : wpList P ops Q rest (a.put o.dst v) w') : wpList P ops Q (o :: rest) a w := BigFrame.wpList_want hw fun _ hK => wp_of_run hr (hK _ _ h)
theorem run_allocOp {ρ : Operand → Value} {o : Oper} (t : TypeId) (ho : o.op = .alloc t) (cs : Array Value) (w : World) (h : (Instr.alloc t true (.tuple #[])).run P w = .ok (.pointer (some ⟨w.heap.size, 0, none⟩)) (w.alloc (.cells cs t))) :
    (execOp ρ o).run P w = .ok (.value (.pointer (some ⟨w.heap.size, 0, none⟩))) (w.alloc (.cells cs t)) := by
  unfold execOp; rw [ho]
  dsimp only
  rw [Sem.run_bind, h]
  rfl
theorem wpList_store_new {ops : Array Oper} {rest : List Oper} {o : Oper} {a : Act} {w : World} {Q : Exit → Act → World → Prop} (hg : o.guard = none) (t : TypeId) (x y : Operand) (ho : o.op = .store t x y) (c c' : Array Value)
    (hx : a.eval x = .pointer (some ⟨w.heap.size, 0, none⟩)) (hy : a.eval y = .agg c') (hi : (P.info? t).map (·.size) = some c'.size) (hc : c.size = c'.size) (h1 : c'.all (·.oneCell') = true)
    (h : wpList P ops Q rest (a.put o.dst undef) (w.alloc (.cells c' t))) : wpList P ops Q (o :: rest) a (w.alloc (.cells c t)) := by
  refine wpList_plain hg fun K hK => ?_
  unfold Oper.wp execOp
  simp only [ho, hx, hy, Sem.run_bind, run_storeAt_new w t c c' hi hc h1, Result.andThen_ok]
  exact hK _ _ h
/-- A struct's or an array's type, of n cells. -/
def RowType (P : Program) (ty : TypeId) (n : Nat) : Prop := (∃ d, P.underlying ty = some d ∧ d.isRow = true) ∧ (P.info? ty).map (·.size) = some n
theorem RowType.mk' {ty n : Nat} {d : TypeDesc} (h : P.underlying ty = some d) (hd : d.isRow = true) (hi : (P.info? ty).map (·.size) = some n) : RowType P ty n := ⟨⟨d, h, hd⟩, hi⟩
theorem run_load_row {ρ : Operand → Value} {op : Oper} (ty : TypeId) (x : Operand) (ho : op.op = .load ty x) (b o : Nat) (hx : ρ x = .pointer (some ⟨b, o, none⟩)) (cs : List Value) (n : Nat) (hn : cs.length = n) (hr : RowType P ty n) (w : World) (hc : w.rangeAt b o cs) :
    (execOp ρ op).run P w = .ok (.value (.agg cs.toArray)) w := by
  obtain ⟨⟨d, h1, h2⟩, h3⟩ := hr
  exact run_load_mid ty x ho b o hx cs d w hc h1 h2 (by rw [hn]; exact h3)
theorem wpList_want_load {ops : Array Oper} {rest : List Oper} {o : Oper} {a : Act} {w : World} {Q : Exit → Act → World → Prop} (ty : TypeId) (x : Operand) (ho : o.op = .load ty x) (hw : Region.wanted o (yielded ops a.tmps) = true)
    (b off : Nat) (hx : a.eval x = .pointer (some ⟨b, off, none⟩)) (cs : List Value) (n : Nat) (hn : cs.length = n) (hr : RowType P ty n) (hc : w.rangeAt b off cs) (h : wpList P ops Q rest (a.put o.dst (.agg cs.toArray)) w) : wpList P ops Q (o :: rest) a w :=
  wpList_of_run_want hw (run_load_row ty x ho b off hx cs n hn hr w hc) h
theorem wpList_want_bin {ops : Array Oper} {rest : List Oper} {o : Oper} {a : Act} {w : World} {Q : Exit → Act → World → Prop} (op : BinOp) (t : TypeId) (x y : Operand) (rt : TypeId) (ho : o.op = .binOp op t x y rt) (hw : Region.wanted o (yielded ops a.tmps) = true)
    (u v r : Value) (hx : a.eval x = u) (hy : a.eval y = v) (hr : (do eqGuard op t x y u v; binOp op t u v : Sem Value).run P w = .ok r w) (h : wpList P ops Q rest (a.put o.dst r) w) : wpList P ops Q (o :: rest) a w :=
  wpList_of_run_want hw (run_bin op t x y rt ho u v r hx hy w hr) h
theorem wpList_want_alloc {ops : Array Oper} {rest : List Oper} {o : Oper} {a : Act} {w : World} {Q : Exit → Act → World → Prop} (t : TypeId) (ho : o.op = .alloc t) (hw : Region.wanted o (yielded ops a.tmps) = true) (cs : Array Value)
    (hr : (Instr.alloc t true (.tuple #[])).run P w = .ok (.pointer (some ⟨w.heap.size, 0, none⟩)) (w.alloc (.cells cs t))) (h : wpList P ops Q rest (a.put o.dst (.pointer (some ⟨w.heap.size, 0, none⟩))) (w.alloc (.cells cs t))) : wpList P ops Q (o :: rest) a w :=
  wpList_of_run_want hw (run_allocOp t ho cs w hr) h
theorem wpList_want_build {ops : Array Oper} {rest : List Oper} {o : Oper} {a : Act} {w : World} {Q : Exit → Act → World → Prop} (t : TypeId) (parts : Array (Nat × Operand)) (ho : o.op = .build t parts) (hw : Region.wanted o (yielded ops a.tmps) = true)
    (vals : Array (Nat × Value)) (hv : (parts.map fun (i, x) => (i, a.eval x)) = vals) (r : Value) (hr : (Instr.build t vals).run P w = .ok r w) (h : wpList P ops Q rest (a.put o.dst r) w) : wpList P ops Q (o :: rest) a w :=
  wpList_of_run_want hw (run_build t parts ho vals hv r w hr) h
theorem wpList_want_slice1 {ops : Array Oper} {rest : List Oper} {op : Oper} {a : Act} {w : World} {Q : Exit → Act → World → Prop} (t : TypeId) (x : Operand) (ho : op.op = .buildSlice t 1 #[(0, x)]) (hg : op.guard = none)
    (e : TypeId) (i : TypeInfo) (z : Value) (cs : Array Value) (hx : a.eval x = .agg cs) (ht : P.underlying t = some (.slice e)) (hi : P.info? e = some i) (hz : i.zero = some z) (hs : i.size = cs.size)
    (hzs : z.cells.size = cs.size) (h0 : 0 < cs.size) (h24 : cs.size ≤ 1000)
    (h : wpList P ops Q rest (a.put op.dst (.slice (some ⟨w.heap.size, 0, none⟩) 1 1)) (w.alloc (.cells cs e))) : wpList P ops Q (op :: rest) a w :=
  wpList_plain hg fun _ hK => wp_buildSlice_one t x ho e i z cs hx ht hi hz hs hzs h0 h24 (hK _ _ h)
theorem size_al (w : World) (o : Obj) : (w.alloc o).heap.size = w.heap.size + 1 := by simp
theorem heap_get (w : World) (o : Obj) (k : Nat) : (w.alloc o).heap[k]? = if k = w.heap.size then some o else w.heap[k]? := by
  by_cases h : k = w.heap.size
  · subst h; rw [if_pos rfl]; exact heap_alloc_new w o
  · rw [if_neg h]
    by_cases h' : k < w.heap.size
    · exact Below.heap_alloc w o k h'
    · rw [Array.getElem?_eq_none (by simp; omega), Array.getElem?_eq_none (by omega)]
/-! ### calls -/
theorem parts4 {ρ : Operand → Value} {i j k l : Nat} {x y z u : Operand} {a b c d : Value} (h1 : ρ x = a) (h2 : ρ y = b) (h3 : ρ z = c) (h4 : ρ u = d) :
    (#[(i, x), (j, y), (k, z), (l, u)].map fun (p : Nat × Operand) => match p with | (i, x) => (i, ρ x)) = #[(i, a), (j, b), (k, c), (l, d)] := by simp [h1, h2, h3, h4]
theorem parts5 {ρ : Operand → Value} {i j k l m : Nat} {x y z u v : Operand} {a b c d e : Value} (h1 : ρ x = a) (h2 : ρ y = b) (h3 : ρ z = c) (h4 : ρ u = d) (h5 : ρ v = e) :
    (#[(i, x), (j, y), (k, z), (l, u), (m, v)].map fun (p : Nat × Operand) => match p with | (i, x) => (i, ρ x)) = #[(i, a), (j, b), (k, c), (l, d), (m, e)] := by simp [h1, h2, h3, h4, h5]
theorem args1 {ρ : Operand → Value} {x : Operand} {a : Value} (h1 : ρ x = a) : #[x].map ρ = #[a] := by simp [h1]
theorem args2 {ρ : Operand → Value} {x y : Operand} {a b : Value} (h1 : ρ x = a) (h2 : ρ y = b) : #[x, y].map ρ = #[a, b] := by simp [h1, h2]
theorem args3 {ρ : Operand → Value} {x y z : Operand} {a b c : Value} (h1 : ρ x = a) (h2 : ρ y = b) (h3 : ρ z = c) : #[x, y, z].map ρ = #[a, b, c] := by simp [h1, h2, h3]
theorem run_callFn {ρ : Operand → Value} {o : Oper} (f : FuncId) (xs : Array Operand) (tt : Array TypeId) (ho : o.op = .call { callee := .value (.func f), args := xs, argTypes := tt }) (hf : ρ (.func f) = .func (.func f) #[] #[])
    (args : Array Value) (ha : xs.map ρ = args) (w : World) (hb : (callFunc f args).run P w = .ok (.enter f args) w) : (execOp ρ o).run P w = .ok (.enter f args) w := by
  unfold execOp; rw [ho]
  simp [resolve, hf, ha, Deferred.ofValue, invoke, hb]
theorem run_invoke {ρ : Operand → Value} {o : Oper} (x : Operand) (m : String) (xs : Array Operand) (tt : Array TypeId) (ho : o.op = .call { callee := .invoke x m, args := xs, argTypes := tt })
    (v : Value) (hx : ρ x = v) (args as : Array Value) (f : FuncId) (ha : xs.map ρ = args) (w : World) (hb : (callMethod v m args).run P w = .ok (.enter f as) w) : (execOp ρ o).run P w = .ok (.enter f as) w := by
  unfold execOp; rw [ho]
  simp [resolve, hx, ha, invoke]
  rw [show (#[v] ++ args)[0]? = some v from by simp [Array.getElem?_append]]
  exact hb
theorem wp_enter {o : Oper} {a : Act} {w w' : World} {K : Act → World → Prop} {Q : Exit → Act → World → Prop} {f : FuncId} {args : Array Value} (hr : (execOp a.eval o).run P w = .ok (.enter f args) w')
    (hc : Calls P f args w' fun e w'' => ∃ v, e = .returned v ∧ K (a.put o.dst v) w'') : o.wp P a w K Q := by
  unfold Oper.wp; rw [hr]
  exact hc.mono fun e w'' ⟨v, he, hk⟩ => by subst he; exact hk
/-- Whatever order, with the condition S: one operation alone may come up, and it is the last. -/
theorem held_one {ops : Array Oper} {Q : Exit → Act → World → Prop} {md : Region.Mode} {S : World → Prop} {fuel : Nat} {listed : Array Bool} {a : Act} {w : World} {i : Nat} {o : Oper} (hr : Region.ready md ops listed = [i]) (ho : ops[i]? = some o) (hg : o.guard = none)
    (h : o.wp P a w (fun a' w' => S w' ∧ wpAnyH P md ops Q S fuel (listed.setIfInBounds i true) a' w') Q) : wpAnyH P md ops Q S (fuel + 1) listed a w := by
  refine wpAnyH_all hr (by simp) fun j hj => ?_
  obtain rfl : j = i := by simpa using hj
  unfold wpOp
  rw [ho]
  dsimp only
  rw [if_pos (by simp [Region.wanted, hg])]
  exact .inl h
theorem held_two {ops : Array Oper} {Q : Exit → Act → World → Prop} {md : Region.Mode} {S : World → Prop} {fuel : Nat} {listed : Array Bool} {a : Act} {w : World} {i j : Nat} {o o' : Oper} (hr : Region.ready md ops listed = [i, j]) (ho : ops[i]? = some o) (ho' : ops[j]? = some o') (hg : o.guard = none) (hg' : o'.guard = none)
    (h : o.wp P a w (fun a' w' => S w' ∧ wpAnyH P md ops Q S fuel (listed.setIfInBounds i true) a' w') Q)
    (h' : o'.wp P a w (fun a' w' => S w' ∧ wpAnyH P md ops Q S fuel (listed.setIfInBounds j true) a' w') Q) : wpAnyH P md ops Q S (fuel + 1) listed a w := by
  refine wpAnyH_all hr (by simp) fun k hk => ?_
  have hk' : k = i ∨ k = j := by simpa using hk
  unfold wpOp
  rcases hk' with rfl | rfl
  · rw [ho]
    dsimp only
    rw [if_pos (by simp [Region.wanted, hg])]
    exact .inl h
  · rw [ho']
    dsimp only
    rw [if_pos (by simp [Region.wanted, hg'])]
    exact .inl h'
/-- An append that must grow, as one operation. -/
theorem wp_append_grows {o : Oper} {a : Act} {w : World} {K : Act → World → Prop} {Q : Exit → Act → World → Prop}
    (hg : o.guard = none) (s x : Operand) (t : TypeId) (hop : o.op = Op.call { callee := Callee.builtin Builtin.append, args := #[s, x], argTypes := #[t, t] })
    (e : TypeId) (i : TypeInfo) (z : Value) (size bytes : Nat) (h1 : P.underlying t = some (.slice e)) (h2 : P.info? e = some i) (h3 : i.zero = some z) (h4 : i.size = size) (h5 : i.bytes = bytes) (h6 : z.cells.size = size) (h7 : 0 < size)
    (ao : Option Addr) (n cap : Nat) (olds : List Value) (hs : a.eval s = .slice ao n cap) (hnone : ao = none → n = 0 ∧ cap = 0) (hlo : olds.length = n * size) (holds : ∀ b, ao = some b → ∀ j u, olds[j]? = some u → w.cell? (b.add j) = some u)
    (ad : Addr) (m c : Nat) (news : List Value) (hx : a.eval x = .slice (some ad) m c) (hn : news.length = m * size) (hc : ∀ j u, news[j]? = some u → w.cell? (ad.add j) = some u) (h1c : ∀ u ∈ news, u.oneCell' = true)
    (hfull : cap < n + m) (b1 : n + m ≤ maxLen) (b2 : (n + m) * bytes ≤ 140737488355328)
    (hK : ∀ v' w', w'.ownsRow w.heap.size e size v' (n + m) (olds ++ news) → w.grownBy w' none → K (a.put o.dst v') w') : Oper.wp P o a w K Q := by
  have := step_append_grows (P := P) (ops := #[]) (E := False) (Q := Q) hg s x t hop e i z size bytes h1 h2 h3 h4 h5 h6 h7 ao n cap olds hs hnone hlo holds ad m c news hx hn hc h1c hfull b1 b2 hK
  rwa [if_pos (by simp [Region.wanted, hg])] at this
/-- A slice literal of one element of one cell. -/
theorem fill_one1 (place : Nat → Option (Nat × Nat)) (Z : Array Value) (v : Value) (h : place 0 = some (0, 1)) (hz : Z.size = 1) (hv : v.cells = #[v]) : Instr.fill place Z [(0, v)] = some #[v] := by
  obtain ⟨l⟩ := Z
  match l, hz with
  | [x], _ => simp [Instr.fill, h, hv]
theorem wp_buildSlice_one1 {op : Oper} {a : Act} {w : World} {K : Act → World → Prop} {Q : Exit → Act → World → Prop} (t : TypeId) (x : Operand) (ho : op.op = .buildSlice t 1 #[(0, x)])
    (e : TypeId) (i : TypeInfo) (z v : Value) (hx : a.eval x = v) (hv : v.cells = #[v]) (ht : P.underlying t = some (.slice e)) (hi : P.info? e = some i) (hz : i.zero = some z) (hs : i.size = 1)
    (h : K (a.put op.dst (.slice (some ⟨w.heap.size, 0, none⟩) 1 1)) (w.alloc (.cells #[v] e))) : op.wp P a w K Q := by
  have hf : ∀ Z : Array Value, Z.size = 1 → Instr.fill (fun i => some (i, 1)) Z [(0, v)] = some #[v] := fun Z hZ => fill_one1 _ Z v (by simp) hZ hv
  have hr : (Instr.buildSlice t 1 #[(0, v)]).run P w = .ok (.slice (some ⟨w.heap.size, 0, none⟩) 1 1) (w.alloc (.cells #[v] e)) := by
    unfold Instr.buildSlice
    simp only [Sem.run_bind, run_underlying ht w, Result.andThen_ok, sizeOf, typeInfo, Sem.run_pure, Nat.one_mul]
    simp [hi, hs, zeroValue, typeInfo, hz, newRow, newObj, hf]
    rfl
  unfold Oper.wp execOp
  simp only [ho, List.map_toArray, List.map_cons, List.map_nil, hx, Sem.run_bind, Sem.run_pure, Result.andThen_ok, hr]
  exact h
end
end Go.Proofs.Ybulkaeqi
