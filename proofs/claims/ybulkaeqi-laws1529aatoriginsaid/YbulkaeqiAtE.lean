import Derived.Test.YbulkaeqiAtD
namespace Go.Proofs.Ybulkaeqi
open Go.RowKit
/-- The slice that the law lays up to compare the log with. -/
def Want (W2 : World) (xs : List Int) (v : Value) (w : World) : Prop := w.ownsRow W2.heap.size 3 1 v xs.length (xs.map (Value.int .i64)) ∧ Fr [] W2 w
section
variable {K : List (Nat × Value)} {n : Nat} {a : Act} {ops : Array Oper} {rest : List Oper} {o : Oper} {w W2 : World} {Q : Exit → Act → World → Prop} {d : Nat}
theorem run_slice1 {P : Program} (t e : TypeId) (i : TypeInfo) (z v : Value) (hv : v.cells = #[v]) (ht : P.underlying t = some (.slice e)) (hi : P.info? e = some i) (hz : i.zero = some z) (hs : i.size = 1) (w : World) :
    (Instr.buildSlice t 1 #[(0, v)]).run P w = .ok (.slice (some ⟨w.heap.size, 0, none⟩) 1 1) (w.alloc (.cells #[v] e)) := by
  have hf : ∀ Z : Array Value, Z.size = 1 → Instr.fill (fun i => some (i, 1)) Z [(0, v)] = some #[v] := fun Z hZ => fill_one1 _ Z v (by simp) hZ hv
  unfold Instr.buildSlice
  simp only [Sem.run_bind, run_underlying ht w, Result.andThen_ok, sizeOf, typeInfo, Sem.run_pure, Nat.one_mul]
  simp [hi, hs, zeroValue, typeInfo, hz, newRow, newObj, hf]
  rfl
/-- A slice literal of one int. -/
theorem stOne (hK : Fm n K a) (hw : Region.wanted o (yielded ops a.tmps) = true) {x : Operand} (ho : o.op = .buildSlice 76 1 #[(0, x)]) {c : Int} (hx : lookO K x = some (.int .i64 c)) (hd : o.dst = some d) (hn : d < n)
    (h : ∀ a', Fm n ((d, .slice (some ⟨w.heap.size, 0, none⟩) 1 1) :: K) a' → wpList Yba.prog ops Q rest a' (w.alloc (.cells #[.int .i64 c] 3))) : wpList Yba.prog ops Q (o :: rest) a w := by
  obtain ⟨i0, hi, hz0, hz1, hz2⟩ := info_parts Yba.info3
  refine st hK hw ?_ hd hn h
  unfold execOp; rw [ho]
  simp only [List.map_toArray, List.map_cons, List.map_nil, hK.op hx, Sem.run_bind, run_slice1 76 3 i0 _ (.int .i64 c) rfl Yba.underlying76 hi hz0 hz1, Result.andThen_ok, Sem.run_pure]
/-- One more value behind it. -/
theorem stMore (hK : Fm n K a) (hg : o.guard = none) {x y : Operand} (ho : o.op = .call { callee := .builtin .append, args := #[x, y], argTypes := #[76, 76] }) {xs : List Int} {v : Value} {c : Int} (hx : lookO K x = some v) (hW : Want W2 xs v w) (hy : lookO K y = some (.slice (some ⟨w.heap.size, 0, none⟩) 1 1)) (hlen : xs.length ≤ 10)
    (hd : o.dst = some d) (hn : d < n) (h : ∀ a' v' w', Fm n ((d, v') :: K) a' → Want W2 (xs ++ [c]) v' w' → wpList Yba.prog ops Q rest a' w') : wpList Yba.prog ops Q (o :: rest) a (w.alloc (.cells #[.int .i64 c] 3)) := by
  obtain ⟨i0, hi, hz0, hz1, hz2⟩ := info_parts Yba.info3
  obtain ⟨hown, hf⟩ := hW
  refine wpList_append_own _ hg x y 76 ho W2.heap.size 3 i0 (.int .i64 0) 1 8 Yba.underlying76 hi hz0 hz1 hz2 rfl (by decide) v xs.length (xs.map (Value.int .i64)) (hK.op hx) (hown.alloc _) ⟨w.heap.size, 0, none⟩ 1 1 [.int .i64 c] (hK.op hy) rfl ?_ ?_ ?_ ?_ ?_ ?_
  · intro j u hj; match j, hj with | 0, hj => (simp at hj; subst hj; simp [Addr.add])
  · intro u hu; simp at hu; subst hu; rfl
  · unfold maxLen; omega
  · omega
  · have := hf.size; simp; omega
  · intro v' w' hown' hgrow _
    rw [hd]
    refine h _ v' w' (hK.put hn v') ⟨?_, ?_⟩
    · rw [List.map_append, List.length_append]; exact hown'
    · exact (hf.alloc _).grown hgrow (fun k hk => .inr (hown.lt k hk).1)
end

set_option maxRecDepth 20000 in
theorem at_g {Q : Exit → Act → World → Prop} (s : ByteArray) (req fst hops : Int) (found loc ah we : Bool) (path : Value) (a : Act) (N : Nat) (W2 : World) (hK : Fm 184 (K1 N s req fst hops found loc true ah we path) a)
    (h : ∀ a v w, Fm 184 ((29, v) :: K1 N s req fst hops found loc true ah we path) a → Want W2 [0] v w → Code.wp Yba.prog (codeOf Yba.f4 [1, 1, 1, 1, 1, 1, 1, 1, 1, 1, 1, 1, 1, 1, 1, 1, 1, 1]) Q a w) :
    Code.wp Yba.prog (codeOf Yba.f4 [1, 1, 1, 1, 1, 1, 1, 1, 1, 1, 1, 1, 1, 1, 1, 1]) Q a W2 := by
  show Code.wp _ (.seq (.seq (.region _ (opsOf Yba.f4 [1, 1, 1, 1, 1, 1, 1, 1, 1, 1, 1, 1, 1, 1, 1, 1, 0, 0]) false) (codeOf Yba.f4 [1, 1, 1, 1, 1, 1, 1, 1, 1, 1, 1, 1, 1, 1, 1, 1, 0, 1])) (codeOf Yba.f4 [1, 1, 1, 1, 1, 1, 1, 1, 1, 1, 1, 1, 1, 1, 1, 1, 1])) _ _ _
  refine wp_seq (srg ?_)
  show wpList _ (opsOf Yba.f4 [1, 1, 1, 1, 1, 1, 1, 1, 1, 1, 1, 1, 1, 1, 1, 1, 0, 0]) _ [opAt Yba.f4 [1, 1, 1, 1, 1, 1, 1, 1, 1, 1, 1, 1, 1, 1, 1, 1, 0, 0] 0, opAt Yba.f4 [1, 1, 1, 1, 1, 1, 1, 1, 1, 1, 1, 1, 1, 1, 1, 1, 0, 0] 1] _ _
  refine stMv hK (wn rfl) rfl rfl rfl (by decide) fun a hK => ?_
  refine stNot hK (wn rfl) rfl rfl rfl (by decide) fun a hK => ?_
  show Code.wp _ (.cond (.tmp 89) (codeOf Yba.f4 [1, 1, 1, 1, 1, 1, 1, 1, 1, 1, 1, 1, 1, 1, 1, 1, 0, 1, 2]) .skip) _ _ _
  refine wp_cond_false (hK.op rfl) (wp_skip ?_)
  show Code.wp _ (codeOf Yba.f4 [1, 1, 1, 1, 1, 1, 1, 1, 1, 1, 1, 1, 1, 1, 1, 1, 1]) _ _ _
  show Code.wp _ (.seq (.region _ (opsOf Yba.f4 [1, 1, 1, 1, 1, 1, 1, 1, 1, 1, 1, 1, 1, 1, 1, 1, 1, 0]) false) (codeOf Yba.f4 [1, 1, 1, 1, 1, 1, 1, 1, 1, 1, 1, 1, 1, 1, 1, 1, 1, 1])) _ _ _
  refine srg ?_
  show wpList _ (opsOf Yba.f4 [1, 1, 1, 1, 1, 1, 1, 1, 1, 1, 1, 1, 1, 1, 1, 1, 1, 0]) _ [opAt Yba.f4 [1, 1, 1, 1, 1, 1, 1, 1, 1, 1, 1, 1, 1, 1, 1, 1, 1, 0] 0, opAt Yba.f4 [1, 1, 1, 1, 1, 1, 1, 1, 1, 1, 1, 1, 1, 1, 1, 1, 1, 0] 1] _ _
  refine stOne hK (wn rfl) rfl rfl rfl (by decide) fun a hK => ?_
  refine stAs hK (wn rfl) rfl rfl rfl (by decide) fun a hK => ?_
  show Code.wp _ (codeOf Yba.f4 [1, 1, 1, 1, 1, 1, 1, 1, 1, 1, 1, 1, 1, 1, 1, 1, 1, 1]) _ _ _
  have hK := hK.sub ((29, .slice (some ⟨W2.heap.size, 0, none⟩) 1 1) :: K1 N s req fst hops found loc true ah we path) (by repeat (first | exact trivial | refine ⟨rfl, ?_⟩))
  exact h _ _ _ hK ⟨World.ownsRow_lit W2 #[.int .i64 0] 1 (Nat.le_refl _) (by decide) rfl, (Fr.refl [] W2).alloc _⟩

set_option maxRecDepth 20000 in
theorem at_h {Q : Exit → Act → World → Prop} (s : ByteArray) (req fst hops : Int) (found loc ah we : Bool) (path : Value) (a : Act) (N : Nat) (W2 w : World) (v : Value) (xs : List Int) (hlen : xs.length ≤ 10) (hK : Fm 184 ((29, v) :: K1 N s req fst hops found loc true ah we path) a) (hW : Want W2 xs v w)
    (h : ∀ a v w, Fm 184 ((29, v) :: K1 N s req fst hops found loc true ah we path) a → Want W2 (xs ++ two ah) v w → Code.wp Yba.prog (codeOf Yba.f4 [1, 1, 1, 1, 1, 1, 1, 1, 1, 1, 1, 1, 1, 1, 1, 1, 1, 1, 1]) Q a w) :
    Code.wp Yba.prog (codeOf Yba.f4 [1, 1, 1, 1, 1, 1, 1, 1, 1, 1, 1, 1, 1, 1, 1, 1, 1, 1]) Q a w := by
  show Code.wp _ (.seq (.seq (.region _ (opsOf Yba.f4 [1, 1, 1, 1, 1, 1, 1, 1, 1, 1, 1, 1, 1, 1, 1, 1, 1, 1, 0, 0]) false) (codeOf Yba.f4 [1, 1, 1, 1, 1, 1, 1, 1, 1, 1, 1, 1, 1, 1, 1, 1, 1, 1, 0, 1])) (codeOf Yba.f4 [1, 1, 1, 1, 1, 1, 1, 1, 1, 1, 1, 1, 1, 1, 1, 1, 1, 1, 1])) _ _ _
  refine wp_seq (srg ?_)
  show wpList _ (opsOf Yba.f4 [1, 1, 1, 1, 1, 1, 1, 1, 1, 1, 1, 1, 1, 1, 1, 1, 1, 1, 0, 0]) _ [opAt Yba.f4 [1, 1, 1, 1, 1, 1, 1, 1, 1, 1, 1, 1, 1, 1, 1, 1, 1, 1, 0, 0] 0] _ _
  refine stMv hK (wn rfl) rfl rfl rfl (by decide) fun a hK => ?_
  cases ah with
  | false =>
    show Code.wp _ (.cond (.tmp 109) (codeOf Yba.f4 [1, 1, 1, 1, 1, 1, 1, 1, 1, 1, 1, 1, 1, 1, 1, 1, 1, 1, 0, 1, 2]) .skip) _ _ _
    refine wp_cond_false (hK.op rfl) (wp_skip ?_)
    show Code.wp _ (codeOf Yba.f4 [1, 1, 1, 1, 1, 1, 1, 1, 1, 1, 1, 1, 1, 1, 1, 1, 1, 1, 1]) _ _ _
    have hK := hK.sub ((29, v) :: K1 N s req fst hops found loc true false we path) (by repeat (first | exact trivial | refine ⟨rfl, ?_⟩))
    exact h _ _ _ hK (by rw [show two false = [] from rfl, List.append_nil]; exact hW)
  | true =>
    show Code.wp _ (.cond (.tmp 109) (codeOf Yba.f4 [1, 1, 1, 1, 1, 1, 1, 1, 1, 1, 1, 1, 1, 1, 1, 1, 1, 1, 0, 1, 2]) .skip) _ _ _
    refine wp_cond_true (hK.op rfl) ?_
    show Code.wp _ (.region _ (opsOf Yba.f4 [1, 1, 1, 1, 1, 1, 1, 1, 1, 1, 1, 1, 1, 1, 1, 1, 1, 1, 0, 1, 2]) false) _ _ _
    refine wp_region_list ?_
    show wpList _ (opsOf Yba.f4 [1, 1, 1, 1, 1, 1, 1, 1, 1, 1, 1, 1, 1, 1, 1, 1, 1, 1, 0, 1, 2]) _ [opAt Yba.f4 [1, 1, 1, 1, 1, 1, 1, 1, 1, 1, 1, 1, 1, 1, 1, 1, 1, 1, 0, 1, 2] 0, opAt Yba.f4 [1, 1, 1, 1, 1, 1, 1, 1, 1, 1, 1, 1, 1, 1, 1, 1, 1, 1, 0, 1, 2] 1, opAt Yba.f4 [1, 1, 1, 1, 1, 1, 1, 1, 1, 1, 1, 1, 1, 1, 1, 1, 1, 1, 0, 1, 2] 2, opAt Yba.f4 [1, 1, 1, 1, 1, 1, 1, 1, 1, 1, 1, 1, 1, 1, 1, 1, 1, 1, 0, 1, 2] 3] _ _
    refine stMv hK (wn rfl) rfl rfl rfl (by decide) fun a hK => ?_
    refine stOne hK (wn rfl) rfl rfl rfl (by decide) fun a hK => ?_
    refine stMore hK rfl rfl rfl hW rfl hlen rfl (by decide) fun a v w hK hW => ?_
    refine stAs hK (wn rfl) rfl rfl rfl (by decide) fun a hK => ?_
    show Code.wp _ (codeOf Yba.f4 [1, 1, 1, 1, 1, 1, 1, 1, 1, 1, 1, 1, 1, 1, 1, 1, 1, 1, 1]) _ _ _
    have hK := hK.sub ((29, v) :: K1 N s req fst hops found loc true true we path) (by repeat (first | exact trivial | refine ⟨rfl, ?_⟩))
    exact h _ _ _ hK hW

set_option maxRecDepth 20000 in
theorem at_i {Q : Exit → Act → World → Prop} (s : ByteArray) (req fst hops : Int) (found loc ah we : Bool) (path : Value) (a : Act) (N : Nat) (W2 w : World) (v : Value) (xs : List Int) (hlen : xs.length ≤ 10) (hK : Fm 184 ((29, v) :: K1 N s req fst hops found loc true ah we path) a) (hW : Want W2 xs v w)
    (h : ∀ a v w, Fm 184 ((29, v) :: K1 N s req fst hops found loc true ah we path) a → Want W2 (xs ++ [1]) v w → Code.wp Yba.prog (codeOf Yba.f4 [1, 1, 1, 1, 1, 1, 1, 1, 1, 1, 1, 1, 1, 1, 1, 1, 1, 1, 1, 1]) Q a w) :
    Code.wp Yba.prog (codeOf Yba.f4 [1, 1, 1, 1, 1, 1, 1, 1, 1, 1, 1, 1, 1, 1, 1, 1, 1, 1, 1]) Q a w := by
  show Code.wp _ (.seq (.region _ (opsOf Yba.f4 [1, 1, 1, 1, 1, 1, 1, 1, 1, 1, 1, 1, 1, 1, 1, 1, 1, 1, 1, 0]) false) (codeOf Yba.f4 [1, 1, 1, 1, 1, 1, 1, 1, 1, 1, 1, 1, 1, 1, 1, 1, 1, 1, 1, 1])) _ _ _
  refine srg ?_
  show wpList _ (opsOf Yba.f4 [1, 1, 1, 1, 1, 1, 1, 1, 1, 1, 1, 1, 1, 1, 1, 1, 1, 1, 1, 0]) _ [opAt Yba.f4 [1, 1, 1, 1, 1, 1, 1, 1, 1, 1, 1, 1, 1, 1, 1, 1, 1, 1, 1, 0] 0, opAt Yba.f4 [1, 1, 1, 1, 1, 1, 1, 1, 1, 1, 1, 1, 1, 1, 1, 1, 1, 1, 1, 0] 1, opAt Yba.f4 [1, 1, 1, 1, 1, 1, 1, 1, 1, 1, 1, 1, 1, 1, 1, 1, 1, 1, 1, 0] 2, opAt Yba.f4 [1, 1, 1, 1, 1, 1, 1, 1, 1, 1, 1, 1, 1, 1, 1, 1, 1, 1, 1, 0] 3] _ _
  refine stMv hK (wn rfl) rfl rfl rfl (by decide) fun a hK => ?_
  refine stOne hK (wn rfl) rfl rfl rfl (by decide) fun a hK => ?_
  refine stMore hK rfl rfl rfl hW rfl hlen rfl (by decide) fun a v w hK hW => ?_
  refine stAs hK (wn rfl) rfl rfl rfl (by decide) fun a hK => ?_
  show Code.wp _ (codeOf Yba.f4 [1, 1, 1, 1, 1, 1, 1, 1, 1, 1, 1, 1, 1, 1, 1, 1, 1, 1, 1, 1]) _ _ _
  have hK := hK.sub ((29, v) :: K1 N s req fst hops found loc true ah we path) (by repeat (first | exact trivial | refine ⟨rfl, ?_⟩))
  exact h _ _ _ hK hW

set_option maxRecDepth 20000 in
theorem at_j {Q : Exit → Act → World → Prop} (s : ByteArray) (req fst hops : Int) (found loc ah we : Bool) (path : Value) (a : Act) (N : Nat) (W2 w : World) (v : Value) (xs : List Int) (hlen : xs.length ≤ 10) (hK : Fm 184 ((29, v) :: K1 N s req fst hops found loc true ah we path) a) (hW : Want W2 xs v w)
    (h : ∀ a v w, Fm 184 ((29, v) :: K1 N s req fst hops found loc true ah we path) a → Want W2 (xs ++ three we) v w → Code.wp Yba.prog (codeOf Yba.f4 [1, 1, 1, 1, 1, 1, 1, 1, 1, 1, 1, 1, 1, 1, 1, 1, 1, 1, 1, 1, 1]) Q a w) :
    Code.wp Yba.prog (codeOf Yba.f4 [1, 1, 1, 1, 1, 1, 1, 1, 1, 1, 1, 1, 1, 1, 1, 1, 1, 1, 1, 1]) Q a w := by
  show Code.wp _ (.seq (.seq (.region _ (opsOf Yba.f4 [1, 1, 1, 1, 1, 1, 1, 1, 1, 1, 1, 1, 1, 1, 1, 1, 1, 1, 1, 1, 0, 0]) false) (codeOf Yba.f4 [1, 1, 1, 1, 1, 1, 1, 1, 1, 1, 1, 1, 1, 1, 1, 1, 1, 1, 1, 1, 0, 1])) (codeOf Yba.f4 [1, 1, 1, 1, 1, 1, 1, 1, 1, 1, 1, 1, 1, 1, 1, 1, 1, 1, 1, 1, 1])) _ _ _
  refine wp_seq (srg ?_)
  show wpList _ (opsOf Yba.f4 [1, 1, 1, 1, 1, 1, 1, 1, 1, 1, 1, 1, 1, 1, 1, 1, 1, 1, 1, 1, 0, 0]) _ [opAt Yba.f4 [1, 1, 1, 1, 1, 1, 1, 1, 1, 1, 1, 1, 1, 1, 1, 1, 1, 1, 1, 1, 0, 0] 0] _ _
  refine stMv hK (wn rfl) rfl rfl rfl (by decide) fun a hK => ?_
  cases we with
  | false =>
    show Code.wp _ (.cond (.tmp 116) (codeOf Yba.f4 [1, 1, 1, 1, 1, 1, 1, 1, 1, 1, 1, 1, 1, 1, 1, 1, 1, 1, 1, 1, 0, 1, 2]) .skip) _ _ _
    refine wp_cond_false (hK.op rfl) (wp_skip ?_)
    show Code.wp _ (codeOf Yba.f4 [1, 1, 1, 1, 1, 1, 1, 1, 1, 1, 1, 1, 1, 1, 1, 1, 1, 1, 1, 1, 1]) _ _ _
    have hK := hK.sub ((29, v) :: K1 N s req fst hops found loc true ah false path) (by repeat (first | exact trivial | refine ⟨rfl, ?_⟩))
    exact h _ _ _ hK (by rw [show three false = [] from rfl, List.append_nil]; exact hW)
  | true =>
    show Code.wp _ (.cond (.tmp 116) (codeOf Yba.f4 [1, 1, 1, 1, 1, 1, 1, 1, 1, 1, 1, 1, 1, 1, 1, 1, 1, 1, 1, 1, 0, 1, 2]) .skip) _ _ _
    refine wp_cond_true (hK.op rfl) ?_
    show Code.wp _ (.region _ (opsOf Yba.f4 [1, 1, 1, 1, 1, 1, 1, 1, 1, 1, 1, 1, 1, 1, 1, 1, 1, 1, 1, 1, 0, 1, 2]) false) _ _ _
    refine wp_region_list ?_
    show wpList _ (opsOf Yba.f4 [1, 1, 1, 1, 1, 1, 1, 1, 1, 1, 1, 1, 1, 1, 1, 1, 1, 1, 1, 1, 0, 1, 2]) _ [opAt Yba.f4 [1, 1, 1, 1, 1, 1, 1, 1, 1, 1, 1, 1, 1, 1, 1, 1, 1, 1, 1, 1, 0, 1, 2] 0, opAt Yba.f4 [1, 1, 1, 1, 1, 1, 1, 1, 1, 1, 1, 1, 1, 1, 1, 1, 1, 1, 1, 1, 0, 1, 2] 1, opAt Yba.f4 [1, 1, 1, 1, 1, 1, 1, 1, 1, 1, 1, 1, 1, 1, 1, 1, 1, 1, 1, 1, 0, 1, 2] 2, opAt Yba.f4 [1, 1, 1, 1, 1, 1, 1, 1, 1, 1, 1, 1, 1, 1, 1, 1, 1, 1, 1, 1, 0, 1, 2] 3] _ _
    refine stMv hK (wn rfl) rfl rfl rfl (by decide) fun a hK => ?_
    refine stOne hK (wn rfl) rfl rfl rfl (by decide) fun a hK => ?_
    refine stMore hK rfl rfl rfl hW rfl hlen rfl (by decide) fun a v w hK hW => ?_
    refine stAs hK (wn rfl) rfl rfl rfl (by decide) fun a hK => ?_
    show Code.wp _ (codeOf Yba.f4 [1, 1, 1, 1, 1, 1, 1, 1, 1, 1, 1, 1, 1, 1, 1, 1, 1, 1, 1, 1, 1]) _ _ _
    have hK := hK.sub ((29, v) :: K1 N s req fst hops found loc true ah true path) (by repeat (first | exact trivial | refine ⟨rfl, ?_⟩))
    exact h _ _ _ hK hW

end Go.Proofs.Ybulkaeqi
