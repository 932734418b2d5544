import Derived.Test.YbulkaevsFmtRaw
import Derived.OwnWalk
import Derived.Laws.MakeOwn
namespace Go.Proofs.YbulkaevsFmt
open Go.RowKit Go.Extern.Stop Go.Stop Go.Extern
section
variable {P : Program} {n : Nat} {K : List (Nat × Value)} {a : Act} {ops : Array Oper} {rest : List Oper} {o : Oper} {w : World} {Q : Exit → Act → World → Prop} {v : Value}
theorem stNs (hK : Fm n K a) (hg : o.guard = none) {t : TypeId} {x y : Operand} (ho : o.op = .store t x y) {c c' : Array Value} (hx : lookO K x = some (.pointer (some ⟨w.heap.size, 0, none⟩))) (hy : lookO K y = some (.agg c')) (hi : (P.info? t).map (·.size) = some c'.size) (hc : c.size = c'.size) (h1 : c'.all (·.oneCell') = true) (hd : o.dst = none)
    (h : wpList P ops Q rest a (w.alloc (.cells c' t))) : wpList P ops Q (o :: rest) a (w.alloc (.cells c t)) :=
  wpList_store_new hg t x y ho c c' (hK.op hx) (hK.op hy) hi hc h1 (by rw [hd]; exact h)
theorem stStore (hK : Fm n K a) (hg : o.guard = none) {t : TypeId} {x y : Operand} (ho : o.op = .store t x y) {b j : Nat} (hx : lookO K x = some (.pointer (some ⟨b, j, none⟩))) (hy : lookO K y = some v) (hs : ∀ w, (sizeOf t).run P w = .ok 1 w) (hv : v.cells = #[v]) (h1 : v.oneCell' = true)
    {cs : Array Value} {T : TypeId} (hb : w.heap[b]? = some (.cells cs T (0, 0))) (hj : j < cs.size) (hd : o.dst = none) (h : ∀ w', Fr [b] w w' → w'.heap[b]? = some (.cells (cs.setIfInBounds j v) T (0, 0)) → wpList P ops Q rest a w') : wpList P ops Q (o :: rest) a w :=
  wpList_store1 t x y ho hg _ v (hK.op hx) (hK.op hy) hs hv h1 (cs[j]) (by rw [cell_at hb, Array.getElem?_eq_getElem hj]) (free_at hb j) (by rw [hd]; exact h _ ((Fr.refl _ _).setCell _ (by simp) _) (heap_setCell_same _ _ _ _ _ _ hb))
/-- An array's cell by a number. -/
theorem run_idxR {ρ : Operand → Value} (t e : TypeId) (x ix : Operand) (ho : o.op = .indexAddr t x ix) (m : Nat) (ht : P.underlying t = some (.array m e)) (b : Nat) (hx : ρ x = .pointer (some ⟨b, 0, none⟩)) (q : IntKind) (i : Nat) (hix : ρ ix = .int q i) (hi : i < m) (hs : ∀ w, (sizeOf e).run P w = .ok 1 w) (w : World)
    : (execOp ρ o).run P w = .ok (.value (.pointer (some ⟨b, i, none⟩))) w := by
  unfold execOp; rw [ho]; dsimp only; rw [hx, hix]
  simp [Instr.indexAt, run_underlying ht, hs, go_sem, Addr.add_mid]
  omega
end
theorem u8_rem5 {x : Int} {a b : Operand} {w : World} (h0 : 0 ≤ x) : (do eqGuard .rem 5 a b (.int .u8 x) (.int .u8 5); binOp .rem 5 (.int .u8 x) (.int .u8 5) : Sem Value).run Ybaf.prog w = .ok (.int .u8 (x % 5)) w := by
  have : (do eqGuard .rem 5 a b (.int .u8 x) (.int .u8 5); binOp .rem 5 (.int .u8 x) (.int .u8 5) : Sem Value).run Ybaf.prog w = .ok (.int .u8 (Int.tmod x 5)) w := by kernel_rfl
  rw [this, Int.tmod_eq_emod_of_nonneg h0]
theorem int_rem10 {k : Nat} {a b : Operand} {w : World} : (do eqGuard .rem 3 a b (.int .i64 k) (.int .i64 10); binOp .rem 3 (.int .i64 k) (.int .i64 10) : Sem Value).run Ybaf.prog w = .ok (.int .i64 ((k % 10 : Nat) : Int)) w := by
  have : (do eqGuard .rem 3 a b (.int .i64 k) (.int .i64 10); binOp .rem 3 (.int .i64 k) (.int .i64 10) : Sem Value).run Ybaf.prog w = .ok (.int .i64 (Int.tmod k 10)) w := by kernel_rfl
  rw [this, Int.tmod_eq_emod_of_nonneg (Int.natCast_nonneg _)]; simp
theorem run_cv {ρ : Operand → Value} {o : Oper} (x : Operand) (ho : o.op = .convert 5 3 x) (k : Nat) (hk : k < 256) (hx : ρ x = .int .u8 k) (w : World) : (execOp ρ o).run Ybaf.prog w = .ok (.value (.int .i64 k)) w := by
  have : (execOp ρ o).run Ybaf.prog w = .ok (.value (.int .i64 (IntKind.wrap .i64 k))) w := by
    unfold execOp; rw [ho]; dsimp only; rw [hx]; kernel_rfl
  rw [this, show IntKind.wrap .i64 (k : Int) = k from by rw [IntKind.wrap_i64]; omega]
theorem int_add {x z y : Int} {a b : Operand} {w : World} (h : x + z = y) (h1 : -10000000 ≤ y) (h2 : y ≤ 10000000) : (do eqGuard .add 3 a b (.int .i64 x) (.int .i64 z); binOp .add 3 (.int .i64 x) (.int .i64 z) : Sem Value).run Ybaf.prog w = .ok (.int .i64 y) w := by
  have : (do eqGuard .add 3 a b (.int .i64 x) (.int .i64 z); binOp .add 3 (.int .i64 x) (.int .i64 z) : Sem Value).run Ybaf.prog w = .ok (.int .i64 (IntKind.wrap .i64 (x + z))) w := by kernel_rfl
  rw [this, h, show IntKind.wrap .i64 y = y from by rw [IntKind.wrap_i64]; omega]
theorem info5 : (Ybaf.prog.info? 5).map (fun i => (i.zero, i.size, i.bytes)) = some (some (.int .u8 0), 1, 1) := by kernel_rfl
theorem run_mk {ρ : Operand → Value} {o : Oper} (x y : Operand) (ho : o.op = .makeSlice 22 x y) (n : Nat) (hn : n ≤ 4194304) (hx : ρ x = .int .i64 n) (hy : ρ y = .int .i64 n) (w : World) :
    (execOp ρ o).run Ybaf.prog w = .ok (.value (.slice (some ⟨w.heap.size, 0, none⟩) n n)) (w.alloc (.cells (madeCells #[.int .u8 0] (n * 1)) 5)) := by
  obtain ⟨i0, hi, hz0, hz1, hz2⟩ := info_parts info5
  have h := run_make (P := Ybaf.prog) w 22 5 i0 _ Ybaf.underlying22 hi hz0 .i64 .i64 n n (by omega) (Int.le_refl _) (by rw [hz2]; omega) (by omega)
  rw [hz1] at h
  unfold execOp; rw [ho]; dsimp only; rw [hx, hy, Sem.run_bind, h]
  simp only [Result.andThen_ok, Int.toNat_natCast]
  rfl
def lensC : Array Value := #[.int .i64 0, .int .i64 1, .int .i64 8, .int .i64 9, .int .i64 10, .int .i64 1033, .int .i64 1034, .int .i64 1048576, .int .i64 1048577, .int .i64 1048578]
def zeros10 : Array Value := #[.int .i64 0, .int .i64 0, .int .i64 0, .int .i64 0, .int .i64 0, .int .i64 0, .int .i64 0, .int .i64 0, .int .i64 0, .int .i64 0]
theorem lens_at (j : Nat) (hj : j < 10) : ∃ n : Nat, n ≤ 4194304 ∧ lensC[j]? = some (.int .i64 n) := by
  match j, hj with
  | 0, _ => exact ⟨0, by decide, rfl⟩
  | 1, _ => exact ⟨1, by decide, rfl⟩
  | 2, _ => exact ⟨8, by decide, rfl⟩
  | 3, _ => exact ⟨9, by decide, rfl⟩
  | 4, _ => exact ⟨10, by decide, rfl⟩
  | 5, _ => exact ⟨1033, by decide, rfl⟩
  | 6, _ => exact ⟨1034, by decide, rfl⟩
  | 7, _ => exact ⟨1048576, by decide, rfl⟩
  | 8, _ => exact ⟨1048577, by decide, rfl⟩
  | 9, _ => exact ⟨1048578, by decide, rfl⟩
/-- How the new bytes stand. -/
def Ed (w0 : World) (nb n : Nat) (W : World) : Prop := Fr [] w0 W ∧ ∃ cs, W.heap[nb]? = some (.cells cs 5 (0, 0)) ∧ cs.size = n

set_option maxRecDepth 20000 in
theorem edges_loop {Q : Exit → Act → World → Prop} (w0 : World) (nb n : Nat) (hn : n ≤ 4194304) (hnb : w0.heap.size ≤ nb) (kd fl : Int) (a : Act) (W : World) (hK : Fm 36 [(0, .int .u8 kd), (2, .int .u8 fl), (8, .int .i64 n), (9, .slice (some ⟨nb, 0, none⟩) n n)] a) (hL : Ed w0 nb n W)
    (hx : ∀ a W, Fm 36 [(0, .int .u8 kd), (2, .int .u8 fl), (8, .int .i64 n), (9, .slice (some ⟨nb, 0, none⟩) n n)] a → Ed w0 nb n W → Code.wp Ybaf.prog (codeOf Ybaf.f4 [1, 1, 1, 1, 1]) Q a W) :
    Code.wp Ybaf.prog (codeOf Ybaf.f4 [1, 1, 1, 1]) Q a W := by
  show Code.wp _ (.seq (.seq (.region _ (opsOf Ybaf.f4 [1, 1, 1, 1, 0, 0]) false) (.block 0 (.loop (codeOf Ybaf.f4 [1, 1, 1, 1, 0, 1, 5, 4])))) (codeOf Ybaf.f4 [1, 1, 1, 1, 1])) _ _ _
  refine wp_seq (srg ?_)
  show wpList _ (opsOf Ybaf.f4 [1, 1, 1, 1, 0, 0]) _ [opAt Ybaf.f4 [1, 1, 1, 1, 0, 0] 0] _ _
  refine stAs hK (wn rfl) rfl rfl rfl (by decide) fun a hK => ?_
  show Code.wp _ (.block 0 (.loop (codeOf Ybaf.f4 [1, 1, 1, 1, 0, 1, 5, 4]))) _ _ _
  refine wp_block (wp_loop (fun a W => ∃ i : Nat, i ≤ n + 1 ∧ Fm 36 [(10, .int .i64 i), (0, .int .u8 kd), (2, .int .u8 fl), (8, .int .i64 n), (9, .slice (some ⟨nb, 0, none⟩) n n)] a ∧ Ed w0 nb n W) (fun a _ => n + 1 - (intOf (a.eval (.tmp 10))).toNat) ⟨1, by omega, hK.sub _ (by repeat (first | exact trivial | refine ⟨rfl, ?_⟩)), hL⟩ ?_)
  rintro a W ⟨i, hi, hK, hL⟩
  have him : (intOf (a.eval (.tmp 10))).toNat = i := by rw [hK.get 10 (.int .i64 i) rfl]; simp [intOf]
  show Code.wp _ (.seq (.seq (.region _ (opsOf Ybaf.f4 [1, 1, 1, 1, 0, 1, 5, 4, 0, 0]) false) (.cond (.tmp 21) .skip (.exit 0))) (.seq (.block 1 (.region _ (opsOf Ybaf.f4 [1, 1, 1, 1, 0, 1, 5, 4, 1, 0, 5]) false)) (.region _ (opsOf Ybaf.f4 [1, 1, 1, 1, 0, 1, 5, 4, 1, 1]) false))) _ _ _
  refine wp_seq (srg ?_)
  show wpList _ (opsOf Ybaf.f4 [1, 1, 1, 1, 0, 1, 5, 4, 0, 0]) _ [opAt Ybaf.f4 [1, 1, 1, 1, 0, 1, 5, 4, 0, 0] 0, opAt Ybaf.f4 [1, 1, 1, 1, 0, 1, 5, 4, 0, 0] 1, opAt Ybaf.f4 [1, 1, 1, 1, 0, 1, 5, 4, 0, 0] 2] _ _
  refine stMv hK (wn rfl) rfl rfl rfl (by decide) fun a hK => ?_
  refine stMv hK (wn rfl) rfl rfl rfl (by decide) fun a hK => ?_
  by_cases hlt : i < n
  · refine stBin hK (wn rfl) rfl rfl rfl (int_lt (r := true) (decide_eq_true (by omega))) rfl (by decide) fun a hK => ?_
    refine wp_cond_true (hK.op rfl) (wp_skip ?_)
    refine wp_seq (wp_block (wp_region_list ?_))
    obtain ⟨hF, cs, hcs, hsz⟩ := hL
    show wpList _ (opsOf Ybaf.f4 [1, 1, 1, 1, 0, 1, 5, 4, 1, 0, 5]) _ [opAt Ybaf.f4 [1, 1, 1, 1, 0, 1, 5, 4, 1, 0, 5] 0, opAt Ybaf.f4 [1, 1, 1, 1, 0, 1, 5, 4, 1, 0, 5] 1, opAt Ybaf.f4 [1, 1, 1, 1, 0, 1, 5, 4, 1, 0, 5] 2, opAt Ybaf.f4 [1, 1, 1, 1, 0, 1, 5, 4, 1, 0, 5] 3, opAt Ybaf.f4 [1, 1, 1, 1, 0, 1, 5, 4, 1, 0, 5] 4] _ _
    refine stMv hK (wn rfl) rfl rfl rfl (by decide) fun a hK => ?_
    refine stMv hK (wn rfl) rfl rfl rfl (by decide) fun a hK => ?_
    refine stMv hK (wn rfl) rfl rfl rfl (by decide) fun a hK => ?_
    refine st hK (wn rfl) (run_idxS 22 5 _ _ rfl Ybaf.underlying22 nb 0 n n (hK.op rfl) i (hK.op rfl) hlt 1 (fun w => by kernel_rfl) _) rfl (by decide) fun a hK => ?_
    refine stStore hK rfl rfl rfl rfl (fun w => by kernel_rfl) rfl rfl hcs (by omega) rfl fun W1 hF1 hc1 => ?_
    show Code.wp _ (.region _ (opsOf Ybaf.f4 [1, 1, 1, 1, 0, 1, 5, 4, 1, 1]) false) _ _ _
    refine wp_region_list ?_
    show wpList _ (opsOf Ybaf.f4 [1, 1, 1, 1, 0, 1, 5, 4, 1, 1]) _ [opAt Ybaf.f4 [1, 1, 1, 1, 0, 1, 5, 4, 1, 1] 0, opAt Ybaf.f4 [1, 1, 1, 1, 0, 1, 5, 4, 1, 1] 1, opAt Ybaf.f4 [1, 1, 1, 1, 0, 1, 5, 4, 1, 1] 2] _ _
    refine stMv hK (wn rfl) rfl rfl rfl (by decide) fun a hK => ?_
    refine stBin hK (wn rfl) rfl rfl rfl (int_add (y := ((i + 1 : Nat) : Int)) (by omega) (by omega) (by omega)) rfl (by decide) fun a hK => ?_
    refine stAs hK (wn rfl) rfl rfl rfl (by decide) fun a hK => ?_
    refine ⟨⟨i + 1, by omega, hK.sub _ (by repeat (first | exact trivial | refine ⟨rfl, ?_⟩)), hF.andThen hF1 (by simp; omega), _, hc1, by simp [hsz]⟩, ?_⟩
    show n + 1 - (intOf (a.eval (.tmp 10))).toNat < _
    rw [hK.get 10 (.int .i64 ((i + 1 : Nat) : Int)) rfl, him]
    simp only [intOf, Int.toNat_natCast]; omega
  · refine stBin hK (wn rfl) rfl rfl rfl (int_lt (r := false) (decide_eq_false (by omega))) rfl (by decide) fun a hK => ?_
    refine wp_cond_false (hK.op rfl) (wp_exit ?_)
    exact hx a W (hK.sub _ (by repeat (first | exact trivial | refine ⟨rfl, ?_⟩))) hL

set_option maxRecDepth 20000 in
theorem edges_law (F : Interp) (q : Addr) (s : ByteArray) (kd fl : Int) (sl : Nat) (hkd : 0 ≤ kd) (hsl : sl < 256) (w : World) (hF' : F.answers w.tape) (hE : w.cell? ⟨0, 0, none⟩ = some (errV q)) (hq : w.cell? q = some (.string s)) :
    Calls Ybaf.prog 4 #[.int .u8 kd, .int .u8 sl, .int .u8 fl] w fun e w' => e = .returned (.bool true) ∧ Fr [] w w' := by
  have hEA : ∀ W, Fr [] w W → W.cell? ⟨0, 0, none⟩ = some (errV q) := fun W f => (f.cell (cell_block hE) (by simp)).trans hE
  have hqA : ∀ W, Fr [] w W → W.cell? q = some (.string s) := fun W f => (f.cell (cell_block hq) (by simp)).trans hq
  go_enter Ybaf.func4, Ybaf.ntmps4
  show Code.wp _ (codeOf Ybaf.f4 []) _ _ _
  refine Fm.begin 36 [(0, .int .u8 kd), (1, .int .u8 (sl : Nat)), (2, .int .u8 fl)] rfl rfl ⟨rfl, rfl, rfl, trivial⟩ fun a hK => ?_
  show Code.wp _ (.seq (.region _ (opsOf Ybaf.f4 [0]) false) (codeOf Ybaf.f4 [1])) _ _ _
  refine srg ?_
  show wpList _ (opsOf Ybaf.f4 [0]) _ [opAt Ybaf.f4 [0] 0] _ _
  refine stAs hK (wn rfl) rfl rfl rfl (by decide) fun a hK => ?_
  show Code.wp _ (codeOf Ybaf.f4 [1]) _ _ _
  show Code.wp _ (.seq (.region _ (opsOf Ybaf.f4 [1, 0]) false) (codeOf Ybaf.f4 [1, 1])) _ _ _
  refine srg ?_
  show wpList _ (opsOf Ybaf.f4 [1, 0]) _ [opAt Ybaf.f4 [1, 0] 0, opAt Ybaf.f4 [1, 0] 1, opAt Ybaf.f4 [1, 0] 2] _ _
  refine stBuild hK (wn rfl) rfl rfl ((by kernel_rfl : _ = Result.ok (Value.agg lensC) _)) rfl (by decide) fun a hK => ?_
  refine st hK (wn rfl) (run_allocOp 24 rfl zeros10 _ (by kernel_rfl)) rfl (by decide) fun a hK => ?_
  refine stNs (c' := lensC) hK rfl rfl rfl rfl (by kernel_rfl) rfl (by simp [lensC, Value.oneCell']) rfl ?_
  show Code.wp _ (codeOf Ybaf.f4 [1, 1]) _ _ _
  have hb0 : (w.alloc (.cells lensC 24)).heap[w.heap.size]? = some (.cells lensC 24 (0, 0)) := heap_alloc_new _ _
  obtain ⟨n, hn, hln⟩ := lens_at (sl % 10) (Nat.mod_lt _ (by decide))
  show Code.wp _ (.seq (.region _ (opsOf Ybaf.f4 [1, 1, 0]) false) (codeOf Ybaf.f4 [1, 1, 1])) _ _ _
  refine srg ?_
  show wpList _ (opsOf Ybaf.f4 [1, 1, 0]) _ [opAt Ybaf.f4 [1, 1, 0] 0, opAt Ybaf.f4 [1, 1, 0] 1, opAt Ybaf.f4 [1, 1, 0] 2, opAt Ybaf.f4 [1, 1, 0] 3, opAt Ybaf.f4 [1, 1, 0] 4, opAt Ybaf.f4 [1, 1, 0] 5] _ _
  refine stMv hK (wn rfl) rfl rfl rfl (by decide) fun a hK => ?_
  refine st hK (wn rfl) (run_cv _ rfl sl hsl (hK.op rfl) _) rfl (by decide) fun a hK => ?_
  refine stBin hK (wn rfl) rfl rfl rfl (int_rem10) rfl (by decide) fun a hK => ?_
  refine st hK (wn rfl) (run_idxR 24 3 _ _ rfl 10 Ybaf.underlying24 w.heap.size (hK.op rfl) .i64 (sl % 10) (hK.op rfl) (Nat.mod_lt _ (by decide)) (fun w => by kernel_rfl) _) rfl (by decide) fun a hK => ?_
  refine stLd hK (wn rfl) rfl rfl ((cell_at hb0 _).trans hln) (fun w => by kernel_rfl) rfl (by decide) fun a hK => ?_
  refine stAs hK (wn rfl) rfl rfl rfl (by decide) fun a hK => ?_
  show Code.wp _ (codeOf Ybaf.f4 [1, 1, 1]) _ _ _
  show Code.wp _ (.seq (.region _ (opsOf Ybaf.f4 [1, 1, 1, 0]) false) (codeOf Ybaf.f4 [1, 1, 1, 1])) _ _ _
  refine srg ?_
  show wpList _ (opsOf Ybaf.f4 [1, 1, 1, 0]) _ [opAt Ybaf.f4 [1, 1, 1, 0] 0, opAt Ybaf.f4 [1, 1, 1, 0] 1, opAt Ybaf.f4 [1, 1, 1, 0] 2] _ _
  refine stMv hK (wn rfl) rfl rfl rfl (by decide) fun a hK => ?_
  refine st hK (wn rfl) (run_mk _ _ rfl n hn (hK.op rfl) (hK.op rfl) _) rfl (by decide) fun a hK => ?_
  refine stAs hK (wn rfl) rfl rfl rfl (by decide) fun a hK => ?_
  show Code.wp _ (codeOf Ybaf.f4 [1, 1, 1, 1]) _ _ _
  refine edges_loop w _ n hn (by simp) kd fl a _ (hK.sub _ (by repeat (first | exact trivial | refine ⟨rfl, ?_⟩))) ⟨((Fr.refl [] w).alloc _).alloc _, _, heap_alloc_new _ _, by rw [size_madeCells]; omega⟩ fun a W hK hL => ?_
  obtain ⟨hF0, cs, hcs, hsz⟩ := hL
  generalize hnb : (w.alloc (.cells lensC 24)).heap.size = nb at hK hcs
  have hnb' : w.heap.size ≤ nb := by rw [← hnb]; simp
  have hend : ∀ a W, Fm 36 [(9, .slice (some ⟨nb, 0, none⟩) n n)] a → Fr [] w W → (0 < n → ∃ b, 0 ≤ b ∧ W.cell? ⟨nb, 0, none⟩ = some (.int .u8 b)) → Code.wp Ybaf.prog (codeOf Ybaf.f4 [1, 1, 1, 1, 1, 1]) (bodyPost Ybaf.prog Ybaf.f4 fun e w' => e = .returned (.bool true) ∧ Fr [] w w') a W := by
    intro a W hK hF hc
    show Code.wp _ (.seq (.region _ (opsOf Ybaf.f4 [1, 1, 1, 1, 1, 1, 0]) false) .ret) _ _ _
    refine srg ?_
    show wpList _ (opsOf Ybaf.f4 [1, 1, 1, 1, 1, 1, 0]) _ [opAt Ybaf.f4 [1, 1, 1, 1, 1, 1, 0] 0, opAt Ybaf.f4 [1, 1, 1, 1, 1, 1, 0] 1, opAt Ybaf.f4 [1, 1, 1, 1, 1, 1, 0] 2] _ _
    refine stMv hK (wn rfl) rfl rfl rfl (by decide) fun a hK => ?_
    refine stCall hK rfl rfl rfl (R := fun v w' => v = .bool true ∧ Fr [] W w') (fun w => by kernel_rfl) ((agrees_any F q s (some ⟨nb, 0, none⟩) n n hn W (by rw [hF.tape]; exact hF') (hEA W hF) (hqA W hF) (fun h => by obtain ⟨b, h0, hb⟩ := hc h; exact ⟨_, b, rfl, h0, hb⟩)).mono fun _ _ h => ⟨_, h.1, rfl, h.2⟩) rfl (by decide) fun v a w1 hR hK => ?_
    obtain ⟨rfl, hF1⟩ := hR
    refine stAs hK (wn rfl) rfl rfl rfl (by decide) fun a hK => ?_
    refine wp_ret ?_
    try dsimp only [Exit.then, Exit.inBlock]
    exact bodyPost_ret (result_of hK rfl rfl _) hK.defers ⟨rfl, hF.trans hF1⟩
  show Code.wp _ (.seq (.seq (.region _ (opsOf Ybaf.f4 [1, 1, 1, 1, 1, 0, 0]) false) (codeOf Ybaf.f4 [1, 1, 1, 1, 1, 0, 1])) (codeOf Ybaf.f4 [1, 1, 1, 1, 1, 1])) _ _ _
  refine wp_seq (srg ?_)
  show wpList _ (opsOf Ybaf.f4 [1, 1, 1, 1, 1, 0, 0]) _ [opAt Ybaf.f4 [1, 1, 1, 1, 1, 0, 0] 0, opAt Ybaf.f4 [1, 1, 1, 1, 1, 0, 0] 1] _ _
  refine stMv hK (wn rfl) rfl rfl rfl (by decide) fun a hK => ?_
  by_cases h0 : 0 < n
  · refine stBin hK (wn rfl) rfl rfl rfl (int_gt (r := true) (decide_eq_true (by omega))) rfl (by decide) fun a hK => ?_
    show Code.wp _ (.cond (.tmp 29) (codeOf Ybaf.f4 [1, 1, 1, 1, 1, 0, 1, 2]) .skip) _ _ _
    refine wp_cond_true (hK.op rfl) ?_
    show Code.wp _ (.region _ (opsOf Ybaf.f4 [1, 1, 1, 1, 1, 0, 1, 2]) false) _ _ _
    refine wp_region_list ?_
    show wpList _ (opsOf Ybaf.f4 [1, 1, 1, 1, 1, 0, 1, 2]) _ [opAt Ybaf.f4 [1, 1, 1, 1, 1, 0, 1, 2] 0, opAt Ybaf.f4 [1, 1, 1, 1, 1, 0, 1, 2] 1, opAt Ybaf.f4 [1, 1, 1, 1, 1, 0, 1, 2] 2, opAt Ybaf.f4 [1, 1, 1, 1, 1, 0, 1, 2] 3, opAt Ybaf.f4 [1, 1, 1, 1, 1, 0, 1, 2] 4] _ _
    refine stMv hK (wn rfl) rfl rfl rfl (by decide) fun a hK => ?_
    refine stMv hK (wn rfl) rfl rfl rfl (by decide) fun a hK => ?_
    refine stBin hK (wn rfl) rfl rfl rfl (u8_rem5 hkd) rfl (by decide) fun a hK => ?_
    refine st hK (wn rfl) (run_idxS 22 5 _ _ rfl Ybaf.underlying22 nb 0 n n (hK.op rfl) 0 (hK.op rfl) h0 1 (fun w => by kernel_rfl) _) rfl (by decide) fun a hK => ?_
    refine stStore hK rfl rfl rfl rfl (fun w => by kernel_rfl) rfl rfl hcs (by omega) rfl fun W1 hF1 hc1 => ?_
    show Code.wp _ (codeOf Ybaf.f4 [1, 1, 1, 1, 1, 1]) _ _ _
    refine hend a W1 (hK.sub _ (by repeat (first | exact trivial | refine ⟨rfl, ?_⟩))) (hF0.andThen hF1 (by simp; omega)) fun _ => ⟨kd % 5, Int.emod_nonneg _ (by decide), ?_⟩
    rw [cell_at hc1, Array.getElem?_setIfInBounds, if_pos rfl, if_pos (by omega)]
  · refine stBin hK (wn rfl) rfl rfl rfl (int_gt (r := false) (decide_eq_false (by omega))) rfl (by decide) fun a hK => ?_
    show Code.wp _ (.cond (.tmp 29) (codeOf Ybaf.f4 [1, 1, 1, 1, 1, 0, 1, 2]) .skip) _ _ _
    refine wp_cond_false (hK.op rfl) (wp_skip ?_)
    show Code.wp _ (codeOf Ybaf.f4 [1, 1, 1, 1, 1, 1]) _ _ _
    exact hend a W (hK.sub _ (by repeat (first | exact trivial | refine ⟨rfl, ?_⟩))) hF0 fun h => absurd h h0

end Go.Proofs.YbulkaevsFmt
