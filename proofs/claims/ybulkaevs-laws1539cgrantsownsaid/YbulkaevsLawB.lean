import Derived.Test.YbulkaevsLawA
namespace Go.Proofs.Ybulkaevs
open Go.RowKit
def nodeC (me H : Nat) : Array Value := #[.int .u64 (me : Nat), .int .u8 0, .bool false, .slice none 0 0, .int .u64 0, .slice none 0 0, .nilIface, .int .i64 0, .int .u64 0, .int .i64 0, .pointer none, .nilIface, .bool false, .int .i64 0, .int .i64 0, .bool false, .int .i64 0, .int .i64 0, .int .i64 0, .pointer none, .chan none, .nilFunc, .nilFunc, .int .u8 0, .map none, .map none, .pointer none, .chan none, .chan none, .nilIface, .nilFunc, .int .u64 0, .int .u32 0, .int .u32 0, .int .i32 0, .int .u32 0, .nilIface, .int .i32 0, .int .u32 0, .pointer none, .int .u64 0, ptr H, .int .u64 0, .int .u64 0, .nilFunc, .int .i32 0, .int .u32 0, .map none, .int .i32 0, .int .u32 0, .bool false, .map none, .map none, .chan none]
def rawC (g : Gr) : List Value := [.int .u64 g.m, .int .u64 g.k, .string g.s, .int .u64 g.f]
/-- The grants as they were handed in. -/
def grantsAt (a : Option Addr) (gl : List Gr) (w : World) : Prop := (a = none → gl.length = 0) ∧ ∀ ad, a = some ad → ∀ (i : Nat) g, gl[i]? = some g → ∀ (j : Nat) v, (rawC g)[j]? = some v → w.cell? ((ad.add (i * 4)).add j) = some v
/-- The law's own copy of a grant. -/
def cut (g : Gr) : Gr := ⟨g.m % 3, g.k % 8, g.s, g.f⟩
theorem grantsAt.keep {a : Option Addr} {gl : List Gr} {w W : World} (h : grantsAt a gl w) (f : Fr [] w W) : grantsAt a gl W := ⟨h.1, fun ad e i g hg j v hv => (f.cell (cell_block (h.2 ad e i g hg j v hv)) (by simp)).trans (h.2 ad e i g hg j v hv)⟩
theorem run_load_any {P : Program} {ρ : Operand → Value} {op : Oper} (ty : TypeId) (x : Operand) (ho : op.op = .load ty x) (p : Addr) (hx : ρ x = .pointer (some p)) (cs : List Value) (n : Nat) (hn : cs.length = n) (hr : RowType P ty n) (w : World) (hc : ∀ (j : Nat) v, cs[j]? = some v → w.cell? (p.add j) = some v) :
    (execOp ρ op).run P w = .ok (.value (.agg cs.toArray)) w := by
  obtain ⟨⟨d, hu, hd⟩, hi⟩ := hr
  subst hn
  have hl : (loadCells p cs.length).run P w = .ok cs.toArray w := run_loadCells_list (P := P) w p cs hc
  have hv : (loadVar ty p).run P w = .ok (.agg cs.toArray) w := by
    cases hq : P.info? ty with
    | none => simp [hq] at hi
    | some i =>
      have hs : i.size = cs.length := by simpa [hq] using hi
      have hagg : (isAgg ty).run P w = .ok true w := by
        unfold isAgg
        rw [Sem.run_bind, run_underlying hu w]
        cases d <;> simp_all
      simp [loadVar, Sem.run_bind, hagg, sizeOf, typeInfo, hq, hs, hl]
  unfold execOp; rw [ho]
  simp only [hx, Instr.loadAt, Instr.sureAddr, Sem.run_bind, Sem.run_pure, Result.andThen_ok, hv]
theorem row51 : RowType Yba.prog 51 4 := RowType.mk' Yba.underlying51 rfl (by kernel_rfl)
theorem raw_one (g : Gr) : (rawC g).toArray.all (·.oneCell') = true := by simp [rawC, Value.oneCell']
theorem info55 : (Yba.prog.info? 55).map (fun i => (i.zero, i.size, i.bytes)) = some (some (.agg zero55), 4, 40) := by kernel_rfl
theorem run_mk55 {ρ : Operand → Value} {o : Oper} (x y : Operand) (ho : o.op = .makeSlice 49 x y) (n : Nat) (hn : n ≤ 1024) (hx : ρ x = .int .i64 n) (hy : ρ y = .int .i64 n) (w : World) :
    (execOp ρ o).run Yba.prog w = .ok (.value (.slice (some ⟨w.heap.size, 0, none⟩) n n)) (w.alloc (.cells (madeCells zero55 (n * 4)) 55)) := by
  obtain ⟨i0, hi, hz0, hz1, hz2⟩ := info_parts info55
  have h := run_make (P := Yba.prog) w 49 55 i0 _ Yba.underlying49 hi hz0 .i64 .i64 n n (by omega) (Int.le_refl _) (by rw [hz2]; omega) (by omega)
  rw [hz1] at h
  unfold execOp; rw [ho]; dsimp only; rw [hx, hy, Sem.run_bind, h]
  simp only [Result.andThen_ok, Int.toNat_natCast]
  rfl
/-- The copies made so far. -/
def GsTo (gb : Nat) (gl : List Gr) (i : Nat) (w : World) : Prop := ∃ cs, w.heap[gb]? = some (.cells cs 55 (0, 0)) ∧ cs.size = gl.length * 4 ∧ ∀ j g, j < i → gl[j]? = some g → cs[j * 4]? = some (.int .u64 (cut g).m) ∧ cs[j * 4 + 1]? = some (.int .u64 (cut g).k) ∧ cs[j * 4 + 2]? = some (.string g.s) ∧ cs[j * 4 + 3]? = some (.int .u64 g.f)
theorem GsTo.all {gb : Nat} {gl : List Gr} {w : World} (h : GsTo gb gl gl.length w) : GsAt gb (gl.map cut) w := by
  obtain ⟨cs, h1, h2, h3⟩ := h
  refine ⟨cs, h1, by rw [List.length_map]; exact h2, fun i g hg => ?_⟩
  rw [List.getElem?_map] at hg
  obtain ⟨g0, hg0, rfl⟩ := Option.map_eq_some_iff.1 hg
  exact h3 i g0 (List.getElem?_eq_some_iff.1 hg0).1 hg0
theorem four_get (cs : Array Value) (p : Nat) (a b c d : Value) (k : Nat) (h : p + 3 < cs.size) : ((((cs.setIfInBounds p a).setIfInBounds (p + 1) b).setIfInBounds (p + 2) c).setIfInBounds (p + 3) d)[k]? = if k = p then some a else if k = p + 1 then some b else if k = p + 2 then some c else if k = p + 3 then some d else cs[k]? := by
  simp only [Array.getElem?_setIfInBounds, Array.size_setIfInBounds]
  by_cases e0 : k = p
  · subst e0; simp; omega
  by_cases e1 : k = p + 1
  · subst e1; simp; omega
  by_cases e2 : k = p + 2
  · subst e2; simp; omega
  by_cases e3 : k = p + 3
  · subst e3; simp; omega
  simp [e0, e1, e2, e3, Ne.symm e0, Ne.symm e1, Ne.symm e2, Ne.symm e3]
theorem GsTo.step {gb : Nat} {gl : List Gr} {i : Nat} {w' : World} {cs : Array Value} (h2 : cs.size = gl.length * 4) (h3 : ∀ j g, j < i → gl[j]? = some g → cs[j * 4]? = some (.int .u64 (cut g).m) ∧ cs[j * 4 + 1]? = some (.int .u64 (cut g).k) ∧ cs[j * 4 + 2]? = some (.string g.s) ∧ cs[j * 4 + 3]? = some (.int .u64 g.f))
    (g : Gr) (hi : i < gl.length) (hg : gl[i]? = some g) (hw : w'.heap[gb]? = some (.cells ((((cs.setIfInBounds (i * 4) (.int .u64 (cut g).m)).setIfInBounds (i * 4 + 1) (.int .u64 (cut g).k)).setIfInBounds (i * 4 + 2) (.string g.s)).setIfInBounds (i * 4 + 3) (.int .u64 g.f)) 55 (0, 0))) : GsTo gb gl (i + 1) w' := by
  refine ⟨_, hw, by simp [h2], fun j g' hj hg' => ?_⟩
  have hb : i * 4 + 3 < cs.size := by omega
  simp only [four_get cs (i * 4) _ _ _ _ _ hb]
  by_cases e : j = i
  · subst e
    obtain rfl : g = g' := Option.some.inj (hg.symm.trans hg')
    simp
  · obtain ⟨a0, a1, a2, a3⟩ := h3 j g' (by omega) hg'
    refine ⟨?_, ?_, ?_, ?_⟩
    · rw [if_neg (by omega), if_neg (by omega), if_neg (by omega), if_neg (by omega)]; exact a0
    · rw [if_neg (by omega), if_neg (by omega), if_neg (by omega), if_neg (by omega)]; exact a1
    · rw [if_neg (by omega), if_neg (by omega), if_neg (by omega), if_neg (by omega)]; exact a2
    · rw [if_neg (by omega), if_neg (by omega), if_neg (by omega), if_neg (by omega)]; exact a3

set_option maxRecDepth 20000 in
set_option maxHeartbeats 800000 in
/-- One grant copied. -/
theorem b_round {Q : Exit → Act → World → Prop} (w0 wA : World) (h0A : Fr [] w0 wA) (H rs wt gb me : Nat) (hgb : wA.heap.size ≤ gb) (gl : List Gr) (hn : gl.length ≤ 1024) (ga : Option Addr) (gc : Nat) (hg0 : grantsAt ga gl w0) (a : Act) (W : World) (i : Nat) (hi : i < gl.length) (hK : Fm 280 [(81, .int .i64 i), (79, .slice ga gl.length gc), (80, .int .i64 gl.length), (7, .int .u64 (me : Nat)), (8, ptr H), (9, ptr rs), (10, ptr wt), (14, .slice (some ⟨gb, 0, none⟩) gl.length gl.length)] a) (hI : Fr [] wA W ∧ GsTo gb gl i W)
    (hQ : ∀ a W, Fm 280 [(81, .int .i64 i), (79, .slice ga gl.length gc), (80, .int .i64 gl.length), (7, .int .u64 (me : Nat)), (8, ptr H), (9, ptr rs), (10, ptr wt), (14, .slice (some ⟨gb, 0, none⟩) gl.length gl.length)] a → (Fr [] wA W ∧ GsTo gb gl (i + 1) W) → Q .normal a W) :
    Code.wp Yba.prog (codeOf Yba.f3 [1, 1, 1, 1, 1, 1, 1, 1, 0, 1, 5, 4, 1, 1, 0, 5]) Q a W := by
  have _used := hn
  obtain ⟨hF, cs, hcs, hsz, hall⟩ := hI
  obtain ⟨g, hg⟩ : ∃ g, gl[i]? = some g := ⟨gl[i], List.getElem?_eq_getElem hi⟩
  cases ga with
  | none => exact absurd (hg0.1 rfl) (by omega)
  | some ad =>
  have hcx := (hg0.keep (h0A.trans hF)).2 ad rfl i g hg
  show Code.wp _ (.seq (.region _ (opsOf Yba.f3 [1, 1, 1, 1, 1, 1, 1, 1, 0, 1, 5, 4, 1, 1, 0, 5, 0]) false) (.region _ (opsOf Yba.f3 [1, 1, 1, 1, 1, 1, 1, 1, 0, 1, 5, 4, 1, 1, 0, 5, 1]) false)) _ _ _
  refine srg ?_
  show wpList _ (opsOf Yba.f3 [1, 1, 1, 1, 1, 1, 1, 1, 0, 1, 5, 4, 1, 1, 0, 5, 0]) _ [opAt Yba.f3 [1, 1, 1, 1, 1, 1, 1, 1, 0, 1, 5, 4, 1, 1, 0, 5, 0] 0, opAt Yba.f3 [1, 1, 1, 1, 1, 1, 1, 1, 0, 1, 5, 4, 1, 1, 0, 5, 0] 1, opAt Yba.f3 [1, 1, 1, 1, 1, 1, 1, 1, 0, 1, 5, 4, 1, 1, 0, 5, 0] 2, opAt Yba.f3 [1, 1, 1, 1, 1, 1, 1, 1, 0, 1, 5, 4, 1, 1, 0, 5, 0] 3, opAt Yba.f3 [1, 1, 1, 1, 1, 1, 1, 1, 0, 1, 5, 4, 1, 1, 0, 5, 0] 4, opAt Yba.f3 [1, 1, 1, 1, 1, 1, 1, 1, 0, 1, 5, 4, 1, 1, 0, 5, 0] 5] _ _
  refine stMv hK (wn rfl) rfl rfl rfl (by decide) fun a hK => ?_
  refine st hK (wn rfl) (run_idxA 24 51 _ _ rfl Yba.underlying24 ad gl.length gc (hK.op rfl) i (hK.op rfl) hi 4 (fun w => by kernel_rfl) _) rfl (by decide) fun a hK => ?_
  refine st hK (wn rfl) (run_load_any 51 _ rfl _ (hK.op rfl) (rawC g) 4 rfl row51 _ hcx) rfl (by decide) fun a hK => ?_
  refine st hK (wn rfl) (run_allocOp 51 rfl zero55 _ (by kernel_rfl)) rfl (by decide) fun a hK => ?_
  refine stAs hK (wn rfl) rfl rfl rfl (by decide) fun a hK => ?_
  refine stNs (c' := (rawC g).toArray) hK rfl rfl rfl rfl (by kernel_rfl) rfl (raw_one _) rfl ?_
  have hA : Fr [] W (W.alloc (.cells (rawC g).toArray 51)) := (Fr.refl _ _).alloc _
  have hcp : (W.alloc (.cells (rawC g).toArray 51)).heap[W.heap.size]? = some (.cells (rawC g).toArray 51 (0, 0)) := heap_alloc_new _ _
  have hcs1 := hA.keep hcs (by simp)
  generalize hcb : W.heap.size = cb at hK hcp
  generalize W.alloc (.cells (rawC g).toArray 51) = W1 at hA hcp hcs1
  have hK : Fm 280 [(16, ptr cb), (15, .int .i64 i), (81, .int .i64 i), (79, .slice (some ad) gl.length gc), (80, .int .i64 gl.length), (7, .int .u64 (me : Nat)), (8, ptr H), (9, ptr rs), (10, ptr wt), (14, .slice (some ⟨gb, 0, none⟩) gl.length gl.length)] a := hK.sub _ (by repeat (first | exact trivial | refine ⟨rfl, ?_⟩))
  show Code.wp _ (.region _ (opsOf Yba.f3 [1, 1, 1, 1, 1, 1, 1, 1, 0, 1, 5, 4, 1, 1, 0, 5, 1]) false) _ _ _
  refine wp_region_list ?_
  show wpList _ (opsOf Yba.f3 [1, 1, 1, 1, 1, 1, 1, 1, 0, 1, 5, 4, 1, 1, 0, 5, 1]) _ [opAt Yba.f3 [1, 1, 1, 1, 1, 1, 1, 1, 0, 1, 5, 4, 1, 1, 0, 5, 1] 0, opAt Yba.f3 [1, 1, 1, 1, 1, 1, 1, 1, 0, 1, 5, 4, 1, 1, 0, 5, 1] 1, opAt Yba.f3 [1, 1, 1, 1, 1, 1, 1, 1, 0, 1, 5, 4, 1, 1, 0, 5, 1] 2, opAt Yba.f3 [1, 1, 1, 1, 1, 1, 1, 1, 0, 1, 5, 4, 1, 1, 0, 5, 1] 3, opAt Yba.f3 [1, 1, 1, 1, 1, 1, 1, 1, 0, 1, 5, 4, 1, 1, 0, 5, 1] 4, opAt Yba.f3 [1, 1, 1, 1, 1, 1, 1, 1, 0, 1, 5, 4, 1, 1, 0, 5, 1] 5, opAt Yba.f3 [1, 1, 1, 1, 1, 1, 1, 1, 0, 1, 5, 4, 1, 1, 0, 5, 1] 6, opAt Yba.f3 [1, 1, 1, 1, 1, 1, 1, 1, 0, 1, 5, 4, 1, 1, 0, 5, 1] 7, opAt Yba.f3 [1, 1, 1, 1, 1, 1, 1, 1, 0, 1, 5, 4, 1, 1, 0, 5, 1] 8, opAt Yba.f3 [1, 1, 1, 1, 1, 1, 1, 1, 0, 1, 5, 4, 1, 1, 0, 5, 1] 9, opAt Yba.f3 [1, 1, 1, 1, 1, 1, 1, 1, 0, 1, 5, 4, 1, 1, 0, 5, 1] 10, opAt Yba.f3 [1, 1, 1, 1, 1, 1, 1, 1, 0, 1, 5, 4, 1, 1, 0, 5, 1] 11, opAt Yba.f3 [1, 1, 1, 1, 1, 1, 1, 1, 0, 1, 5, 4, 1, 1, 0, 5, 1] 12, opAt Yba.f3 [1, 1, 1, 1, 1, 1, 1, 1, 0, 1, 5, 4, 1, 1, 0, 5, 1] 13, opAt Yba.f3 [1, 1, 1, 1, 1, 1, 1, 1, 0, 1, 5, 4, 1, 1, 0, 5, 1] 14, opAt Yba.f3 [1, 1, 1, 1, 1, 1, 1, 1, 0, 1, 5, 4, 1, 1, 0, 5, 1] 15] _ _
  refine stMv hK (wn rfl) rfl rfl rfl (by decide) fun a hK => ?_
  refine stMv hK (wn rfl) rfl rfl rfl (by decide) fun a hK => ?_
  refine stFa hK (wn rfl) rfl rfl 0 (fun b w => by kernel_rfl) rfl (by decide) fun a hK => ?_
  refine stLd hK (wn rfl) rfl rfl ((cell_at hcp 0).trans rfl) (fun w => by kernel_rfl) rfl (by decide) fun a hK => ?_
  refine stBin hK (wn rfl) rfl rfl rfl (u_rem3) rfl (by decide) fun a hK => ?_
  refine stFa hK (wn rfl) rfl rfl 1 (fun b w => by kernel_rfl) rfl (by decide) fun a hK => ?_
  refine stLd hK (wn rfl) rfl rfl ((cell_at hcp 1).trans rfl) (fun w => by kernel_rfl) rfl (by decide) fun a hK => ?_
  refine stBin hK (wn rfl) rfl rfl rfl (u_rem8) rfl (by decide) fun a hK => ?_
  refine stBuild hK (wn rfl) rfl rfl ((by kernel_rfl : _ = Result.ok (Value.agg #[.int .u64 ((g.m % 3 : Nat) : Int), .int .u64 ((g.k % 8 : Nat) : Int)]) _)) rfl (by decide) fun a hK => ?_
  refine stFa hK (wn rfl) rfl rfl 2 (fun b w => by kernel_rfl) rfl (by decide) fun a hK => ?_
  refine stLd hK (wn rfl) rfl rfl ((cell_at hcp 2).trans rfl) (fun w => by kernel_rfl) rfl (by decide) fun a hK => ?_
  refine stFa hK (wn rfl) rfl rfl 3 (fun b w => by kernel_rfl) rfl (by decide) fun a hK => ?_
  refine stLd hK (wn rfl) rfl rfl ((cell_at hcp 3).trans rfl) (fun w => by kernel_rfl) rfl (by decide) fun a hK => ?_
  refine stBuild hK (wn rfl) rfl rfl ((by kernel_rfl : _ = Result.ok (Value.agg #[.int .u64 ((g.m % 3 : Nat) : Int), .int .u64 ((g.k % 8 : Nat) : Int), .string g.s, .int .u64 g.f]) _)) rfl (by decide) fun a hK => ?_
  refine st hK (wn rfl) (run_idxS 49 55 _ _ rfl Yba.underlying49 gb 0 gl.length gl.length (hK.op rfl) i (hK.op rfl) hi 4 (fun w => by kernel_rfl) _) rfl (by decide) fun a hK => ?_
  rw [Nat.zero_add] at hK
  refine stStore4 hK rfl rfl rfl rfl (by kernel_rfl) rfl rfl rfl rfl hcs1 (by omega) rfl fun W2 f2 hcs2 => ?_
  have := hF.size
  exact hQ a W2 (hK.sub _ (by repeat (first | exact trivial | refine ⟨rfl, ?_⟩))) ⟨(hF.trans hA).andThen f2 (by simp; omega), GsTo.step hsz hall g hi hg hcs2⟩

set_option maxRecDepth 20000 in
theorem b_loop {Q : Exit → Act → World → Prop} (w0 wA : World) (h0A : Fr [] w0 wA) (H rs wt gb me : Nat) (hgb : wA.heap.size ≤ gb) (gl : List Gr) (hn : gl.length ≤ 1024) (ga : Option Addr) (gc : Nat) (hg0 : grantsAt ga gl w0) (a : Act) (W : World) (hK : Fm 280 [(2, .slice ga gl.length gc), (7, .int .u64 (me : Nat)), (8, ptr H), (9, ptr rs), (10, ptr wt), (14, .slice (some ⟨gb, 0, none⟩) gl.length gl.length)] a) (hI : Fr [] wA W ∧ GsTo gb gl 0 W)
    (hx : ∀ a W, Fm 280 [(7, .int .u64 (me : Nat)), (8, ptr H), (9, ptr rs), (10, ptr wt), (14, .slice (some ⟨gb, 0, none⟩) gl.length gl.length)] a → Fr [] wA W → GsAt gb (gl.map cut) W → Code.wp Yba.prog (codeOf Yba.f3 [1, 1, 1, 1, 1, 1, 1, 1, 1]) Q a W) :
    Code.wp Yba.prog (codeOf Yba.f3 [1, 1, 1, 1, 1, 1, 1, 1]) Q a W := by
  show Code.wp _ (.seq (.seq (.region _ (opsOf Yba.f3 [1, 1, 1, 1, 1, 1, 1, 1, 0, 0]) false) (.block 2 (.loop (codeOf Yba.f3 [1, 1, 1, 1, 1, 1, 1, 1, 0, 1, 5, 4])))) (codeOf Yba.f3 [1, 1, 1, 1, 1, 1, 1, 1, 1])) _ _ _
  refine wp_seq (srg ?_)
  show wpList _ (opsOf Yba.f3 [1, 1, 1, 1, 1, 1, 1, 1, 0, 0]) _ [opAt Yba.f3 [1, 1, 1, 1, 1, 1, 1, 1, 0, 0] 0, opAt Yba.f3 [1, 1, 1, 1, 1, 1, 1, 1, 0, 0] 1, opAt Yba.f3 [1, 1, 1, 1, 1, 1, 1, 1, 0, 0] 2] _ _
  refine stMv hK (wn rfl) rfl rfl rfl (by decide) fun a hK => ?_
  refine stLenS hK (wn rfl) rfl Yba.underlying24 rfl rfl (by decide) fun a hK => ?_
  refine stMv hK (wn rfl) rfl rfl rfl (by decide) fun a hK => ?_
  show Code.wp _ (.block 2 (.loop (codeOf Yba.f3 [1, 1, 1, 1, 1, 1, 1, 1, 0, 1, 5, 4]))) _ _ _
  refine wp_block (wp_loop (fun a W => ∃ i : Nat, i ≤ gl.length ∧ Fm 280 [(81, .int .i64 i), (79, .slice ga gl.length gc), (80, .int .i64 gl.length), (7, .int .u64 (me : Nat)), (8, ptr H), (9, ptr rs), (10, ptr wt), (14, .slice (some ⟨gb, 0, none⟩) gl.length gl.length)] a ∧ Fr [] wA W ∧ GsTo gb gl i W) (fun a _ => gl.length - (intOf (a.eval (.tmp 81))).toNat) ⟨0, Nat.zero_le _, hK.sub _ (by repeat (first | exact trivial | refine ⟨rfl, ?_⟩)), hI⟩ ?_)
  rintro a W ⟨i, hi, hK, hI⟩
  have him : (intOf (a.eval (.tmp 81))).toNat = i := by rw [hK.get 81 (.int .i64 i) rfl]; simp [intOf]
  show Code.wp _ (.seq (.region _ (opsOf Yba.f3 [1, 1, 1, 1, 1, 1, 1, 1, 0, 1, 5, 4, 0]) false) (.seq (.cond (.tmp 82) .skip (.exit 2)) (.seq (.block 3 (codeOf Yba.f3 [1, 1, 1, 1, 1, 1, 1, 1, 0, 1, 5, 4, 1, 1, 0, 5])) (.region _ (opsOf Yba.f3 [1, 1, 1, 1, 1, 1, 1, 1, 0, 1, 5, 4, 1, 1, 1]) false)))) _ _ _
  refine srg ?_
  show wpList _ (opsOf Yba.f3 [1, 1, 1, 1, 1, 1, 1, 1, 0, 1, 5, 4, 0]) _ [opAt Yba.f3 [1, 1, 1, 1, 1, 1, 1, 1, 0, 1, 5, 4, 0] 0] _ _
  by_cases hlt : i < gl.length
  · refine stBin hK (wn rfl) rfl rfl rfl (i_lt (r := true) (decide_eq_true (by omega))) rfl (by decide) fun a hK => ?_
    refine wp_seq (wp_cond_true (hK.op rfl) (wp_skip ?_))
    refine wp_seq (wp_block ?_)
    refine b_round w0 wA h0A H rs wt gb me hgb gl hn ga gc hg0 a W i hlt (hK.sub _ (by repeat (first | exact trivial | refine ⟨rfl, ?_⟩))) hI fun a W hK hI => ?_
    show Code.wp _ (.region _ (opsOf Yba.f3 [1, 1, 1, 1, 1, 1, 1, 1, 0, 1, 5, 4, 1, 1, 1]) false) _ _ _
    refine wp_region_list ?_
    show wpList _ (opsOf Yba.f3 [1, 1, 1, 1, 1, 1, 1, 1, 0, 1, 5, 4, 1, 1, 1]) _ [opAt Yba.f3 [1, 1, 1, 1, 1, 1, 1, 1, 0, 1, 5, 4, 1, 1, 1] 0, opAt Yba.f3 [1, 1, 1, 1, 1, 1, 1, 1, 0, 1, 5, 4, 1, 1, 1] 1] _ _
    refine stBin hK (wn rfl) rfl rfl rfl (i_add (y := ((i + 1 : Nat) : Int)) (by omega) (by omega) (by omega)) rfl (by decide) fun a hK => ?_
    refine stMv hK (wn rfl) rfl rfl rfl (by decide) fun a hK => ?_
    refine ⟨⟨i + 1, hlt, hK.sub _ (by repeat (first | exact trivial | refine ⟨rfl, ?_⟩)), hI⟩, ?_⟩
    show gl.length - (intOf (a.eval (.tmp 81))).toNat < _
    rw [hK.get 81 (.int .i64 ((i + 1 : Nat) : Int)) rfl, him]
    simp only [intOf, Int.toNat_natCast]; omega
  · refine stBin hK (wn rfl) rfl rfl rfl (i_lt (r := false) (decide_eq_false (by omega))) rfl (by decide) fun a hK => ?_
    refine wp_seq (wp_cond_false (hK.op rfl) (wp_exit ?_))
    obtain rfl : i = gl.length := by omega
    exact hx a W (hK.sub _ (by repeat (first | exact trivial | refine ⟨rfl, ?_⟩))) hI.1 hI.2.all

/-- How it stands once the grants are handed out. -/
structure BS (w0 : World) (R : Nat → Option Nat) (L : Nat → Nat) (H wm hm rs wt gb : Nat) (gs : List Gr) (S : PS) (W : World) : Prop where
  fr : Fr [] w0 W
  hs : HS R L H wm hm S W
  rsb : W.heap[rs]? = some (.cells (arr8 fun k => rp (R k)) 29 (0, 0))
  wtb : W.heap[wt]? = some (.cells (arr8 fun k => .bool (R k).isSome) 30 (0, 0))
  gsb : GsAt gb gs W
  dom : ∀ k c, R k = some c → k < 8
theorem BS.keep {w0 : World} {R : Nat → Option Nat} {L : Nat → Nat} {H wm hm rs wt gb : Nat} {gs : List Gr} {S : PS} {W W' : World} (h : BS w0 R L H wm hm rs wt gb gs S W) (f : Fr [] W W') : BS w0 R L H wm hm rs wt gb gs S W' := by
  refine ⟨h.fr.trans f, h.hs.keep f, f.keep h.rsb (by simp), f.keep h.wtb (by simp), ?_, h.dom⟩
  obtain ⟨cs, h1, h2, h3⟩ := h.gsb
  exact ⟨cs, f.keep h1 (by simp), h2, h3⟩

set_option maxRecDepth 20000 in
set_option maxHeartbeats 800000 in
/-- From the requests laid to the grants handed out. -/
theorem b_all {Q : Exit → Act → World → Prop} (w0 : World) (H wm hm rs wt idn me : Nat) (hlo : w0.heap.size ≤ wm ∧ w0.heap.size ≤ hm) (hwh : wm ≠ hm) (gl : List Gr) (hn : gl.length ≤ 1024) (ga : Option Addr) (gc : Nat) (hg0 : grantsAt ga gl w0) (a : Act) (W : World) (hK : Fm 280 [(0, .int .u64 (idn : Nat)), (2, .slice ga gl.length gc), (7, .int .u64 (me : Nat)), (8, ptr H), (9, ptr rs), (10, ptr wt)] a) (hI : ∃ R, AS w0 R H wm hm rs wt W)
    (hx : ∀ R L gb a W, Fm 280 [(7, .int .u64 (me : Nat)), (8, ptr H), (9, ptr rs), (10, ptr wt), (14, .slice (some ⟨gb, 0, none⟩) gl.length gl.length)] a → BS w0 R L H wm hm rs wt gb (gl.map cut) (runG (fun k => (R k).isSome) me (gl.map cut)) W → Code.wp Yba.prog (codeOf Yba.f3 [1, 1, 1, 1, 1, 1, 1, 1, 1, 1, 1]) Q a W) :
    Code.wp Yba.prog (codeOf Yba.f3 [1, 1, 1, 1, 1, 1, 1]) Q a W := by
  obtain ⟨R, hA⟩ := hI
  show Code.wp _ (.seq (.region _ (opsOf Yba.f3 [1, 1, 1, 1, 1, 1, 1, 0]) false) (codeOf Yba.f3 [1, 1, 1, 1, 1, 1, 1, 1])) _ _ _
  refine srg ?_
  show wpList _ (opsOf Yba.f3 [1, 1, 1, 1, 1, 1, 1, 0]) _ [opAt Yba.f3 [1, 1, 1, 1, 1, 1, 1, 0] 0, opAt Yba.f3 [1, 1, 1, 1, 1, 1, 1, 0] 1, opAt Yba.f3 [1, 1, 1, 1, 1, 1, 1, 0] 2, opAt Yba.f3 [1, 1, 1, 1, 1, 1, 1, 0] 3] _ _
  refine stMv hK (wn rfl) rfl rfl rfl (by decide) fun a hK => ?_
  refine stLenS hK (wn rfl) rfl Yba.underlying24 rfl rfl (by decide) fun a hK => ?_
  refine st hK (wn rfl) (run_mk55 _ _ rfl gl.length hn (hK.op rfl) (hK.op rfl) _) rfl (by decide) fun a hK => ?_
  refine stAs hK (wn rfl) rfl rfl rfl (by decide) fun a hK => ?_
  show Code.wp _ (codeOf Yba.f3 [1, 1, 1, 1, 1, 1, 1, 1]) _ _ _
  refine b_loop w0 W hA.fr H rs wt W.heap.size me (Nat.le_refl _) gl hn ga gc hg0 a _ (hK.sub _ (by repeat (first | exact trivial | refine ⟨rfl, ?_⟩))) ⟨(Fr.refl _ _).alloc _, _, heap_alloc_new _ _, size_madeCells _ _, fun j g hj => by omega⟩ fun a W1 hK hF1 hgs => ?_
  have hA1 := hA.keep hF1
  generalize W.heap.size = gb at hK hgs
  show Code.wp _ (.seq (.region _ (opsOf Yba.f3 [1, 1, 1, 1, 1, 1, 1, 1, 1, 0]) false) (codeOf Yba.f3 [1, 1, 1, 1, 1, 1, 1, 1, 1, 1])) _ _ _
  refine srg ?_
  show wpList _ (opsOf Yba.f3 [1, 1, 1, 1, 1, 1, 1, 1, 1, 0]) _ [opAt Yba.f3 [1, 1, 1, 1, 1, 1, 1, 1, 1, 0] 0, opAt Yba.f3 [1, 1, 1, 1, 1, 1, 1, 1, 1, 0] 1, opAt Yba.f3 [1, 1, 1, 1, 1, 1, 1, 1, 1, 0] 2, opAt Yba.f3 [1, 1, 1, 1, 1, 1, 1, 1, 1, 0] 3, opAt Yba.f3 [1, 1, 1, 1, 1, 1, 1, 1, 1, 0] 4] _ _
  refine stMv hK (wn rfl) rfl rfl rfl (by decide) fun a hK => ?_
  refine stMv hK (wn rfl) rfl rfl rfl (by decide) fun a hK => ?_
  refine stBuild hK (wn rfl) rfl rfl ((by kernel_rfl : _ = Result.ok (Value.agg (nodeC me H)) _)) rfl (by decide) fun a hK => ?_
  refine st hK (wn rfl) (run_boxOp 104 _ rfl (nodeC me H) (hK.op rfl) _) rfl (by decide) fun a hK => ?_
  refine stAs hK (wn rfl) rfl rfl rfl (by decide) fun a hK => ?_
  show Code.wp _ (codeOf Yba.f3 [1, 1, 1, 1, 1, 1, 1, 1, 1, 1]) _ _ _
  have hF2 : Fr [] W1 (W1.alloc (.cells (nodeC me H) 104)) := (Fr.refl _ _).alloc _
  have hnb : (W1.alloc (.cells (nodeC me H) 104)).heap[W1.heap.size]? = some (.cells (nodeC me H) 104 (0, 0)) := heap_alloc_new _ _
  have hA2 := hA1.keep hF2
  have hgs2 : GsAt gb (gl.map cut) (W1.alloc (.cells (nodeC me H) 104)) := by
    obtain ⟨cs, h1, h2, h3⟩ := hgs
    exact ⟨cs, hF2.keep h1 (by simp), h2, h3⟩
  generalize W1.heap.size = nb at hK hnb
  generalize W1.alloc (.cells (nodeC me H) 104) = W2 at hA2 hnb hgs2
  show Code.wp _ (.seq (.region _ (opsOf Yba.f3 [1, 1, 1, 1, 1, 1, 1, 1, 1, 1, 0]) false) (codeOf Yba.f3 [1, 1, 1, 1, 1, 1, 1, 1, 1, 1, 1])) _ _ _
  refine srg ?_
  show wpList _ (opsOf Yba.f3 [1, 1, 1, 1, 1, 1, 1, 1, 1, 1, 0]) _ [opAt Yba.f3 [1, 1, 1, 1, 1, 1, 1, 1, 1, 1, 0] 0, opAt Yba.f3 [1, 1, 1, 1, 1, 1, 1, 1, 1, 1, 0] 1, opAt Yba.f3 [1, 1, 1, 1, 1, 1, 1, 1, 1, 1, 0] 2] _ _
  refine stMv hK (wn rfl) rfl rfl rfl (by decide) fun a hK => ?_
  refine stMv hK (wn rfl) rfl rfl rfl (by decide) fun a hK => ?_
  refine stCall hK rfl rfl rfl (R := fun v w' => v = .tuple #[] ∧ ∃ L, HS R L H wm hm (runG (fun k => (R k).isSome) me (gl.map cut)) w' ∧ FrP (Touch R wm hm) W2 w') (fun w => by kernel_rfl) ?_ rfl (by decide) fun v a W3 hR hK => ?_
  · have := node_granted W2 R hA2.inj H wm hm nb gb me hwh (nodeC me H) hnb rfl rfl (gl.map cut) (by simpa using hn) hgs2 _ hA2.hs
    rw [List.length_map] at this
    exact this.mono fun e w' ⟨he, h⟩ => ⟨_, he, rfl, h⟩
  obtain ⟨rfl, L, hHS, hFP⟩ := hR
  have hlow : ∀ j, Touch R wm hm j → w0.heap.size ≤ j ∨ j ∈ ([] : List Nat) := by
    rintro j (rfl | rfl | ⟨k, c, hk, rfl | rfl⟩)
    · exact Or.inl hlo.1
    · exact Or.inl hlo.2
    · exact Or.inl (hA2.low k j hk)
    · have := hA2.low k c hk; exact Or.inl (by omega)
  show Code.wp _ (codeOf Yba.f3 [1, 1, 1, 1, 1, 1, 1, 1, 1, 1, 1]) _ _ _
  refine hx R L gb a W3 (hK.sub _ (by repeat (first | exact trivial | refine ⟨rfl, ?_⟩))) ⟨hFP.fr hA2.fr hlow, hHS, hFP.keep hA2.rsb (hA2.hs.untouched hA2.rsb (by decide)), hFP.keep hA2.wtb (hA2.hs.untouched hA2.wtb (by decide)), ?_, hA2.dom⟩
  obtain ⟨cs, h1, h2, h3⟩ := hgs2
  exact ⟨cs, hFP.keep h1 (hA2.hs.untouched h1 (by decide)), h2, h3⟩

end Go.Proofs.Ybulkaevs
