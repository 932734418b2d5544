import Derived.Test.YbulkaevsLawD
namespace Go.Proofs.Ybulkaevs
open Go.RowKit
theorem zero22 (w : World) : (zeroValue 22).run Yba.prog w = .ok (.int .u64 0) w := by kernel_rfl
def zero112 : Array Value := #[.int .u64 0, .chan none]
theorem zeroV112 (w : World) : (zeroValue 112).run Yba.prog w = .ok (.agg zero112) w := by kernel_rfl
theorem wp_storeNew {P : Program} {o : Oper} {a : Act} {w : World} {K' : Act → World → Prop} {Q : Exit → Act → World → Prop} (t : TypeId) (x y : Operand) (ho : o.op = .store t x y) (c c' : Array Value)
    (hx : a.eval x = .pointer (some ⟨w.heap.size, 0, none⟩)) (hy : a.eval y = .agg c') (hi : (P.info? t).map (·.size) = some c'.size) (hc : c.size = c'.size) (h1 : c'.all (·.oneCell') = true) (hd : o.dst = none)
    (h : K' a (w.alloc (.cells c' t))) : o.wp P a (w.alloc (.cells c t)) K' Q := by
  unfold Oper.wp execOp
  simp only [ho, hx, hy, Sem.run_bind, run_storeAt_new w t c c' hi hc h1, Result.andThen_ok]
  show K' (a.put o.dst undef) _
  rw [hd]; exact h
theorem SM.size {es : Array MapEntry} {l : List (ByteArray × Value)} (h : SM es l) : es.size = l.length := Ent.size h

set_option maxRecDepth 20000 in
set_option maxHeartbeats 1600000 in
/-- One grant's name looked at. -/
theorem e_round {Q : Exit → Act → World → Prop} (w0 wB : World) (R : Nat → Option Nat) (L : Nat → Nat) (H wm hm rs wt gb : Nat) (gs : List Gr) (hn : gs.length ≤ 1024) (S : PS) (hPI : PInv (fun k => (R k).isSome) S) (gt gn gf sm : Nat) (hP : ∀ c a d v w, Q (.panic c) (Act.put a d v) w → Q (.panic c) a w) (a : Act) (W : World) (i : Nat) (hi : i < gs.length) (hK : Fm 280 [(236, .int .i64 i), (234, .slice (some ⟨gb, 0, none⟩) gs.length gs.length), (235, .int .i64 gs.length), (8, ptr H), (9, ptr rs), (21, .map (some sm))] a) (hI : BS w0 R L H wm hm rs wt gb gs S W ∧ CS wB gt gn gf sm S W)
    (hQ : ∀ a W, Fm 280 [(236, .int .i64 i), (234, .slice (some ⟨gb, 0, none⟩) gs.length gs.length), (235, .int .i64 gs.length), (8, ptr H), (9, ptr rs), (21, .map (some sm))] a → (BS w0 R L H wm hm rs wt gb gs S W ∧ CS wB gt gn gf sm S W) → Q .normal a W) (hE : ∀ a W, Fm 280 [(236, .int .i64 i), (234, .slice (some ⟨gb, 0, none⟩) gs.length gs.length), (235, .int .i64 gs.length), (8, ptr H), (9, ptr rs), (21, .map (some sm))] a → (BS w0 R L H wm hm rs wt gb gs S W ∧ CS wB gt gn gf sm S W) → Q (.exit 9) a W) :
    Code.wp Yba.prog (codeOf Yba.f3 [1, 1, 1, 1, 1, 1, 1, 1, 1, 1, 1, 1, 1, 1, 1, 1, 1, 1, 0, 1, 5, 4, 1, 1, 0, 5]) Q a W := by
  have _used := hn
  obtain ⟨hB, hC⟩ := hI
  obtain ⟨g, hg⟩ : ∃ g, gs[i]? = some g := ⟨gs[i], List.getElem?_eq_getElem hi⟩
  show Code.wp _ (.seq (.region _ (opsOf Yba.f3 [1, 1, 1, 1, 1, 1, 1, 1, 1, 1, 1, 1, 1, 1, 1, 1, 1, 1, 0, 1, 5, 4, 1, 1, 0, 5, 0]) false) (codeOf Yba.f3 [1, 1, 1, 1, 1, 1, 1, 1, 1, 1, 1, 1, 1, 1, 1, 1, 1, 1, 0, 1, 5, 4, 1, 1, 0, 5, 1])) _ _ _
  refine srg ?_
  show wpList _ (opsOf Yba.f3 [1, 1, 1, 1, 1, 1, 1, 1, 1, 1, 1, 1, 1, 1, 1, 1, 1, 1, 0, 1, 5, 4, 1, 1, 0, 5, 0]) _ [opAt Yba.f3 [1, 1, 1, 1, 1, 1, 1, 1, 1, 1, 1, 1, 1, 1, 1, 1, 1, 1, 0, 1, 5, 4, 1, 1, 0, 5, 0] 0, opAt Yba.f3 [1, 1, 1, 1, 1, 1, 1, 1, 1, 1, 1, 1, 1, 1, 1, 1, 1, 1, 0, 1, 5, 4, 1, 1, 0, 5, 0] 1, opAt Yba.f3 [1, 1, 1, 1, 1, 1, 1, 1, 1, 1, 1, 1, 1, 1, 1, 1, 1, 1, 0, 1, 5, 4, 1, 1, 0, 5, 0] 2, opAt Yba.f3 [1, 1, 1, 1, 1, 1, 1, 1, 1, 1, 1, 1, 1, 1, 1, 1, 1, 1, 0, 1, 5, 4, 1, 1, 0, 5, 0] 3] _ _
  refine st hK (wn rfl) (run_idxS 49 55 _ _ rfl Yba.underlying49 gb 0 gs.length gs.length (hK.op rfl) i (hK.op rfl) hi 4 (fun w => by kernel_rfl) _) rfl (by decide) fun a hK => ?_
  refine stLr hK (wn rfl) rfl rfl (by rfl) row55 ((show W.rangeAt gb (0 + i * 4) (grantC g.m g.k g.s g.f).toList from by rw [Nat.zero_add]; exact hB.gsb.range hg)) rfl (by decide) fun a hK => ?_
  refine st hK (wn rfl) (run_allocOp 55 rfl zero55 _ (by kernel_rfl)) rfl (by decide) fun a hK => ?_
  refine stNs (c' := grantC g.m g.k g.s g.f) hK rfl rfl rfl rfl (by kernel_rfl) rfl (grant_one _ _ _ _) rfl ?_
  have hA : Fr [] W (W.alloc (.cells (grantC g.m g.k g.s g.f) 55)) := (Fr.refl _ _).alloc _
  have hcp : (W.alloc (.cells (grantC g.m g.k g.s g.f) 55)).heap[W.heap.size]? = some (.cells (grantC g.m g.k g.s g.f) 55 (0, 0)) := heap_alloc_new _ _
  have hB := hB.keep hA
  have hC := hC.keep hA
  generalize hcb : W.heap.size = cb at hK hcp
  generalize W.alloc (.cells (grantC g.m g.k g.s g.f) 55) = W1 at hA hcp hB hC
  have hK : Fm 280 [(32, ptr cb), (236, .int .i64 i), (234, .slice (some ⟨gb, 0, none⟩) gs.length gs.length), (235, .int .i64 gs.length), (8, ptr H), (9, ptr rs), (21, .map (some sm))] a := hK.sub _ (by repeat (first | exact trivial | refine ⟨rfl, ?_⟩))
  obtain ⟨es1, c1, hsm, hSM⟩ := hC.smb
  have hget1 : getA (S.held.map fun p => (p.1, Value.int .u64 (p.2 : Nat))) g.s = (getA S.held g.s).map fun k : Nat => Value.int .u64 (k : Int) := getA_map (fun k : Nat => Value.int .u64 (k : Int)) S.held g.s
  show Code.wp _ (.seq (.region _ (opsOf Yba.f3 [1, 1, 1, 1, 1, 1, 1, 1, 1, 1, 1, 1, 1, 1, 1, 1, 1, 1, 0, 1, 5, 4, 1, 1, 0, 5, 1, 0]) false) (codeOf Yba.f3 [1, 1, 1, 1, 1, 1, 1, 1, 1, 1, 1, 1, 1, 1, 1, 1, 1, 1, 0, 1, 5, 4, 1, 1, 0, 5, 1, 1])) _ _ _
  refine srg ?_
  show wpList _ (opsOf Yba.f3 [1, 1, 1, 1, 1, 1, 1, 1, 1, 1, 1, 1, 1, 1, 1, 1, 1, 1, 0, 1, 5, 4, 1, 1, 0, 5, 1, 0]) _ [opAt Yba.f3 [1, 1, 1, 1, 1, 1, 1, 1, 1, 1, 1, 1, 1, 1, 1, 1, 1, 1, 0, 1, 5, 4, 1, 1, 0, 5, 1, 0] 0, opAt Yba.f3 [1, 1, 1, 1, 1, 1, 1, 1, 1, 1, 1, 1, 1, 1, 1, 1, 1, 1, 0, 1, 5, 4, 1, 1, 0, 5, 1, 0] 1, opAt Yba.f3 [1, 1, 1, 1, 1, 1, 1, 1, 1, 1, 1, 1, 1, 1, 1, 1, 1, 1, 0, 1, 5, 4, 1, 1, 0, 5, 1, 0] 2, opAt Yba.f3 [1, 1, 1, 1, 1, 1, 1, 1, 1, 1, 1, 1, 1, 1, 1, 1, 1, 1, 0, 1, 5, 4, 1, 1, 0, 5, 1, 0] 3, opAt Yba.f3 [1, 1, 1, 1, 1, 1, 1, 1, 1, 1, 1, 1, 1, 1, 1, 1, 1, 1, 0, 1, 5, 4, 1, 1, 0, 5, 1, 0] 4, opAt Yba.f3 [1, 1, 1, 1, 1, 1, 1, 1, 1, 1, 1, 1, 1, 1, 1, 1, 1, 1, 0, 1, 5, 4, 1, 1, 0, 5, 1, 0] 5, opAt Yba.f3 [1, 1, 1, 1, 1, 1, 1, 1, 1, 1, 1, 1, 1, 1, 1, 1, 1, 1, 0, 1, 5, 4, 1, 1, 0, 5, 1, 0] 6, opAt Yba.f3 [1, 1, 1, 1, 1, 1, 1, 1, 1, 1, 1, 1, 1, 1, 1, 1, 1, 1, 0, 1, 5, 4, 1, 1, 0, 5, 1, 0] 7, opAt Yba.f3 [1, 1, 1, 1, 1, 1, 1, 1, 1, 1, 1, 1, 1, 1, 1, 1, 1, 1, 0, 1, 5, 4, 1, 1, 0, 5, 1, 0] 8] _ _
  refine stMv hK (wn rfl) rfl rfl rfl (by decide) fun a hK => ?_
  refine stFa hK (wn rfl) rfl rfl 2 (fun b w => by kernel_rfl) rfl (by decide) fun a hK => ?_
  refine stLd hK (wn rfl) rfl rfl ((cell_at hcp 2).trans (rfl : _ = some (Value.string g.s))) (fun w => by kernel_rfl) rfl (by decide) fun a hK => ?_
  cases hgk : getA S.held g.s with
  | none =>
    refine st hK (wn rfl) (run_look 108 _ _ true rfl (hK.op rfl) (hK.op rfl) _ ((sm_look Yba.underlying108 Yba.underlying9 (.int .u64 0) zero22 hSM hsm g.s).trans (by rw [hget1, hgk]; rfl : _ = Result.ok (Value.tuple #[.int .u64 0, .bool false]) _))) rfl (by decide) fun a hK => ?_
    refine stMv hK (wn rfl) rfl rfl rfl (by decide) fun a hK => ?_
    refine st hK (wn rfl) (run_ext0 _ rfl (hK.op rfl) _) rfl (by decide) fun a hK => ?_
    refine st hK (wn rfl) (run_ext1 _ rfl (hK.op rfl) _) rfl (by decide) fun a hK => ?_
    refine stAs hK (wn rfl) rfl rfl rfl (by decide) fun a hK => ?_
    refine stAs hK (wn rfl) rfl rfl rfl (by decide) fun a hK => ?_
    show Code.wp _ (.seq (.seq (.region _ (opsOf Yba.f3 [1, 1, 1, 1, 1, 1, 1, 1, 1, 1, 1, 1, 1, 1, 1, 1, 1, 1, 0, 1, 5, 4, 1, 1, 0, 5, 1, 1, 0, 0]) false) (.cond (.tmp 248) (.exit 9) .skip)) (codeOf Yba.f3 [1, 1, 1, 1, 1, 1, 1, 1, 1, 1, 1, 1, 1, 1, 1, 1, 1, 1, 0, 1, 5, 4, 1, 1, 0, 5, 1, 1, 1])) _ _ _
    refine wp_seq (srg ?_)
    show wpList _ (opsOf Yba.f3 [1, 1, 1, 1, 1, 1, 1, 1, 1, 1, 1, 1, 1, 1, 1, 1, 1, 1, 0, 1, 5, 4, 1, 1, 0, 5, 1, 1, 0, 0]) _ [opAt Yba.f3 [1, 1, 1, 1, 1, 1, 1, 1, 1, 1, 1, 1, 1, 1, 1, 1, 1, 1, 0, 1, 5, 4, 1, 1, 0, 5, 1, 1, 0, 0] 0, opAt Yba.f3 [1, 1, 1, 1, 1, 1, 1, 1, 1, 1, 1, 1, 1, 1, 1, 1, 1, 1, 0, 1, 5, 4, 1, 1, 0, 5, 1, 1, 0, 0] 1] _ _
    refine stMv hK (wn rfl) rfl rfl rfl (by decide) fun a hK => ?_
    refine stNot hK (wn rfl) rfl rfl rfl (by decide) fun a hK => ?_
    refine wp_cond_true (hK.op rfl) (wp_exit ?_)
    exact hE a W1 (hK.sub _ (by repeat (first | exact trivial | refine ⟨rfl, ?_⟩))) ⟨hB, hC⟩
  | some k =>
    obtain ⟨g0, hg0⟩ := Option.isSome_iff_exists.1 (hPI.held _ (getA_mem S.held g.s k hgk))
    obtain ⟨c, hRk⟩ := Option.isSome_iff_exists.1 (hPI.got k g0 hg0)
    have hk8 := hB.dom k c hRk
    refine st hK (wn rfl) (run_look 108 _ _ true rfl (hK.op rfl) (hK.op rfl) _ ((sm_look Yba.underlying108 Yba.underlying9 (.int .u64 0) zero22 hSM hsm g.s).trans (by rw [hget1, hgk]; rfl : _ = Result.ok (Value.tuple #[.int .u64 (k : Nat), .bool true]) _))) rfl (by decide) fun a hK => ?_
    refine stMv hK (wn rfl) rfl rfl rfl (by decide) fun a hK => ?_
    refine st hK (wn rfl) (run_ext0 _ rfl (hK.op rfl) _) rfl (by decide) fun a hK => ?_
    refine st hK (wn rfl) (run_ext1 _ rfl (hK.op rfl) _) rfl (by decide) fun a hK => ?_
    refine stAs hK (wn rfl) rfl rfl rfl (by decide) fun a hK => ?_
    refine stAs hK (wn rfl) rfl rfl rfl (by decide) fun a hK => ?_
    show Code.wp _ (.seq (.seq (.region _ (opsOf Yba.f3 [1, 1, 1, 1, 1, 1, 1, 1, 1, 1, 1, 1, 1, 1, 1, 1, 1, 1, 0, 1, 5, 4, 1, 1, 0, 5, 1, 1, 0, 0]) false) (.cond (.tmp 248) (.exit 9) .skip)) (codeOf Yba.f3 [1, 1, 1, 1, 1, 1, 1, 1, 1, 1, 1, 1, 1, 1, 1, 1, 1, 1, 0, 1, 5, 4, 1, 1, 0, 5, 1, 1, 1])) _ _ _
    refine wp_seq (srg ?_)
    show wpList _ (opsOf Yba.f3 [1, 1, 1, 1, 1, 1, 1, 1, 1, 1, 1, 1, 1, 1, 1, 1, 1, 1, 0, 1, 5, 4, 1, 1, 0, 5, 1, 1, 0, 0]) _ [opAt Yba.f3 [1, 1, 1, 1, 1, 1, 1, 1, 1, 1, 1, 1, 1, 1, 1, 1, 1, 1, 0, 1, 5, 4, 1, 1, 0, 5, 1, 1, 0, 0] 0, opAt Yba.f3 [1, 1, 1, 1, 1, 1, 1, 1, 1, 1, 1, 1, 1, 1, 1, 1, 1, 1, 0, 1, 5, 4, 1, 1, 0, 5, 1, 1, 0, 0] 1] _ _
    refine stMv hK (wn rfl) rfl rfl rfl (by decide) fun a hK => ?_
    refine stNot hK (wn rfl) rfl rfl rfl (by decide) fun a hK => ?_
    refine wp_cond_false (hK.op rfl) (wp_skip ?_)
    have hK : Fm 280 [(33, .int .u64 (k : Nat)), (32, ptr cb), (236, .int .i64 i), (234, .slice (some ⟨gb, 0, none⟩) gs.length gs.length), (235, .int .i64 gs.length), (8, ptr H), (9, ptr rs), (21, .map (some sm))] a := hK.sub _ (by repeat (first | exact trivial | refine ⟨rfl, ?_⟩))
    obtain ⟨es2, c2, hhm, hSM2⟩ := hB.hs.held
    have hget2 : getA (S.held.map fun p => (p.1, heldV L p.2)) g.s = some (heldV L k) := by rw [getA_map (heldV L) S.held g.s, hgk]; rfl
    show Code.wp _ (.seq (.region _ (opsOf Yba.f3 [1, 1, 1, 1, 1, 1, 1, 1, 1, 1, 1, 1, 1, 1, 1, 1, 1, 1, 0, 1, 5, 4, 1, 1, 0, 5, 1, 1, 1, 0]) true) (codeOf Yba.f3 [1, 1, 1, 1, 1, 1, 1, 1, 1, 1, 1, 1, 1, 1, 1, 1, 1, 1, 0, 1, 5, 4, 1, 1, 0, 5, 1, 1, 1, 1])) _ _ _
    refine wp_seq ?_
    refine wp_region_held (S := fun W => W.heap[H]? = some (.cells (holdC 0 wm hm) 48 (0, 0)) ∧ W.heap[cb]? = some (.cells (grantC g.m g.k g.s g.f) 55 (0, 0)) ∧ W.heap[hm]? = some (.map es2 c2)) (by kernel_rfl) ?_
    change wpAnyH _ _ _ _ _ 13 _ _ (World.drew _)
    have fd : Fr [] W1 W1.drew := (Fr.refl _ _).drew
    have hB := hB.keep fd
    have hC := hC.keep fd
    have hS : W1.drew.heap[H]? = some (.cells (holdC 0 wm hm) 48 (0, 0)) ∧ W1.drew.heap[cb]? = some (.cells (grantC g.m g.k g.s g.f) 55 (0, 0)) ∧ W1.drew.heap[hm]? = some (.map es2 c2) := ⟨hB.hs.hold, hcp, hhm⟩
    clear fd
    generalize W1.drew = W2 at hB hC hS ⊢
    refine sdw hK 0 (oi := opAt Yba.f3 [1, 1, 1, 1, 1, 1, 1, 1, 1, 1, 1, 1, 1, 1, 1, 1, 1, 1, 0, 1, 5, 4, 1, 1, 0, 5, 1, 1, 1, 0] 0) rfl (by kernel_rfl) (by kernel_rfl) (by kernel_rfl) (fun c a d v w h => hP c a d v w h) (wn rfl) (fun W hW => run_mv _ rfl _ (hK.op rfl) W) hS rfl (by decide) fun a hK => ?_
    refine sdw hK 1 (oi := opAt Yba.f3 [1, 1, 1, 1, 1, 1, 1, 1, 1, 1, 1, 1, 1, 1, 1, 1, 1, 1, 0, 1, 5, 4, 1, 1, 0, 5, 1, 1, 1, 0] 1) rfl (by kernel_rfl) (by kernel_rfl) (by kernel_rfl) (fun c a d v w h => hP c a d v w h) (wn rfl) (fun W hW => run_nilCheck _ rfl _ (hK.op rfl) W) hS rfl (by decide) fun a hK => ?_
    refine sdw hK 2 (oi := opAt Yba.f3 [1, 1, 1, 1, 1, 1, 1, 1, 1, 1, 1, 1, 1, 1, 1, 1, 1, 1, 0, 1, 5, 4, 1, 1, 0, 5, 1, 1, 1, 0] 2) rfl (by kernel_rfl) (by kernel_rfl) (by kernel_rfl) (fun c a d v w h => hP c a d v w h) (wn rfl) (fun W hW => run_fieldAddr 48 _ 3 rfl ⟨H, 0, none⟩ ⟨H, 4, none⟩ (hK.op rfl) W (by kernel_rfl)) hS rfl (by decide) fun a hK => ?_
    refine sdw hK 3 (oi := opAt Yba.f3 [1, 1, 1, 1, 1, 1, 1, 1, 1, 1, 1, 1, 1, 1, 1, 1, 1, 1, 0, 1, 5, 4, 1, 1, 0, 5, 1, 1, 1, 0] 3) rfl (by kernel_rfl) (by kernel_rfl) (by kernel_rfl) (fun c a d v w h => hP c a d v w h) (wn rfl) (fun W hW => run_load_one _ _ rfl _ _ (hK.op rfl) W ((cell_at hW.1 4).trans rfl) (by kernel_rfl)) hS rfl (by decide) fun a hK => ?_
    refine sdw hK 4 (oi := opAt Yba.f3 [1, 1, 1, 1, 1, 1, 1, 1, 1, 1, 1, 1, 1, 1, 1, 1, 1, 1, 0, 1, 5, 4, 1, 1, 0, 5, 1, 1, 1, 0] 4) rfl (by kernel_rfl) (by kernel_rfl) (by kernel_rfl) (fun c a d v w h => hP c a d v w h) (wn rfl) (fun W hW => run_fieldAddr 55 _ 1 rfl ⟨cb, 0, none⟩ ⟨cb, 2, none⟩ (hK.op rfl) W (by kernel_rfl)) hS rfl (by decide) fun a hK => ?_
    refine sdw hK 5 (oi := opAt Yba.f3 [1, 1, 1, 1, 1, 1, 1, 1, 1, 1, 1, 1, 1, 1, 1, 1, 1, 1, 0, 1, 5, 4, 1, 1, 0, 5, 1, 1, 1, 0] 5) rfl (by kernel_rfl) (by kernel_rfl) (by kernel_rfl) (fun c a d v w h => hP c a d v w h) (wn rfl) (fun W hW => run_load_one _ _ rfl _ _ (hK.op rfl) W ((cell_at hW.2.1 2).trans (rfl : _ = some (Value.string g.s))) (by kernel_rfl)) hS rfl (by decide) fun a hK => ?_
    refine sdw hK 6 (oi := opAt Yba.f3 [1, 1, 1, 1, 1, 1, 1, 1, 1, 1, 1, 1, 1, 1, 1, 1, 1, 1, 0, 1, 5, 4, 1, 1, 0, 5, 1, 1, 1, 0] 6) rfl (by kernel_rfl) (by kernel_rfl) (by kernel_rfl) (fun c a d v w h => hP c a d v w h) (wn rfl) (fun W hW => run_look 46 _ _ true rfl (hK.op rfl) (hK.op rfl) W ((sm_look Yba.underlying46 Yba.underlying9 (.agg zero112) zeroV112 hSM2 hW.2.2 g.s).trans (by rw [hget2]; rfl : _ = Result.ok (Value.tuple #[heldV L k, .bool true]) _))) hS rfl (by decide) fun a hK => ?_
    refine sdw hK 7 (oi := opAt Yba.f3 [1, 1, 1, 1, 1, 1, 1, 1, 1, 1, 1, 1, 1, 1, 1, 1, 1, 1, 0, 1, 5, 4, 1, 1, 0, 5, 1, 1, 1, 0] 7) rfl (by kernel_rfl) (by kernel_rfl) (by kernel_rfl) (fun c a d v w h => hP c a d v w h) (wn rfl) (fun W hW => run_mv _ rfl _ (hK.op rfl) W) hS rfl (by decide) fun a hK => ?_
    refine sdw hK 8 (oi := opAt Yba.f3 [1, 1, 1, 1, 1, 1, 1, 1, 1, 1, 1, 1, 1, 1, 1, 1, 1, 1, 0, 1, 5, 4, 1, 1, 0, 5, 1, 1, 1, 0] 8) rfl (by kernel_rfl) (by kernel_rfl) (by kernel_rfl) (fun c a d v w h => hP c a d v w h) (wn rfl) (fun W hW => run_ext0 _ rfl (hK.op rfl) W) hS rfl (by decide) fun a hK => ?_
    refine sdw hK 9 (oi := opAt Yba.f3 [1, 1, 1, 1, 1, 1, 1, 1, 1, 1, 1, 1, 1, 1, 1, 1, 1, 1, 0, 1, 5, 4, 1, 1, 0, 5, 1, 1, 1, 0] 9) rfl (by kernel_rfl) (by kernel_rfl) (by kernel_rfl) (fun c a d v w h => hP c a d v w h) (wn rfl) (fun W hW => run_ext1 _ rfl (hK.op rfl) W) hS rfl (by decide) fun a hK => ?_
    have fa : Fr [] W2 (W2.alloc (.cells zero112 112)) := (Fr.refl _ _).alloc _
    refine held_oneW (i := 10) (o := opAt Yba.f3 [1, 1, 1, 1, 1, 1, 1, 1, 1, 1, 1, 1, 1, 1, 1, 1, 1, 1, 0, 1, 5, 4, 1, 1, 0, 5, 1, 1, 1, 0] 10) (by kernel_rfl) rfl (wn rfl) ?_
    refine wp_of_run (run_allocOp 112 rfl zero112 _ (by kernel_rfl)) ⟨⟨fa.keep hS.1 (by simp), fa.keep hS.2.1 (by simp), fa.keep hS.2.2 (by simp)⟩, ?_⟩
    have hK := hK.put (d := 35) (by decide) (.pointer (some ⟨W2.heap.size, 0, none⟩))
    change wpAnyH _ _ _ _ _ _ _ (Act.put _ (some 35) _) _
    generalize Act.put _ (some 35) (.pointer (some ⟨W2.heap.size, 0, none⟩)) = a at hK ⊢
    have fb : Fr [] W2 (W2.alloc (.cells #[.int .u64 (k : Nat), .chan (some (L k))] 112)) := (Fr.refl _ _).alloc _
    refine held_oneW (i := 11) (o := opAt Yba.f3 [1, 1, 1, 1, 1, 1, 1, 1, 1, 1, 1, 1, 1, 1, 1, 1, 1, 1, 0, 1, 5, 4, 1, 1, 0, 5, 1, 1, 1, 0] 11) (by kernel_rfl) rfl (wn rfl) ?_
    refine wp_storeNew 112 _ _ rfl zero112 #[.int .u64 (k : Nat), .chan (some (L k))] (hK.op rfl) (hK.op rfl) (by kernel_rfl) rfl (by simp [Value.oneCell']) rfl ⟨⟨fb.keep hS.1 (by simp), fb.keep hS.2.1 (by simp), fb.keep hS.2.2 (by simp)⟩, ?_⟩
    have hhl : (W2.alloc (.cells #[.int .u64 (k : Nat), .chan (some (L k))] 112)).heap[W2.heap.size]? = some (.cells #[.int .u64 (k : Nat), .chan (some (L k))] 112 (0, 0)) := heap_alloc_new _ _
    have hB := hB.keep fb
    have hC := hC.keep fb
    have hS := And.intro (fb.keep hS.1 (by simp)) (And.intro (fb.keep hS.2.1 (by simp)) (fb.keep hS.2.2 (by simp)))
    generalize W2.heap.size = hb at hK hhl
    generalize W2.alloc (.cells #[.int .u64 (k : Nat), .chan (some (L k))] 112) = W3 at hB hC hS hhl ⊢
    refine sdw hK 12 (oi := opAt Yba.f3 [1, 1, 1, 1, 1, 1, 1, 1, 1, 1, 1, 1, 1, 1, 1, 1, 1, 1, 0, 1, 5, 4, 1, 1, 0, 5, 1, 1, 1, 0] 12) rfl (by kernel_rfl) (by kernel_rfl) (by kernel_rfl) (fun c a d v w h => hP c a d v w h) (wn rfl) (fun W hW => run_asg _ rfl _ (hK.op rfl) W) hS rfl (by decide) fun a hK => ?_
    refine wpAnyH_done (by kernel_rfl) ?_ _
    have hK : Fm 280 [(36, .bool true), (35, ptr hb), (33, .int .u64 (k : Nat)), (236, .int .i64 i), (234, .slice (some ⟨gb, 0, none⟩) gs.length gs.length), (235, .int .i64 gs.length), (8, ptr H), (9, ptr rs), (21, .map (some sm))] a := hK.sub _ (by repeat (first | exact trivial | refine ⟨rfl, ?_⟩))
    clear hS
    obtain ⟨hreq, _⟩ := hB.hs.reqs k c hRk
    rw [hg0] at hreq
    show Code.wp _ (.seq (.region _ (opsOf Yba.f3 [1, 1, 1, 1, 1, 1, 1, 1, 1, 1, 1, 1, 1, 1, 1, 1, 1, 1, 0, 1, 5, 4, 1, 1, 0, 5, 1, 1, 1, 1, 0]) true) (codeOf Yba.f3 [1, 1, 1, 1, 1, 1, 1, 1, 1, 1, 1, 1, 1, 1, 1, 1, 1, 1, 0, 1, 5, 4, 1, 1, 0, 5, 1, 1, 1, 1, 1])) _ _ _
    refine wp_seq ?_
    refine wp_region_held (S := fun W => W.heap[hb]? = some (.cells #[.int .u64 (k : Nat), .chan (some (L k))] 112 (0, 0)) ∧ W.cell? ⟨rs, k, none⟩ = some (ptr (c + 1)) ∧ W.heap[c + 1]? = some (.cells (reqOf (L k) c (some g0)) 37 (0, 0))) (by kernel_rfl) ?_
    change wpAnyH _ _ _ _ _ 20 _ _ (World.drew _)
    have hS : W3.drew.heap[hb]? = some (.cells #[.int .u64 (k : Nat), .chan (some (L k))] 112 (0, 0)) ∧ W3.drew.cell? ⟨rs, k, none⟩ = some (ptr (c + 1)) ∧ W3.drew.heap[c + 1]? = some (.cells (reqOf (L k) c (some g0)) 37 (0, 0)) := ⟨hhl, (cell_at (w := W3.drew) hB.rsb k).trans ((arr8_get _ k hk8).trans (by rw [hRk]; rfl)), hreq⟩
    refine sdw hK 0 (oi := opAt Yba.f3 [1, 1, 1, 1, 1, 1, 1, 1, 1, 1, 1, 1, 1, 1, 1, 1, 1, 1, 0, 1, 5, 4, 1, 1, 0, 5, 1, 1, 1, 1, 0] 0) rfl (by kernel_rfl) (by kernel_rfl) (by kernel_rfl) (fun c a d v w h => hP c a d v w h) (wn rfl) (fun W hW => run_mv _ rfl _ (hK.op rfl) W) hS rfl (by decide) fun a hK => ?_
    refine sdw hK 1 (oi := opAt Yba.f3 [1, 1, 1, 1, 1, 1, 1, 1, 1, 1, 1, 1, 1, 1, 1, 1, 1, 1, 0, 1, 5, 4, 1, 1, 0, 5, 1, 1, 1, 1, 0] 1) rfl (by kernel_rfl) (by kernel_rfl) (by kernel_rfl) (fun c a d v w h => hP c a d v w h) (wn rfl) (fun W hW => run_not 4 _ rfl true (hK.op rfl) W) hS rfl (by decide) fun a hK => ?_
    refine sdw hK 2 (oi := opAt Yba.f3 [1, 1, 1, 1, 1, 1, 1, 1, 1, 1, 1, 1, 1, 1, 1, 1, 1, 1, 0, 1, 5, 4, 1, 1, 0, 5, 1, 1, 1, 1, 0] 2) rfl (by kernel_rfl) (by kernel_rfl) (by kernel_rfl) (fun c a d v w h => hP c a d v w h) (wn rfl) (fun W hW => run_mv _ rfl _ (hK.op rfl) W) hS rfl (by decide) fun a hK => ?_
    refine sdw hK 3 (oi := opAt Yba.f3 [1, 1, 1, 1, 1, 1, 1, 1, 1, 1, 1, 1, 1, 1, 1, 1, 1, 1, 0, 1, 5, 4, 1, 1, 0, 5, 1, 1, 1, 1, 0] 3) rfl (by kernel_rfl) (by kernel_rfl) (by kernel_rfl) (fun c a d v w h => hP c a d v w h) (hK.wy rfl rfl rfl (by decide)) (fun W hW => run_fieldAddr 112 _ 0 rfl ⟨hb, 0, none⟩ ⟨hb, 0, none⟩ (hK.op rfl) W (by kernel_rfl)) hS rfl (by decide) fun a hK => ?_
    refine sdw hK 4 (oi := opAt Yba.f3 [1, 1, 1, 1, 1, 1, 1, 1, 1, 1, 1, 1, 1, 1, 1, 1, 1, 1, 0, 1, 5, 4, 1, 1, 0, 5, 1, 1, 1, 1, 0] 4) rfl (by kernel_rfl) (by kernel_rfl) (by kernel_rfl) (fun c a d v w h => hP c a d v w h) (hK.wy rfl rfl rfl (by decide)) (fun W hW => run_load_one _ _ rfl _ _ (hK.op rfl) W ((cell_at hW.1 0).trans (rfl : _ = some (Value.int .u64 (k : Nat)))) (by kernel_rfl)) hS rfl (by decide) fun a hK => ?_
    refine sdw hK 5 (oi := opAt Yba.f3 [1, 1, 1, 1, 1, 1, 1, 1, 1, 1, 1, 1, 1, 1, 1, 1, 1, 1, 0, 1, 5, 4, 1, 1, 0, 5, 1, 1, 1, 1, 0] 5) rfl (by kernel_rfl) (by kernel_rfl) (by kernel_rfl) (fun c a d v w h => hP c a d v w h) (hK.wy rfl rfl rfl (by decide)) (fun W hW => run_mv _ rfl _ (hK.op rfl) W) hS rfl (by decide) fun a hK => ?_
    refine sdw hK 6 (oi := opAt Yba.f3 [1, 1, 1, 1, 1, 1, 1, 1, 1, 1, 1, 1, 1, 1, 1, 1, 1, 1, 0, 1, 5, 4, 1, 1, 0, 5, 1, 1, 1, 1, 0] 6) rfl (by kernel_rfl) (by kernel_rfl) (by kernel_rfl) (fun c a d v w h => hP c a d v w h) (hK.wy rfl rfl rfl (by decide)) (fun W hW => run_bin .neq 22 _ _ 22 rfl _ _ _ (hK.op rfl) (hK.op rfl) W (u_ne)) hS rfl (by decide) fun a hK => ?_
    refine sdw hK 7 (oi := opAt Yba.f3 [1, 1, 1, 1, 1, 1, 1, 1, 1, 1, 1, 1, 1, 1, 1, 1, 1, 1, 0, 1, 5, 4, 1, 1, 0, 5, 1, 1, 1, 1, 0] 7) rfl (by kernel_rfl) (by kernel_rfl) (by kernel_rfl) (fun c a d v w h => hP c a d v w h) (wn rfl) (fun W hW => run_pick _ _ _ rfl _ _ _ (hK.op rfl) (hK.op rfl) (hK.op rfl) W) hS rfl (by decide) fun a hK => ?_
    refine sdw hK 8 (oi := opAt Yba.f3 [1, 1, 1, 1, 1, 1, 1, 1, 1, 1, 1, 1, 1, 1, 1, 1, 1, 1, 0, 1, 5, 4, 1, 1, 0, 5, 1, 1, 1, 1, 0] 8) rfl (by kernel_rfl) (by kernel_rfl) (by kernel_rfl) (fun c a d v w h => hP c a d v w h) (wn rfl) (fun W hW => run_mv _ rfl _ (hK.op rfl) W) hS rfl (by decide) fun a hK => ?_
    refine sdw hK 9 (oi := opAt Yba.f3 [1, 1, 1, 1, 1, 1, 1, 1, 1, 1, 1, 1, 1, 1, 1, 1, 1, 1, 0, 1, 5, 4, 1, 1, 0, 5, 1, 1, 1, 1, 0] 9) rfl (by kernel_rfl) (by kernel_rfl) (by kernel_rfl) (fun c a d v w h => hP c a d v w h) (hK.wy rfl rfl rfl (by decide)) (fun W hW => run_fieldAddr 112 _ 1 rfl ⟨hb, 0, none⟩ ⟨hb, 1, none⟩ (hK.op rfl) W (by kernel_rfl)) hS rfl (by decide) fun a hK => ?_
    refine sdw hK 10 (oi := opAt Yba.f3 [1, 1, 1, 1, 1, 1, 1, 1, 1, 1, 1, 1, 1, 1, 1, 1, 1, 1, 0, 1, 5, 4, 1, 1, 0, 5, 1, 1, 1, 1, 0] 10) rfl (by kernel_rfl) (by kernel_rfl) (by kernel_rfl) (fun c a d v w h => hP c a d v w h) (hK.wy rfl rfl rfl (by decide)) (fun W hW => run_load_one _ _ rfl _ _ (hK.op rfl) W ((cell_at hW.1 1).trans (rfl : _ = some (Value.chan (some (L k))))) (by kernel_rfl)) hS rfl (by decide) fun a hK => ?_
    refine sdw hK 11 (oi := opAt Yba.f3 [1, 1, 1, 1, 1, 1, 1, 1, 1, 1, 1, 1, 1, 1, 1, 1, 1, 1, 0, 1, 5, 4, 1, 1, 0, 5, 1, 1, 1, 1, 0] 11) rfl (by kernel_rfl) (by kernel_rfl) (by kernel_rfl) (fun c a d v w h => hP c a d v w h) (hK.wy rfl rfl rfl (by decide)) (fun W hW => run_mv _ rfl _ (hK.op rfl) W) hS rfl (by decide) fun a hK => ?_
    refine sdw hK 12 (oi := opAt Yba.f3 [1, 1, 1, 1, 1, 1, 1, 1, 1, 1, 1, 1, 1, 1, 1, 1, 1, 1, 0, 1, 5, 4, 1, 1, 0, 5, 1, 1, 1, 1, 0] 12) rfl (by kernel_rfl) (by kernel_rfl) (by kernel_rfl) (fun c a d v w h => hP c a d v w h) (hK.wy rfl rfl rfl (by decide)) (fun W hW => run_idxR 29 28 _ _ rfl 8 Yba.underlying29 rs (hK.op rfl) .u64 k (hK.op rfl) hk8 (fun w => by kernel_rfl) W) hS rfl (by decide) fun a hK => ?_
    refine sdw hK 13 (oi := opAt Yba.f3 [1, 1, 1, 1, 1, 1, 1, 1, 1, 1, 1, 1, 1, 1, 1, 1, 1, 1, 0, 1, 5, 4, 1, 1, 0, 5, 1, 1, 1, 1, 0] 13) rfl (by kernel_rfl) (by kernel_rfl) (by kernel_rfl) (fun c a d v w h => hP c a d v w h) (hK.wy rfl rfl rfl (by decide)) (fun W hW => run_load_one _ _ rfl _ _ (hK.op rfl) W (hW.2.1) (by kernel_rfl)) hS rfl (by decide) fun a hK => ?_
    refine sdw hK 14 (oi := opAt Yba.f3 [1, 1, 1, 1, 1, 1, 1, 1, 1, 1, 1, 1, 1, 1, 1, 1, 1, 1, 0, 1, 5, 4, 1, 1, 0, 5, 1, 1, 1, 1, 0] 14) rfl (by kernel_rfl) (by kernel_rfl) (by kernel_rfl) (fun c a d v w h => hP c a d v w h) (hK.wy rfl rfl rfl (by decide)) (fun W hW => run_nilCheck _ rfl _ (hK.op rfl) W) hS rfl (by decide) fun a hK => ?_
    refine sdw hK 15 (oi := opAt Yba.f3 [1, 1, 1, 1, 1, 1, 1, 1, 1, 1, 1, 1, 1, 1, 1, 1, 1, 1, 0, 1, 5, 4, 1, 1, 0, 5, 1, 1, 1, 1, 0] 15) rfl (by kernel_rfl) (by kernel_rfl) (by kernel_rfl) (fun c a d v w h => hP c a d v w h) (hK.wy rfl rfl rfl (by decide)) (fun W hW => run_fieldAddr 37 _ 0 rfl ⟨c + 1, 0, none⟩ ⟨c + 1, 0, none⟩ (hK.op rfl) W (by kernel_rfl)) hS rfl (by decide) fun a hK => ?_
    refine sdw hK 16 (oi := opAt Yba.f3 [1, 1, 1, 1, 1, 1, 1, 1, 1, 1, 1, 1, 1, 1, 1, 1, 1, 1, 0, 1, 5, 4, 1, 1, 0, 5, 1, 1, 1, 1, 0] 16) rfl (by kernel_rfl) (by kernel_rfl) (by kernel_rfl) (fun c a d v w h => hP c a d v w h) (hK.wy rfl rfl rfl (by decide)) (fun W hW => run_fieldAddr 33 _ 2 rfl ⟨c + 1, 0, none⟩ ⟨c + 1, 2, none⟩ (hK.op rfl) W (by kernel_rfl)) hS rfl (by decide) fun a hK => ?_
    refine sdw hK 17 (oi := opAt Yba.f3 [1, 1, 1, 1, 1, 1, 1, 1, 1, 1, 1, 1, 1, 1, 1, 1, 1, 1, 0, 1, 5, 4, 1, 1, 0, 5, 1, 1, 1, 1, 0] 17) rfl (by kernel_rfl) (by kernel_rfl) (by kernel_rfl) (fun c a d v w h => hP c a d v w h) (hK.wy rfl rfl rfl (by decide)) (fun W hW => run_load_one _ _ rfl _ _ (hK.op rfl) W ((cell_at hW.2.2 2).trans (rfl : _ = some (Value.chan (some (L k))))) (by kernel_rfl)) hS rfl (by decide) fun a hK => ?_
    refine sdw hK 18 (oi := opAt Yba.f3 [1, 1, 1, 1, 1, 1, 1, 1, 1, 1, 1, 1, 1, 1, 1, 1, 1, 1, 0, 1, 5, 4, 1, 1, 0, 5, 1, 1, 1, 1, 0] 18) rfl (by kernel_rfl) (by kernel_rfl) (by kernel_rfl) (fun c a d v w h => hP c a d v w h) (hK.wy rfl rfl rfl (by decide)) (fun W hW => run_bin .neq 31 _ _ 31 rfl _ _ _ (hK.op rfl) (hK.op rfl) W (c_ne)) hS rfl (by decide) fun a hK => ?_
    refine sdw hK 19 (oi := opAt Yba.f3 [1, 1, 1, 1, 1, 1, 1, 1, 1, 1, 1, 1, 1, 1, 1, 1, 1, 1, 0, 1, 5, 4, 1, 1, 0, 5, 1, 1, 1, 1, 0] 19) rfl (by kernel_rfl) (by kernel_rfl) (by kernel_rfl) (fun c a d v w h => hP c a d v w h) (wn rfl) (fun W hW => run_pick _ _ _ rfl _ _ _ (hK.op rfl) (hK.op rfl) (hK.op rfl) W) hS rfl (by decide) fun a hK => ?_
    refine wpAnyH_done (by kernel_rfl) ?_ _
    show Code.wp _ (.cond (.tmp 278) (codeOf Yba.f3 [1, 1, 1, 1, 1, 1, 1, 1, 1, 1, 1, 1, 1, 1, 1, 1, 1, 1, 0, 1, 5, 4, 1, 1, 0, 5, 1, 1, 1, 1, 1, 2]) .skip) _ _ _
    refine wp_cond_false (hK.op rfl) (wp_skip ?_)
    have fd : Fr [] W3 W3.drew := (Fr.refl _ _).drew
    exact hQ a W3.drew (hK.sub _ (by repeat (first | exact trivial | refine ⟨rfl, ?_⟩))) ⟨hB.keep fd, hC.keep fd⟩

set_option maxRecDepth 20000 in
theorem e_loop {Q : Exit → Act → World → Prop} (w0 wB : World) (R : Nat → Option Nat) (L : Nat → Nat) (H wm hm rs wt gb : Nat) (gs : List Gr) (hn : gs.length ≤ 1024) (S : PS) (hPI : PInv (fun k => (R k).isSome) S) (gt gn gf sm : Nat) (hP : ∀ c a d v w, Q (.panic c) (Act.put a d v) w → Q (.panic c) a w) (a : Act) (W : World) (hK : Fm 280 [(8, ptr H), (9, ptr rs), (14, .slice (some ⟨gb, 0, none⟩) gs.length gs.length), (21, .map (some sm))] a) (hI : BS w0 R L H wm hm rs wt gb gs S W ∧ CS wB gt gn gf sm S W)
    (hx : ∀ a W, Fm 280 [(6, .bool true)] a → Fr [] w0 W → Q .ret a W) :
    Code.wp Yba.prog (codeOf Yba.f3 [1, 1, 1, 1, 1, 1, 1, 1, 1, 1, 1, 1, 1, 1, 1, 1, 1, 1]) Q a W := by
  show Code.wp _ (.seq (.seq (.region _ (opsOf Yba.f3 [1, 1, 1, 1, 1, 1, 1, 1, 1, 1, 1, 1, 1, 1, 1, 1, 1, 1, 0, 0]) false) (.block 8 (.loop (codeOf Yba.f3 [1, 1, 1, 1, 1, 1, 1, 1, 1, 1, 1, 1, 1, 1, 1, 1, 1, 1, 0, 1, 5, 4])))) (.seq (.region _ (opsOf Yba.f3 [1, 1, 1, 1, 1, 1, 1, 1, 1, 1, 1, 1, 1, 1, 1, 1, 1, 1, 1, 0]) false) .ret)) _ _ _
  refine wp_seq (srg ?_)
  show wpList _ (opsOf Yba.f3 [1, 1, 1, 1, 1, 1, 1, 1, 1, 1, 1, 1, 1, 1, 1, 1, 1, 1, 0, 0]) _ [opAt Yba.f3 [1, 1, 1, 1, 1, 1, 1, 1, 1, 1, 1, 1, 1, 1, 1, 1, 1, 1, 0, 0] 0, opAt Yba.f3 [1, 1, 1, 1, 1, 1, 1, 1, 1, 1, 1, 1, 1, 1, 1, 1, 1, 1, 0, 0] 1, opAt Yba.f3 [1, 1, 1, 1, 1, 1, 1, 1, 1, 1, 1, 1, 1, 1, 1, 1, 1, 1, 0, 0] 2] _ _
  refine stMv hK (wn rfl) rfl rfl rfl (by decide) fun a hK => ?_
  refine stLenS hK (wn rfl) rfl Yba.underlying49 rfl rfl (by decide) fun a hK => ?_
  refine stMv hK (wn rfl) rfl rfl rfl (by decide) fun a hK => ?_
  show Code.wp _ (.block 8 (.loop (codeOf Yba.f3 [1, 1, 1, 1, 1, 1, 1, 1, 1, 1, 1, 1, 1, 1, 1, 1, 1, 1, 0, 1, 5, 4]))) _ _ _
  refine wp_block (wp_loop (fun a W => ∃ i : Nat, i ≤ gs.length ∧ Fm 280 [(236, .int .i64 i), (234, .slice (some ⟨gb, 0, none⟩) gs.length gs.length), (235, .int .i64 gs.length), (8, ptr H), (9, ptr rs), (21, .map (some sm))] a ∧ BS w0 R L H wm hm rs wt gb gs S W ∧ CS wB gt gn gf sm S W) (fun a _ => gs.length - (intOf (a.eval (.tmp 236))).toNat) ⟨0, Nat.zero_le _, hK.sub _ (by repeat (first | exact trivial | refine ⟨rfl, ?_⟩)), hI⟩ ?_)
  rintro a W ⟨i, hi, hK, hI⟩
  have him : (intOf (a.eval (.tmp 236))).toNat = i := by rw [hK.get 236 (.int .i64 i) rfl]; simp [intOf]
  rw [him]
  show Code.wp _ (.seq (.region _ (opsOf Yba.f3 [1, 1, 1, 1, 1, 1, 1, 1, 1, 1, 1, 1, 1, 1, 1, 1, 1, 1, 0, 1, 5, 4, 0]) false) (.seq (.cond (.tmp 237) .skip (.exit 8)) (.seq (.block 9 (codeOf Yba.f3 [1, 1, 1, 1, 1, 1, 1, 1, 1, 1, 1, 1, 1, 1, 1, 1, 1, 1, 0, 1, 5, 4, 1, 1, 0, 5])) (codeOf Yba.f3 [1, 1, 1, 1, 1, 1, 1, 1, 1, 1, 1, 1, 1, 1, 1, 1, 1, 1, 0, 1, 5, 4, 1, 1, 1])))) _ _ _
  refine srg ?_
  show wpList _ (opsOf Yba.f3 [1, 1, 1, 1, 1, 1, 1, 1, 1, 1, 1, 1, 1, 1, 1, 1, 1, 1, 0, 1, 5, 4, 0]) _ [opAt Yba.f3 [1, 1, 1, 1, 1, 1, 1, 1, 1, 1, 1, 1, 1, 1, 1, 1, 1, 1, 0, 1, 5, 4, 0] 0] _ _
  by_cases hlt : i < gs.length
  · refine stBin hK (wn rfl) rfl rfl rfl (i_lt (r := true) (decide_eq_true (by omega))) rfl (by decide) fun a hK => ?_
    refine wp_seq (wp_cond_true (hK.op rfl) (wp_skip ?_))
    have hnext : ∀ a' W, Fm 280 [(236, .int .i64 i), (234, .slice (some ⟨gb, 0, none⟩) gs.length gs.length), (235, .int .i64 gs.length), (8, ptr H), (9, ptr rs), (21, .map (some sm))] a' → (BS w0 R L H wm hm rs wt gb gs S W ∧ CS wB gt gn gf sm S W) → Code.wp Yba.prog (codeOf Yba.f3 [1, 1, 1, 1, 1, 1, 1, 1, 1, 1, 1, 1, 1, 1, 1, 1, 1, 1, 0, 1, 5, 4, 1, 1, 1]) (Exit.then (fun a' w' => (∃ i : Nat, i ≤ gs.length ∧ Fm 280 [(236, .int .i64 i), (234, .slice (some ⟨gb, 0, none⟩) gs.length gs.length), (235, .int .i64 gs.length), (8, ptr H), (9, ptr rs), (21, .map (some sm))] a' ∧ BS w0 R L H wm hm rs wt gb gs S w' ∧ CS wB gt gn gf sm S w') ∧ gs.length - (intOf (a'.eval (.tmp 236))).toNat < gs.length - i) (Exit.inBlock 8 (Exit.then (Code.wp Yba.prog (codeOf Yba.f3 [1, 1, 1, 1, 1, 1, 1, 1, 1, 1, 1, 1, 1, 1, 1, 1, 1, 1, 1]) Q) Q))) a' W := by
      intro a W hK hI
      show Code.wp _ (.region _ (opsOf Yba.f3 [1, 1, 1, 1, 1, 1, 1, 1, 1, 1, 1, 1, 1, 1, 1, 1, 1, 1, 0, 1, 5, 4, 1, 1, 1]) false) _ _ _
      refine wp_region_list ?_
      show wpList _ (opsOf Yba.f3 [1, 1, 1, 1, 1, 1, 1, 1, 1, 1, 1, 1, 1, 1, 1, 1, 1, 1, 0, 1, 5, 4, 1, 1, 1]) _ [opAt Yba.f3 [1, 1, 1, 1, 1, 1, 1, 1, 1, 1, 1, 1, 1, 1, 1, 1, 1, 1, 0, 1, 5, 4, 1, 1, 1] 0, opAt Yba.f3 [1, 1, 1, 1, 1, 1, 1, 1, 1, 1, 1, 1, 1, 1, 1, 1, 1, 1, 0, 1, 5, 4, 1, 1, 1] 1] _ _
      refine stBin hK (wn rfl) rfl rfl rfl (i_add (y := ((i + 1 : Nat) : Int)) (by omega) (by omega) (by omega)) rfl (by decide) fun a hK => ?_
      refine stMv hK (wn rfl) rfl rfl rfl (by decide) fun a hK => ?_
      refine ⟨⟨i + 1, hlt, hK.sub _ (by repeat (first | exact trivial | refine ⟨rfl, ?_⟩)), hI⟩, ?_⟩
      rw [hK.get 236 (.int .i64 ((i + 1 : Nat) : Int)) rfl]
      simp only [intOf, Int.toNat_natCast]; omega
    refine wp_seq (wp_block ?_)
    exact e_round w0 wB R L H wm hm rs wt gb gs hn S hPI gt gn gf sm (by exact fun c a d v w h => hP c a d v w h) a W i hlt (hK.sub _ (by repeat (first | exact trivial | refine ⟨rfl, ?_⟩))) hI (fun a W hK hI => hnext a W hK hI) (fun a W hK hI => hnext a W hK hI)
  · refine stBin hK (wn rfl) rfl rfl rfl (i_lt (r := false) (decide_eq_false (by omega))) rfl (by decide) fun a hK => ?_
    refine wp_seq (wp_cond_false (hK.op rfl) (wp_exit ?_))
    show Code.wp _ (.seq (.region _ (opsOf Yba.f3 [1, 1, 1, 1, 1, 1, 1, 1, 1, 1, 1, 1, 1, 1, 1, 1, 1, 1, 1, 0]) false) .ret) _ _ _
    refine srg ?_
    show wpList _ (opsOf Yba.f3 [1, 1, 1, 1, 1, 1, 1, 1, 1, 1, 1, 1, 1, 1, 1, 1, 1, 1, 1, 0]) _ [opAt Yba.f3 [1, 1, 1, 1, 1, 1, 1, 1, 1, 1, 1, 1, 1, 1, 1, 1, 1, 1, 1, 0] 0] _ _
    refine stAs hK (wn rfl) rfl rfl rfl (by decide) fun a hK => ?_
    exact wp_ret (hx a W (hK.sub _ (by repeat (first | exact trivial | refine ⟨rfl, ?_⟩))) hI.1.fr)

set_option maxRecDepth 20000 in
theorem e_all {Q : Exit → Act → World → Prop} (w0 wB : World) (R : Nat → Option Nat) (L : Nat → Nat) (H wm hm rs wt gb : Nat) (gs : List Gr) (hn : gs.length ≤ 1024) (S : PS) (hPI : PInv (fun k => (R k).isSome) S) (gt gn gf sm : Nat) (hP : ∀ c a d v w, Q (.panic c) (Act.put a d v) w → Q (.panic c) a w) (a : Act) (W : World) (hK : Fm 280 [(8, ptr H), (9, ptr rs), (14, .slice (some ⟨gb, 0, none⟩) gs.length gs.length), (21, .map (some sm))] a) (hI : BS w0 R L H wm hm rs wt gb gs S W ∧ CS wB gt gn gf sm S W)
    (hx : ∀ a W, Fm 280 [(6, .bool true)] a → Fr [] w0 W → Q .ret a W) :
    Code.wp Yba.prog (codeOf Yba.f3 [1, 1, 1, 1, 1, 1, 1, 1, 1, 1, 1, 1, 1, 1, 1, 1, 1]) Q a W := by
  obtain ⟨es1, c1, hsm, hSM⟩ := hI.2.smb
  obtain ⟨es2, c2, hhm, hSM2⟩ := hI.1.hs.held
  have e1 : es1.size = S.held.length := by rw [hSM.size, List.length_map]
  have e2 : es2.size = S.held.length := by rw [hSM2.size, List.length_map]
  show Code.wp _ (.seq (.seq (.region _ (opsOf Yba.f3 [1, 1, 1, 1, 1, 1, 1, 1, 1, 1, 1, 1, 1, 1, 1, 1, 1, 0, 0]) false) (codeOf Yba.f3 [1, 1, 1, 1, 1, 1, 1, 1, 1, 1, 1, 1, 1, 1, 1, 1, 1, 0, 1])) (codeOf Yba.f3 [1, 1, 1, 1, 1, 1, 1, 1, 1, 1, 1, 1, 1, 1, 1, 1, 1, 1])) _ _ _
  refine wp_seq (srg ?_)
  show wpList _ (opsOf Yba.f3 [1, 1, 1, 1, 1, 1, 1, 1, 1, 1, 1, 1, 1, 1, 1, 1, 1, 0, 0]) _ [opAt Yba.f3 [1, 1, 1, 1, 1, 1, 1, 1, 1, 1, 1, 1, 1, 1, 1, 1, 1, 0, 0] 0, opAt Yba.f3 [1, 1, 1, 1, 1, 1, 1, 1, 1, 1, 1, 1, 1, 1, 1, 1, 1, 0, 0] 1, opAt Yba.f3 [1, 1, 1, 1, 1, 1, 1, 1, 1, 1, 1, 1, 1, 1, 1, 1, 1, 0, 0] 2, opAt Yba.f3 [1, 1, 1, 1, 1, 1, 1, 1, 1, 1, 1, 1, 1, 1, 1, 1, 1, 0, 0] 3, opAt Yba.f3 [1, 1, 1, 1, 1, 1, 1, 1, 1, 1, 1, 1, 1, 1, 1, 1, 1, 0, 0] 4, opAt Yba.f3 [1, 1, 1, 1, 1, 1, 1, 1, 1, 1, 1, 1, 1, 1, 1, 1, 1, 0, 0] 5, opAt Yba.f3 [1, 1, 1, 1, 1, 1, 1, 1, 1, 1, 1, 1, 1, 1, 1, 1, 1, 0, 0] 6, opAt Yba.f3 [1, 1, 1, 1, 1, 1, 1, 1, 1, 1, 1, 1, 1, 1, 1, 1, 1, 0, 0] 7] _ _
  refine stMv hK (wn rfl) rfl rfl rfl (by decide) fun a hK => ?_
  refine stNil hK (wn rfl) rfl rfl rfl (by decide) fun a hK => ?_
  refine stFa hK (wn rfl) rfl rfl 4 (fun b w => by kernel_rfl) rfl (by decide) fun a hK => ?_
  refine stLd hK (wn rfl) rfl rfl ((cell_at hI.1.hs.hold 4).trans (rfl : _ = some (Value.map (some hm)))) (fun w => by kernel_rfl) rfl (by decide) fun a hK => ?_
  refine stLenM hK (wn rfl) rfl Yba.underlying46 rfl (hhm) rfl (by decide) fun a hK => ?_
  refine stMv hK (wn rfl) rfl rfl rfl (by decide) fun a hK => ?_
  refine stLenM hK (wn rfl) rfl Yba.underlying108 rfl (hsm) rfl (by decide) fun a hK => ?_
  rw [e1, e2] at hK
  refine stBin hK (wn rfl) rfl rfl rfl (i_ne) rfl (by decide) fun a hK => ?_
  show Code.wp _ (.cond (.tmp 233) (codeOf Yba.f3 [1, 1, 1, 1, 1, 1, 1, 1, 1, 1, 1, 1, 1, 1, 1, 1, 1, 0, 1, 2]) .skip) _ _ _
  refine wp_cond_false (hK.op rfl) (wp_skip ?_)
  show Code.wp _ (codeOf Yba.f3 [1, 1, 1, 1, 1, 1, 1, 1, 1, 1, 1, 1, 1, 1, 1, 1, 1, 1]) _ _ _
  exact e_loop w0 wB R L H wm hm rs wt gb gs hn S hPI gt gn gf sm hP a W (hK.sub _ (by repeat (first | exact trivial | refine ⟨rfl, ?_⟩))) hI hx

end Go.Proofs.Ybulkaevs
