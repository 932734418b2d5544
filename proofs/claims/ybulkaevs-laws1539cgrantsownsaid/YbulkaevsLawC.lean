import Derived.Test.YbulkaevsLawB
namespace Go.Proofs.Ybulkaevs
open Go.RowKit
def nameOf : Option Gr → ByteArray
  | none => ByteArray.empty
  | some g => g.s
def fenceOf : Option Gr → Int
  | none => 0
  | some g => g.f
/-- How the law's own tables stand. -/
structure CS (wB : World) (gt gn gf sm : Nat) (S : PS) (W : World) : Prop where
  fr : Fr [] wB W
  gtb : W.heap[gt]? = some (.cells (arr8 fun k => .bool (S.got k).isSome) 30 (0, 0))
  gnb : W.heap[gn]? = some (.cells (arr8 fun k => .string (nameOf (S.got k))) 106 (0, 0))
  gfb : W.heap[gf]? = some (.cells (arr8 fun k => .int .u64 (fenceOf (S.got k))) 107 (0, 0))
  smb : ∃ es c, W.heap[sm]? = some (.map es c) ∧ SM es (S.held.map fun p => (p.1, .int .u64 (p.2 : Nat)))
theorem CS.keep {wB : World} {gt gn gf sm : Nat} {S : PS} {W W' : World} (h : CS wB gt gn gf sm S W) (f : Fr [] W W') : CS wB gt gn gf sm S W' := by
  obtain ⟨es, c, h1, h2⟩ := h.smb
  exact ⟨h.fr.trans f, f.keep h.gtb (by simp), f.keep h.gnb (by simp), f.keep h.gfb (by simp), es, c, f.keep h1 (by simp), h2⟩

set_option maxRecDepth 20000 in
set_option maxHeartbeats 1600000 in
/-- One grant, told again by the law. -/
theorem c_round {Q : Exit → Act → World → Prop} (w0 wB : World) (R : Nat → Option Nat) (L : Nat → Nat) (H wm hm rs wt gb me : Nat) (gs : List Gr) (hn : gs.length ≤ 1024) (h8 : ∀ g ∈ gs, g.k < 8) (Sf : PS) (hB : BS w0 R L H wm hm rs wt gb gs Sf wB) (gt gn gf sm : Nat) (hlo : wB.heap.size ≤ gt ∧ wB.heap.size ≤ gn ∧ wB.heap.size ≤ gf ∧ wB.heap.size ≤ sm) (a : Act) (W : World) (i : Nat) (hi : i < gs.length) (hK : Fm 280 [(112, .int .i64 i), (110, .slice (some ⟨gb, 0, none⟩) gs.length gs.length), (111, .int .i64 gs.length), (7, .int .u64 (me : Nat)), (8, ptr H), (9, ptr rs), (10, ptr wt), (14, .slice (some ⟨gb, 0, none⟩) gs.length gs.length), (18, ptr gt), (19, ptr gn), (20, ptr gf), (21, .map (some sm))] a) (hI : CS wB gt gn gf sm (runG (fun k => (R k).isSome) me (gs.take i)) W)
    (hQ : ∀ a W, Fm 280 [(112, .int .i64 i), (110, .slice (some ⟨gb, 0, none⟩) gs.length gs.length), (111, .int .i64 gs.length), (7, .int .u64 (me : Nat)), (8, ptr H), (9, ptr rs), (10, ptr wt), (14, .slice (some ⟨gb, 0, none⟩) gs.length gs.length), (18, ptr gt), (19, ptr gn), (20, ptr gf), (21, .map (some sm))] a → CS wB gt gn gf sm (runG (fun k => (R k).isSome) me (gs.take (i + 1))) W → Q .normal a W) :
    Code.wp Yba.prog (codeOf Yba.f3 [1, 1, 1, 1, 1, 1, 1, 1, 1, 1, 1, 1, 1, 1, 1, 0, 1, 5, 4, 1, 1, 0, 5]) Q a W := by
  have _used := hn
  obtain ⟨g, hg⟩ : ∃ g, gs[i]? = some g := ⟨gs[i], List.getElem?_eq_getElem hi⟩
  have hk8 : g.k < 8 := h8 g (List.mem_of_getElem? hg)
  have hnew := runG_succ (fun k => (R k).isSome) me gs i g hg
  generalize runG (fun k => (R k).isSome) me (gs.take i) = S at hI hnew
  rw [hnew] at hQ
  have hBW := hB.keep hI.fr
  show Code.wp _ (.seq (.region _ (opsOf Yba.f3 [1, 1, 1, 1, 1, 1, 1, 1, 1, 1, 1, 1, 1, 1, 1, 0, 1, 5, 4, 1, 1, 0, 5, 0]) false) (codeOf Yba.f3 [1, 1, 1, 1, 1, 1, 1, 1, 1, 1, 1, 1, 1, 1, 1, 0, 1, 5, 4, 1, 1, 0, 5, 1])) _ _ _
  refine srg ?_
  show wpList _ (opsOf Yba.f3 [1, 1, 1, 1, 1, 1, 1, 1, 1, 1, 1, 1, 1, 1, 1, 0, 1, 5, 4, 1, 1, 0, 5, 0]) _ [opAt Yba.f3 [1, 1, 1, 1, 1, 1, 1, 1, 1, 1, 1, 1, 1, 1, 1, 0, 1, 5, 4, 1, 1, 0, 5, 0] 0, opAt Yba.f3 [1, 1, 1, 1, 1, 1, 1, 1, 1, 1, 1, 1, 1, 1, 1, 0, 1, 5, 4, 1, 1, 0, 5, 0] 1, opAt Yba.f3 [1, 1, 1, 1, 1, 1, 1, 1, 1, 1, 1, 1, 1, 1, 1, 0, 1, 5, 4, 1, 1, 0, 5, 0] 2, opAt Yba.f3 [1, 1, 1, 1, 1, 1, 1, 1, 1, 1, 1, 1, 1, 1, 1, 0, 1, 5, 4, 1, 1, 0, 5, 0] 3] _ _
  refine st hK (wn rfl) (run_idxS 49 55 _ _ rfl Yba.underlying49 gb 0 gs.length gs.length (hK.op rfl) i (hK.op rfl) hi 4 (fun w => by kernel_rfl) _) rfl (by decide) fun a hK => ?_
  refine stLr hK (wn rfl) rfl rfl (by rfl) row55 ((show W.rangeAt gb (0 + i * 4) (grantC g.m g.k g.s g.f).toList from by rw [Nat.zero_add]; exact hBW.gsb.range hg)) rfl (by decide) fun a hK => ?_
  refine st hK (wn rfl) (run_allocOp 55 rfl zero55 _ (by kernel_rfl)) rfl (by decide) fun a hK => ?_
  refine stNs (c' := grantC g.m g.k g.s g.f) hK rfl rfl rfl rfl (by kernel_rfl) rfl (grant_one _ _ _ _) rfl ?_
  have hA : Fr [] W (W.alloc (.cells (grantC g.m g.k g.s g.f) 55)) := (Fr.refl _ _).alloc _
  have hcp : (W.alloc (.cells (grantC g.m g.k g.s g.f) 55)).heap[W.heap.size]? = some (.cells (grantC g.m g.k g.s g.f) 55 (0, 0)) := heap_alloc_new _ _
  have hI := hI.keep hA
  have hBW := hBW.keep hA
  generalize hcb : W.heap.size = cb at hK hcp
  generalize W.alloc (.cells (grantC g.m g.k g.s g.f) 55) = W1 at hA hcp hI hBW
  have hK : Fm 280 [(23, ptr cb), (112, .int .i64 i), (110, .slice (some ⟨gb, 0, none⟩) gs.length gs.length), (111, .int .i64 gs.length), (7, .int .u64 (me : Nat)), (8, ptr H), (9, ptr rs), (10, ptr wt), (14, .slice (some ⟨gb, 0, none⟩) gs.length gs.length), (18, ptr gt), (19, ptr gn), (20, ptr gf), (21, .map (some sm))] a := hK.sub _ (by repeat (first | exact trivial | refine ⟨rfl, ?_⟩))
  show Code.wp _ (.seq (.region _ (opsOf Yba.f3 [1, 1, 1, 1, 1, 1, 1, 1, 1, 1, 1, 1, 1, 1, 1, 0, 1, 5, 4, 1, 1, 0, 5, 1, 0]) false) (codeOf Yba.f3 [1, 1, 1, 1, 1, 1, 1, 1, 1, 1, 1, 1, 1, 1, 1, 0, 1, 5, 4, 1, 1, 0, 5, 1, 1])) _ _ _
  refine srg ?_
  show wpList _ (opsOf Yba.f3 [1, 1, 1, 1, 1, 1, 1, 1, 1, 1, 1, 1, 1, 1, 1, 0, 1, 5, 4, 1, 1, 0, 5, 1, 0]) _ [opAt Yba.f3 [1, 1, 1, 1, 1, 1, 1, 1, 1, 1, 1, 1, 1, 1, 1, 0, 1, 5, 4, 1, 1, 0, 5, 1, 0] 0, opAt Yba.f3 [1, 1, 1, 1, 1, 1, 1, 1, 1, 1, 1, 1, 1, 1, 1, 0, 1, 5, 4, 1, 1, 0, 5, 1, 0] 1, opAt Yba.f3 [1, 1, 1, 1, 1, 1, 1, 1, 1, 1, 1, 1, 1, 1, 1, 0, 1, 5, 4, 1, 1, 0, 5, 1, 0] 2, opAt Yba.f3 [1, 1, 1, 1, 1, 1, 1, 1, 1, 1, 1, 1, 1, 1, 1, 0, 1, 5, 4, 1, 1, 0, 5, 1, 0] 3] _ _
  refine stFa hK (wn rfl) rfl rfl 0 (fun b w => by kernel_rfl) rfl (by decide) fun a hK => ?_
  refine stFa hK (wn rfl) rfl rfl 1 (fun b w => by kernel_rfl) rfl (by decide) fun a hK => ?_
  refine stLd hK (wn rfl) rfl rfl ((cell_at hcp 1).trans (rfl : _ = some (Value.int .u64 (g.k : Nat)))) (fun w => by kernel_rfl) rfl (by decide) fun a hK => ?_
  refine stAs hK (wn rfl) rfl rfl rfl (by decide) fun a hK => ?_
  have hK : Fm 280 [(24, .int .u64 (g.k : Nat)), (23, ptr cb), (112, .int .i64 i), (110, .slice (some ⟨gb, 0, none⟩) gs.length gs.length), (111, .int .i64 gs.length), (7, .int .u64 (me : Nat)), (8, ptr H), (9, ptr rs), (10, ptr wt), (14, .slice (some ⟨gb, 0, none⟩) gs.length gs.length), (18, ptr gt), (19, ptr gn), (20, ptr gf), (21, .map (some sm))] a := hK.sub _ (by repeat (first | exact trivial | refine ⟨rfl, ?_⟩))
  have hskip : ∀ a, Fm 280 [(134, .bool false), (112, .int .i64 i), (110, .slice (some ⟨gb, 0, none⟩) gs.length gs.length), (111, .int .i64 gs.length), (7, .int .u64 (me : Nat)), (8, ptr H), (9, ptr rs), (10, ptr wt), (14, .slice (some ⟨gb, 0, none⟩) gs.length gs.length), (18, ptr gt), (19, ptr gn), (20, ptr gf), (21, .map (some sm))] a → takes (fun k => (R k).isSome) me S g = false → Code.wp Yba.prog (codeOf Yba.f3 [1, 1, 1, 1, 1, 1, 1, 1, 1, 1, 1, 1, 1, 1, 1, 0, 1, 5, 4, 1, 1, 0, 5, 1, 1, 1]) Q a W1 := by
    intro a hK ht
    rw [takes_false ht] at hQ
    show Code.wp _ (.cond (.tmp 134) (codeOf Yba.f3 [1, 1, 1, 1, 1, 1, 1, 1, 1, 1, 1, 1, 1, 1, 1, 0, 1, 5, 4, 1, 1, 0, 5, 1, 1, 1, 2]) .skip) _ _ _
    refine wp_cond_false (hK.op rfl) (wp_skip ?_)
    exact hQ a W1 (hK.sub _ (by repeat (first | exact trivial | refine ⟨rfl, ?_⟩))) hI
  show Code.wp _ (.seq (.region _ (opsOf Yba.f3 [1, 1, 1, 1, 1, 1, 1, 1, 1, 1, 1, 1, 1, 1, 1, 0, 1, 5, 4, 1, 1, 0, 5, 1, 1, 0]) false) (codeOf Yba.f3 [1, 1, 1, 1, 1, 1, 1, 1, 1, 1, 1, 1, 1, 1, 1, 0, 1, 5, 4, 1, 1, 0, 5, 1, 1, 1])) _ _ _
  refine srg ?_
  show wpList _ (opsOf Yba.f3 [1, 1, 1, 1, 1, 1, 1, 1, 1, 1, 1, 1, 1, 1, 1, 0, 1, 5, 4, 1, 1, 0, 5, 1, 1, 0]) _ [opAt Yba.f3 [1, 1, 1, 1, 1, 1, 1, 1, 1, 1, 1, 1, 1, 1, 1, 0, 1, 5, 4, 1, 1, 0, 5, 1, 1, 0] 0, opAt Yba.f3 [1, 1, 1, 1, 1, 1, 1, 1, 1, 1, 1, 1, 1, 1, 1, 0, 1, 5, 4, 1, 1, 0, 5, 1, 1, 0] 1, opAt Yba.f3 [1, 1, 1, 1, 1, 1, 1, 1, 1, 1, 1, 1, 1, 1, 1, 0, 1, 5, 4, 1, 1, 0, 5, 1, 1, 0] 2, opAt Yba.f3 [1, 1, 1, 1, 1, 1, 1, 1, 1, 1, 1, 1, 1, 1, 1, 0, 1, 5, 4, 1, 1, 0, 5, 1, 1, 0] 3, opAt Yba.f3 [1, 1, 1, 1, 1, 1, 1, 1, 1, 1, 1, 1, 1, 1, 1, 0, 1, 5, 4, 1, 1, 0, 5, 1, 1, 0] 4, opAt Yba.f3 [1, 1, 1, 1, 1, 1, 1, 1, 1, 1, 1, 1, 1, 1, 1, 0, 1, 5, 4, 1, 1, 0, 5, 1, 1, 0] 5, opAt Yba.f3 [1, 1, 1, 1, 1, 1, 1, 1, 1, 1, 1, 1, 1, 1, 1, 0, 1, 5, 4, 1, 1, 0, 5, 1, 1, 0] 6, opAt Yba.f3 [1, 1, 1, 1, 1, 1, 1, 1, 1, 1, 1, 1, 1, 1, 1, 0, 1, 5, 4, 1, 1, 0, 5, 1, 1, 0] 7, opAt Yba.f3 [1, 1, 1, 1, 1, 1, 1, 1, 1, 1, 1, 1, 1, 1, 1, 0, 1, 5, 4, 1, 1, 0, 5, 1, 1, 0] 8, opAt Yba.f3 [1, 1, 1, 1, 1, 1, 1, 1, 1, 1, 1, 1, 1, 1, 1, 0, 1, 5, 4, 1, 1, 0, 5, 1, 1, 0] 9, opAt Yba.f3 [1, 1, 1, 1, 1, 1, 1, 1, 1, 1, 1, 1, 1, 1, 1, 0, 1, 5, 4, 1, 1, 0, 5, 1, 1, 0] 10, opAt Yba.f3 [1, 1, 1, 1, 1, 1, 1, 1, 1, 1, 1, 1, 1, 1, 1, 0, 1, 5, 4, 1, 1, 0, 5, 1, 1, 0] 11, opAt Yba.f3 [1, 1, 1, 1, 1, 1, 1, 1, 1, 1, 1, 1, 1, 1, 1, 0, 1, 5, 4, 1, 1, 0, 5, 1, 1, 0] 12, opAt Yba.f3 [1, 1, 1, 1, 1, 1, 1, 1, 1, 1, 1, 1, 1, 1, 1, 0, 1, 5, 4, 1, 1, 0, 5, 1, 1, 0] 13, opAt Yba.f3 [1, 1, 1, 1, 1, 1, 1, 1, 1, 1, 1, 1, 1, 1, 1, 0, 1, 5, 4, 1, 1, 0, 5, 1, 1, 0] 14, opAt Yba.f3 [1, 1, 1, 1, 1, 1, 1, 1, 1, 1, 1, 1, 1, 1, 1, 0, 1, 5, 4, 1, 1, 0, 5, 1, 1, 0] 15] _ _
  refine stFa hK (wn rfl) rfl rfl 0 (fun b w => by kernel_rfl) rfl (by decide) fun a hK => ?_
  refine stFa hK (wn rfl) rfl rfl 0 (fun b w => by kernel_rfl) rfl (by decide) fun a hK => ?_
  refine stLd hK (wn rfl) rfl rfl ((cell_at hcp 0).trans (rfl : _ = some (Value.int .u64 (g.m : Nat)))) (fun w => by kernel_rfl) rfl (by decide) fun a hK => ?_
  refine stMv hK (wn rfl) rfl rfl rfl (by decide) fun a hK => ?_
  by_cases hme : g.m = me
  · refine stBin hK (wn rfl) rfl rfl rfl (u_eq25 (r := true) (decide_eq_true hme)) rfl (by decide) fun a hK => ?_
    refine stMv hK (wn rfl) rfl rfl rfl (by decide) fun a hK => ?_
    refine stMv hK (hK.wy rfl rfl rfl (by decide)) rfl rfl rfl (by decide) fun a hK => ?_
    refine st hK (hK.wy rfl rfl rfl (by decide)) (run_idxR 30 4 _ _ rfl 8 Yba.underlying30 wt (hK.op rfl) .u64 g.k (hK.op rfl) hk8 (fun w => by kernel_rfl) _) rfl (by decide) fun a hK => ?_
    refine stLd hK (hK.wy rfl rfl rfl (by decide)) rfl rfl ((cell_at hBW.wtb g.k).trans (arr8_get _ g.k hk8)) (fun w => by kernel_rfl) rfl (by decide) fun a hK => ?_
    cases hw : (R g.k).isSome with
    | false =>
      rw [hw] at hK
      refine stPick hK (wn rfl) rfl rfl rfl rfl rfl (by decide) fun a hK => ?_
      refine stMv hK (wn rfl) rfl rfl rfl (by decide) fun a hK => ?_
      refine stSkip hK (hK.wno rfl rfl rfl (by decide)) rfl (by decide) fun a hK => ?_
      refine stSkip hK (hK.wno rfl rfl rfl (by decide)) rfl (by decide) fun a hK => ?_
      refine stSkip hK (hK.wno rfl rfl rfl (by decide)) rfl (by decide) fun a hK => ?_
      refine stSkip hK (hK.wno rfl rfl rfl (by decide)) rfl (by decide) fun a hK => ?_
      refine stPick hK (wn rfl) rfl rfl rfl rfl rfl (by decide) fun a hK => ?_
      exact hskip a (hK.sub _ (by repeat (first | exact trivial | refine ⟨rfl, ?_⟩))) (by simp [takes, hw])
    | true =>
      rw [hw] at hK
      refine stPick hK (wn rfl) rfl rfl rfl rfl rfl (by decide) fun a hK => ?_
      refine stMv hK (wn rfl) rfl rfl rfl (by decide) fun a hK => ?_
      refine stMv hK (hK.wy rfl rfl rfl (by decide)) rfl rfl rfl (by decide) fun a hK => ?_
      refine st hK (hK.wy rfl rfl rfl (by decide)) (run_idxR 30 4 _ _ rfl 8 Yba.underlying30 gt (hK.op rfl) .u64 g.k (hK.op rfl) hk8 (fun w => by kernel_rfl) _) rfl (by decide) fun a hK => ?_
      refine stLd hK (hK.wy rfl rfl rfl (by decide)) rfl rfl ((cell_at hI.gtb g.k).trans (arr8_get _ g.k hk8)) (fun w => by kernel_rfl) rfl (by decide) fun a hK => ?_
      refine stNot hK (hK.wy rfl rfl rfl (by decide)) rfl rfl rfl (by decide) fun a hK => ?_
      refine stPick hK (wn rfl) rfl rfl rfl rfl rfl (by decide) fun a hK => ?_
      cases hgk : (S.got g.k).isSome with
      | true =>
        rw [hgk] at hK
        exact hskip a (hK.sub _ (by repeat (first | exact trivial | refine ⟨rfl, ?_⟩))) (by simp [takes, hgk])
      | false =>
        rw [hgk] at hK
        have ht : takes (fun k => (R k).isSome) me S g = true := by simp [takes, hgk, hw, hme]
        rw [takes_true ht] at hQ
        have hK : Fm 280 [(134, .bool true), (24, .int .u64 (g.k : Nat)), (23, ptr cb), (112, .int .i64 i), (110, .slice (some ⟨gb, 0, none⟩) gs.length gs.length), (111, .int .i64 gs.length), (7, .int .u64 (me : Nat)), (8, ptr H), (9, ptr rs), (10, ptr wt), (14, .slice (some ⟨gb, 0, none⟩) gs.length gs.length), (18, ptr gt), (19, ptr gn), (20, ptr gf), (21, .map (some sm))] a := hK.sub _ (by repeat (first | exact trivial | refine ⟨rfl, ?_⟩))
        show Code.wp _ (.cond (.tmp 134) (.seq (.region _ (opsOf Yba.f3 [1, 1, 1, 1, 1, 1, 1, 1, 1, 1, 1, 1, 1, 1, 1, 0, 1, 5, 4, 1, 1, 0, 5, 1, 1, 1, 2, 0]) false) (codeOf Yba.f3 [1, 1, 1, 1, 1, 1, 1, 1, 1, 1, 1, 1, 1, 1, 1, 0, 1, 5, 4, 1, 1, 0, 5, 1, 1, 1, 2, 1])) .skip) _ _ _
        refine wp_cond_true (hK.op rfl) (srg ?_)
        obtain ⟨es, c0, hsm, hSM⟩ := hI.smb
        have n_gt_gn : gt ≠ gn := ne_of hI.gtb hI.gnb (by intro e; injection e with _ e2 _; exact absurd e2 (by decide))
        have n_gt_gf : gt ≠ gf := ne_of hI.gtb hI.gfb (by intro e; injection e with _ e2 _; exact absurd e2 (by decide))
        have n_gn_gf : gn ≠ gf := ne_of hI.gnb hI.gfb (by intro e; injection e with _ e2 _; exact absurd e2 (by decide))
        have n_gt_cb : gt ≠ cb := ne_of hI.gtb hcp (by intro e; injection e with _ e2 _; exact absurd e2 (by decide))
        have n_gn_cb : gn ≠ cb := ne_of hI.gnb hcp (by intro e; injection e with _ e2 _; exact absurd e2 (by decide))
        have n_gf_cb : gf ≠ cb := ne_of hI.gfb hcp (by intro e; injection e with _ e2 _; exact absurd e2 (by decide))
        have n_gt_sm : gt ≠ sm := ne_of hI.gtb hsm (by intro e; cases e)
        have n_gn_sm : gn ≠ sm := ne_of hI.gnb hsm (by intro e; cases e)
        have n_gf_sm : gf ≠ sm := ne_of hI.gfb hsm (by intro e; cases e)
        have n_cb_sm : cb ≠ sm := ne_of hcp hsm (by intro e; cases e)
        show wpList _ (opsOf Yba.f3 [1, 1, 1, 1, 1, 1, 1, 1, 1, 1, 1, 1, 1, 1, 1, 0, 1, 5, 4, 1, 1, 0, 5, 1, 1, 1, 2, 0]) _ [opAt Yba.f3 [1, 1, 1, 1, 1, 1, 1, 1, 1, 1, 1, 1, 1, 1, 1, 0, 1, 5, 4, 1, 1, 0, 5, 1, 1, 1, 2, 0] 0, opAt Yba.f3 [1, 1, 1, 1, 1, 1, 1, 1, 1, 1, 1, 1, 1, 1, 1, 0, 1, 5, 4, 1, 1, 0, 5, 1, 1, 1, 2, 0] 1, opAt Yba.f3 [1, 1, 1, 1, 1, 1, 1, 1, 1, 1, 1, 1, 1, 1, 1, 0, 1, 5, 4, 1, 1, 0, 5, 1, 1, 1, 2, 0] 2] _ _
        refine stMv hK (wn rfl) rfl rfl rfl (by decide) fun a hK => ?_
        refine st hK (wn rfl) (run_idxR 30 4 _ _ rfl 8 Yba.underlying30 gt (hK.op rfl) .u64 g.k (hK.op rfl) hk8 (fun w => by kernel_rfl) _) rfl (by decide) fun a hK => ?_
        refine stStore hK rfl rfl rfl rfl (fun w => by kernel_rfl) rfl rfl hI.gtb hk8 rfl fun W2 f2 _ hgt2 => ?_
        have hcp2 := f2.keep hcp (by simpa using n_gt_cb.symm)
        have hgn2 := f2.keep hI.gnb (by simpa using n_gt_gn.symm)
        have hgf2 := f2.keep hI.gfb (by simpa using n_gt_gf.symm)
        have hsm2 := f2.keep hsm (by simpa using n_gt_sm.symm)
        have F2 := (hI.fr.mono (l' := [gt, gn, gf, sm]) (by simp)).andThen f2 (by simp)
        show Code.wp _ (.seq (.region _ (opsOf Yba.f3 [1, 1, 1, 1, 1, 1, 1, 1, 1, 1, 1, 1, 1, 1, 1, 0, 1, 5, 4, 1, 1, 0, 5, 1, 1, 1, 2, 1, 0]) false) (codeOf Yba.f3 [1, 1, 1, 1, 1, 1, 1, 1, 1, 1, 1, 1, 1, 1, 1, 0, 1, 5, 4, 1, 1, 0, 5, 1, 1, 1, 2, 1, 1])) _ _ _
        refine srg ?_
        show wpList _ (opsOf Yba.f3 [1, 1, 1, 1, 1, 1, 1, 1, 1, 1, 1, 1, 1, 1, 1, 0, 1, 5, 4, 1, 1, 0, 5, 1, 1, 1, 2, 1, 0]) _ [opAt Yba.f3 [1, 1, 1, 1, 1, 1, 1, 1, 1, 1, 1, 1, 1, 1, 1, 0, 1, 5, 4, 1, 1, 0, 5, 1, 1, 1, 2, 1, 0] 0, opAt Yba.f3 [1, 1, 1, 1, 1, 1, 1, 1, 1, 1, 1, 1, 1, 1, 1, 0, 1, 5, 4, 1, 1, 0, 5, 1, 1, 1, 2, 1, 0] 1, opAt Yba.f3 [1, 1, 1, 1, 1, 1, 1, 1, 1, 1, 1, 1, 1, 1, 1, 0, 1, 5, 4, 1, 1, 0, 5, 1, 1, 1, 2, 1, 0] 2, opAt Yba.f3 [1, 1, 1, 1, 1, 1, 1, 1, 1, 1, 1, 1, 1, 1, 1, 0, 1, 5, 4, 1, 1, 0, 5, 1, 1, 1, 2, 1, 0] 3, opAt Yba.f3 [1, 1, 1, 1, 1, 1, 1, 1, 1, 1, 1, 1, 1, 1, 1, 0, 1, 5, 4, 1, 1, 0, 5, 1, 1, 1, 2, 1, 0] 4] _ _
        refine stMv hK (wn rfl) rfl rfl rfl (by decide) fun a hK => ?_
        refine stFa hK (wn rfl) rfl rfl 2 (fun b w => by kernel_rfl) rfl (by decide) fun a hK => ?_
        refine stLd hK (wn rfl) rfl rfl ((cell_at hcp2 2).trans (rfl : _ = some (Value.string g.s))) (fun w => by kernel_rfl) rfl (by decide) fun a hK => ?_
        refine st hK (wn rfl) (run_idxR 106 9 _ _ rfl 8 Yba.underlying106 gn (hK.op rfl) .u64 g.k (hK.op rfl) hk8 (fun w => by kernel_rfl) _) rfl (by decide) fun a hK => ?_
        refine stStore hK rfl rfl rfl rfl (fun w => by kernel_rfl) rfl rfl hgn2 hk8 rfl fun W3 f3 _ hgn3 => ?_
        have hcp3 := f3.keep hcp2 (by simpa using n_gn_cb.symm)
        have hgt3 := f3.keep hgt2 (by simpa using n_gt_gn)
        have hgf3 := f3.keep hgf2 (by simpa using n_gn_gf.symm)
        have hsm3 := f3.keep hsm2 (by simpa using n_gn_sm.symm)
        have F3 := F2.andThen f3 (by simp)
        show Code.wp _ (.seq (.region _ (opsOf Yba.f3 [1, 1, 1, 1, 1, 1, 1, 1, 1, 1, 1, 1, 1, 1, 1, 0, 1, 5, 4, 1, 1, 0, 5, 1, 1, 1, 2, 1, 1, 0]) false) (.region _ (opsOf Yba.f3 [1, 1, 1, 1, 1, 1, 1, 1, 1, 1, 1, 1, 1, 1, 1, 0, 1, 5, 4, 1, 1, 0, 5, 1, 1, 1, 2, 1, 1, 1]) false)) _ _ _
        refine srg ?_
        show wpList _ (opsOf Yba.f3 [1, 1, 1, 1, 1, 1, 1, 1, 1, 1, 1, 1, 1, 1, 1, 0, 1, 5, 4, 1, 1, 0, 5, 1, 1, 1, 2, 1, 1, 0]) _ [opAt Yba.f3 [1, 1, 1, 1, 1, 1, 1, 1, 1, 1, 1, 1, 1, 1, 1, 0, 1, 5, 4, 1, 1, 0, 5, 1, 1, 1, 2, 1, 1, 0] 0, opAt Yba.f3 [1, 1, 1, 1, 1, 1, 1, 1, 1, 1, 1, 1, 1, 1, 1, 0, 1, 5, 4, 1, 1, 0, 5, 1, 1, 1, 2, 1, 1, 0] 1, opAt Yba.f3 [1, 1, 1, 1, 1, 1, 1, 1, 1, 1, 1, 1, 1, 1, 1, 0, 1, 5, 4, 1, 1, 0, 5, 1, 1, 1, 2, 1, 1, 0] 2, opAt Yba.f3 [1, 1, 1, 1, 1, 1, 1, 1, 1, 1, 1, 1, 1, 1, 1, 0, 1, 5, 4, 1, 1, 0, 5, 1, 1, 1, 2, 1, 1, 0] 3, opAt Yba.f3 [1, 1, 1, 1, 1, 1, 1, 1, 1, 1, 1, 1, 1, 1, 1, 0, 1, 5, 4, 1, 1, 0, 5, 1, 1, 1, 2, 1, 1, 0] 4] _ _
        refine stMv hK (wn rfl) rfl rfl rfl (by decide) fun a hK => ?_
        refine stFa hK (wn rfl) rfl rfl 3 (fun b w => by kernel_rfl) rfl (by decide) fun a hK => ?_
        refine stLd hK (wn rfl) rfl rfl ((cell_at hcp3 3).trans (rfl : _ = some (Value.int .u64 g.f))) (fun w => by kernel_rfl) rfl (by decide) fun a hK => ?_
        refine st hK (wn rfl) (run_idxR 107 22 _ _ rfl 8 Yba.underlying107 gf (hK.op rfl) .u64 g.k (hK.op rfl) hk8 (fun w => by kernel_rfl) _) rfl (by decide) fun a hK => ?_
        refine stStore hK rfl rfl rfl rfl (fun w => by kernel_rfl) rfl rfl hgf3 hk8 rfl fun W4 f4 _ hgf4 => ?_
        have hcp4 := f4.keep hcp3 (by simpa using n_gf_cb.symm)
        have hgt4 := f4.keep hgt3 (by simpa using n_gt_gf)
        have hgn4 := f4.keep hgn3 (by simpa using n_gn_gf)
        have hsm4 := f4.keep hsm3 (by simpa using n_gf_sm.symm)
        have F4 := F3.andThen f4 (by simp)
        obtain ⟨es', c', hput, hSM'⟩ := sm_put (P := Yba.prog) (w := W4) Yba.underlying108 Yba.underlying9 hSM hsm4 g.s (.int .u64 (g.k : Nat))
        have f5 := fr_setB W4 sm (.map es' c')
        have F5 : Fr [] wB (setB W4 sm (.map es' c')) := (F4.andThen f5 (by simp)).fresh (by simp; omega)
        show Code.wp _ (.region _ (opsOf Yba.f3 [1, 1, 1, 1, 1, 1, 1, 1, 1, 1, 1, 1, 1, 1, 1, 0, 1, 5, 4, 1, 1, 0, 5, 1, 1, 1, 2, 1, 1, 1]) false) _ _ _
        refine wp_region_list ?_
        show wpList _ (opsOf Yba.f3 [1, 1, 1, 1, 1, 1, 1, 1, 1, 1, 1, 1, 1, 1, 1, 0, 1, 5, 4, 1, 1, 0, 5, 1, 1, 1, 2, 1, 1, 1]) _ [opAt Yba.f3 [1, 1, 1, 1, 1, 1, 1, 1, 1, 1, 1, 1, 1, 1, 1, 0, 1, 5, 4, 1, 1, 0, 5, 1, 1, 1, 2, 1, 1, 1] 0, opAt Yba.f3 [1, 1, 1, 1, 1, 1, 1, 1, 1, 1, 1, 1, 1, 1, 1, 0, 1, 5, 4, 1, 1, 0, 5, 1, 1, 1, 2, 1, 1, 1] 1, opAt Yba.f3 [1, 1, 1, 1, 1, 1, 1, 1, 1, 1, 1, 1, 1, 1, 1, 0, 1, 5, 4, 1, 1, 0, 5, 1, 1, 1, 2, 1, 1, 1] 2, opAt Yba.f3 [1, 1, 1, 1, 1, 1, 1, 1, 1, 1, 1, 1, 1, 1, 1, 0, 1, 5, 4, 1, 1, 0, 5, 1, 1, 1, 2, 1, 1, 1] 3, opAt Yba.f3 [1, 1, 1, 1, 1, 1, 1, 1, 1, 1, 1, 1, 1, 1, 1, 0, 1, 5, 4, 1, 1, 0, 5, 1, 1, 1, 2, 1, 1, 1] 4] _ _
        refine stMv hK (wn rfl) rfl rfl rfl (by decide) fun a hK => ?_
        refine stFa hK (wn rfl) rfl rfl 2 (fun b w => by kernel_rfl) rfl (by decide) fun a hK => ?_
        refine stLd hK (wn rfl) rfl rfl ((cell_at hcp4 2).trans (rfl : _ = some (Value.string g.s))) (fun w => by kernel_rfl) rfl (by decide) fun a hK => ?_
        refine stMv hK (wn rfl) rfl rfl rfl (by decide) fun a hK => ?_
        refine stMapPut hK rfl 108 rfl rfl rfl rfl hput rfl ?_
        refine hQ a _ (hK.sub _ (by repeat (first | exact trivial | refine ⟨rfl, ?_⟩))) ⟨F5, ?_, ?_, ?_, es', c', heap_setB W4 sm _ (lt_of_block hsm4), ?_⟩
        · rw [f5.keep hgt4 (by simpa using n_gt_sm), arr8_set _ _ hk8, arr8_upd (fun o : Option Gr => Value.bool o.isSome) S.got g.k (some g) (.bool true) rfl]
        · rw [f5.keep hgn4 (by simpa using n_gn_sm), arr8_set _ _ hk8, arr8_upd (fun o : Option Gr => Value.string (nameOf o)) S.got g.k (some g) (.string g.s) rfl]
        · rw [f5.keep hgf4 (by simpa using n_gf_sm), arr8_set _ _ hk8, arr8_upd (fun o : Option Gr => Value.int .u64 (fenceOf o)) S.got g.k (some g) (.int .u64 g.f) rfl]
        · rw [putA_map (fun k : Nat => Value.int .u64 (k : Int)) S.held g.s g.k] at hSM'; exact hSM'
  · refine stBin hK (wn rfl) rfl rfl rfl (u_eq25 (r := false) (decide_eq_false hme)) rfl (by decide) fun a hK => ?_
    refine stMv hK (wn rfl) rfl rfl rfl (by decide) fun a hK => ?_
    refine stSkip hK (hK.wno rfl rfl rfl (by decide)) rfl (by decide) fun a hK => ?_
    refine stSkip hK (hK.wno rfl rfl rfl (by decide)) rfl (by decide) fun a hK => ?_
    refine stSkip hK (hK.wno rfl rfl rfl (by decide)) rfl (by decide) fun a hK => ?_
    refine stPick hK (wn rfl) rfl rfl rfl rfl rfl (by decide) fun a hK => ?_
    refine stMv hK (wn rfl) rfl rfl rfl (by decide) fun a hK => ?_
    refine stSkip hK (hK.wno rfl rfl rfl (by decide)) rfl (by decide) fun a hK => ?_
    refine stSkip hK (hK.wno rfl rfl rfl (by decide)) rfl (by decide) fun a hK => ?_
    refine stSkip hK (hK.wno rfl rfl rfl (by decide)) rfl (by decide) fun a hK => ?_
    refine stSkip hK (hK.wno rfl rfl rfl (by decide)) rfl (by decide) fun a hK => ?_
    refine stPick hK (wn rfl) rfl rfl rfl rfl rfl (by decide) fun a hK => ?_
    exact hskip a (hK.sub _ (by repeat (first | exact trivial | refine ⟨rfl, ?_⟩))) (by unfold takes; rw [decide_eq_false hme]; rfl)

set_option maxRecDepth 20000 in
theorem c_loop {Q : Exit → Act → World → Prop} (w0 wB : World) (R : Nat → Option Nat) (L : Nat → Nat) (H wm hm rs wt gb me : Nat) (gs : List Gr) (hn : gs.length ≤ 1024) (h8 : ∀ g ∈ gs, g.k < 8) (Sf : PS) (hB : BS w0 R L H wm hm rs wt gb gs Sf wB) (gt gn gf sm : Nat) (hlo : wB.heap.size ≤ gt ∧ wB.heap.size ≤ gn ∧ wB.heap.size ≤ gf ∧ wB.heap.size ≤ sm) (a : Act) (W : World) (hK : Fm 280 [(7, .int .u64 (me : Nat)), (8, ptr H), (9, ptr rs), (10, ptr wt), (14, .slice (some ⟨gb, 0, none⟩) gs.length gs.length), (18, ptr gt), (19, ptr gn), (20, ptr gf), (21, .map (some sm))] a) (hI : CS wB gt gn gf sm PS.start W)
    (hx : ∀ a W, Fm 280 [(7, .int .u64 (me : Nat)), (8, ptr H), (9, ptr rs), (10, ptr wt), (14, .slice (some ⟨gb, 0, none⟩) gs.length gs.length), (18, ptr gt), (19, ptr gn), (20, ptr gf), (21, .map (some sm))] a → CS wB gt gn gf sm (runG (fun k => (R k).isSome) me gs) W → Code.wp Yba.prog (codeOf Yba.f3 [1, 1, 1, 1, 1, 1, 1, 1, 1, 1, 1, 1, 1, 1, 1, 1]) Q a W) :
    Code.wp Yba.prog (codeOf Yba.f3 [1, 1, 1, 1, 1, 1, 1, 1, 1, 1, 1, 1, 1, 1, 1]) Q a W := by
  show Code.wp _ (.seq (.seq (.region _ (opsOf Yba.f3 [1, 1, 1, 1, 1, 1, 1, 1, 1, 1, 1, 1, 1, 1, 1, 0, 0]) false) (.block 4 (.loop (codeOf Yba.f3 [1, 1, 1, 1, 1, 1, 1, 1, 1, 1, 1, 1, 1, 1, 1, 0, 1, 5, 4])))) (codeOf Yba.f3 [1, 1, 1, 1, 1, 1, 1, 1, 1, 1, 1, 1, 1, 1, 1, 1])) _ _ _
  refine wp_seq (srg ?_)
  show wpList _ (opsOf Yba.f3 [1, 1, 1, 1, 1, 1, 1, 1, 1, 1, 1, 1, 1, 1, 1, 0, 0]) _ [opAt Yba.f3 [1, 1, 1, 1, 1, 1, 1, 1, 1, 1, 1, 1, 1, 1, 1, 0, 0] 0, opAt Yba.f3 [1, 1, 1, 1, 1, 1, 1, 1, 1, 1, 1, 1, 1, 1, 1, 0, 0] 1, opAt Yba.f3 [1, 1, 1, 1, 1, 1, 1, 1, 1, 1, 1, 1, 1, 1, 1, 0, 0] 2] _ _
  refine stMv hK (wn rfl) rfl rfl rfl (by decide) fun a hK => ?_
  refine stLenS hK (wn rfl) rfl Yba.underlying49 rfl rfl (by decide) fun a hK => ?_
  refine stMv hK (wn rfl) rfl rfl rfl (by decide) fun a hK => ?_
  show Code.wp _ (.block 4 (.loop (codeOf Yba.f3 [1, 1, 1, 1, 1, 1, 1, 1, 1, 1, 1, 1, 1, 1, 1, 0, 1, 5, 4]))) _ _ _
  refine wp_block (wp_loop (fun a W => ∃ i : Nat, i ≤ gs.length ∧ Fm 280 [(112, .int .i64 i), (110, .slice (some ⟨gb, 0, none⟩) gs.length gs.length), (111, .int .i64 gs.length), (7, .int .u64 (me : Nat)), (8, ptr H), (9, ptr rs), (10, ptr wt), (14, .slice (some ⟨gb, 0, none⟩) gs.length gs.length), (18, ptr gt), (19, ptr gn), (20, ptr gf), (21, .map (some sm))] a ∧ CS wB gt gn gf sm (runG (fun k => (R k).isSome) me (gs.take i)) W) (fun a _ => gs.length - (intOf (a.eval (.tmp 112))).toNat) ⟨0, Nat.zero_le _, hK.sub _ (by repeat (first | exact trivial | refine ⟨rfl, ?_⟩)), hI⟩ ?_)
  rintro a W ⟨i, hi, hK, hI⟩
  have him : (intOf (a.eval (.tmp 112))).toNat = i := by rw [hK.get 112 (.int .i64 i) rfl]; simp [intOf]
  show Code.wp _ (.seq (.region _ (opsOf Yba.f3 [1, 1, 1, 1, 1, 1, 1, 1, 1, 1, 1, 1, 1, 1, 1, 0, 1, 5, 4, 0]) false) (.seq (.cond (.tmp 113) .skip (.exit 4)) (.seq (.block 5 (codeOf Yba.f3 [1, 1, 1, 1, 1, 1, 1, 1, 1, 1, 1, 1, 1, 1, 1, 0, 1, 5, 4, 1, 1, 0, 5])) (.region _ (opsOf Yba.f3 [1, 1, 1, 1, 1, 1, 1, 1, 1, 1, 1, 1, 1, 1, 1, 0, 1, 5, 4, 1, 1, 1]) false)))) _ _ _
  refine srg ?_
  show wpList _ (opsOf Yba.f3 [1, 1, 1, 1, 1, 1, 1, 1, 1, 1, 1, 1, 1, 1, 1, 0, 1, 5, 4, 0]) _ [opAt Yba.f3 [1, 1, 1, 1, 1, 1, 1, 1, 1, 1, 1, 1, 1, 1, 1, 0, 1, 5, 4, 0] 0] _ _
  by_cases hlt : i < gs.length
  · refine stBin hK (wn rfl) rfl rfl rfl (i_lt (r := true) (decide_eq_true (by omega))) rfl (by decide) fun a hK => ?_
    refine wp_seq (wp_cond_true (hK.op rfl) (wp_skip ?_))
    refine wp_seq (wp_block ?_)
    refine c_round w0 wB R L H wm hm rs wt gb me gs hn h8 Sf hB gt gn gf sm hlo a W i hlt (hK.sub _ (by repeat (first | exact trivial | refine ⟨rfl, ?_⟩))) hI fun a W hK hI => ?_
    show Code.wp _ (.region _ (opsOf Yba.f3 [1, 1, 1, 1, 1, 1, 1, 1, 1, 1, 1, 1, 1, 1, 1, 0, 1, 5, 4, 1, 1, 1]) false) _ _ _
    refine wp_region_list ?_
    show wpList _ (opsOf Yba.f3 [1, 1, 1, 1, 1, 1, 1, 1, 1, 1, 1, 1, 1, 1, 1, 0, 1, 5, 4, 1, 1, 1]) _ [opAt Yba.f3 [1, 1, 1, 1, 1, 1, 1, 1, 1, 1, 1, 1, 1, 1, 1, 0, 1, 5, 4, 1, 1, 1] 0, opAt Yba.f3 [1, 1, 1, 1, 1, 1, 1, 1, 1, 1, 1, 1, 1, 1, 1, 0, 1, 5, 4, 1, 1, 1] 1] _ _
    refine stBin hK (wn rfl) rfl rfl rfl (i_add (y := ((i + 1 : Nat) : Int)) (by omega) (by omega) (by omega)) rfl (by decide) fun a hK => ?_
    refine stMv hK (wn rfl) rfl rfl rfl (by decide) fun a hK => ?_
    refine ⟨⟨i + 1, hlt, hK.sub _ (by repeat (first | exact trivial | refine ⟨rfl, ?_⟩)), hI⟩, ?_⟩
    show gs.length - (intOf (a.eval (.tmp 112))).toNat < _
    rw [hK.get 112 (.int .i64 ((i + 1 : Nat) : Int)) rfl, him]
    simp only [intOf, Int.toNat_natCast]; omega
  · refine stBin hK (wn rfl) rfl rfl rfl (i_lt (r := false) (decide_eq_false (by omega))) rfl (by decide) fun a hK => ?_
    refine wp_seq (wp_cond_false (hK.op rfl) (wp_exit ?_))
    obtain rfl : i = gs.length := by omega
    rw [runG_all] at hI
    exact hx a W (hK.sub _ (by repeat (first | exact trivial | refine ⟨rfl, ?_⟩))) hI

set_option maxRecDepth 20000 in
theorem c_all {Q : Exit → Act → World → Prop} (w0 wB : World) (R : Nat → Option Nat) (L : Nat → Nat) (H wm hm rs wt gb me : Nat) (gs : List Gr) (hn : gs.length ≤ 1024) (h8 : ∀ g ∈ gs, g.k < 8) (Sf : PS) (hB : BS w0 R L H wm hm rs wt gb gs Sf wB) (a : Act) (hK : Fm 280 [(7, .int .u64 (me : Nat)), (8, ptr H), (9, ptr rs), (10, ptr wt), (14, .slice (some ⟨gb, 0, none⟩) gs.length gs.length)] a)
    (hx : ∀ gt gn gf sm a W, Fm 280 [(7, .int .u64 (me : Nat)), (8, ptr H), (9, ptr rs), (10, ptr wt), (14, .slice (some ⟨gb, 0, none⟩) gs.length gs.length), (18, ptr gt), (19, ptr gn), (20, ptr gf), (21, .map (some sm))] a → CS wB gt gn gf sm (runG (fun k => (R k).isSome) me gs) W → Code.wp Yba.prog (codeOf Yba.f3 [1, 1, 1, 1, 1, 1, 1, 1, 1, 1, 1, 1, 1, 1, 1, 1]) Q a W) :
    Code.wp Yba.prog (codeOf Yba.f3 [1, 1, 1, 1, 1, 1, 1, 1, 1, 1, 1]) Q a wB := by
  show Code.wp _ (.seq (.region _ (opsOf Yba.f3 [1, 1, 1, 1, 1, 1, 1, 1, 1, 1, 1, 0]) false) (codeOf Yba.f3 [1, 1, 1, 1, 1, 1, 1, 1, 1, 1, 1, 1])) _ _ _
  refine srg ?_
  show wpList _ (opsOf Yba.f3 [1, 1, 1, 1, 1, 1, 1, 1, 1, 1, 1, 0]) _ [opAt Yba.f3 [1, 1, 1, 1, 1, 1, 1, 1, 1, 1, 1, 0] 0] _ _
  refine st hK (wn rfl) (run_allocOp 30 rfl (arr8 fun _ => .bool false) _ (by kernel_rfl)) rfl (by decide) fun a hK => ?_
  show Code.wp _ (codeOf Yba.f3 [1, 1, 1, 1, 1, 1, 1, 1, 1, 1, 1, 1]) _ _ _
  have f_gt : Fr [] wB (wB.alloc (.cells (arr8 fun _ => .bool false) 30)) := (Fr.refl _ _).alloc _
  have h_gt : (wB.alloc (.cells (arr8 fun _ => .bool false) 30)).heap[wB.heap.size]? = some (.cells (arr8 fun _ => .bool false) 30 (0, 0)) := heap_alloc_new _ _
  have l_gt : wB.heap.size ≤ wB.heap.size := Nat.le_refl _
  obtain ⟨gt, egt⟩ : ∃ gt, gt = wB.heap.size := ⟨_, rfl⟩
  rw [← egt] at hK h_gt
  generalize wB.alloc (.cells (arr8 fun _ => .bool false) 30) = W1 at f_gt h_gt
  show Code.wp _ (.seq (.region _ (opsOf Yba.f3 [1, 1, 1, 1, 1, 1, 1, 1, 1, 1, 1, 1, 0]) false) (codeOf Yba.f3 [1, 1, 1, 1, 1, 1, 1, 1, 1, 1, 1, 1, 1])) _ _ _
  refine srg ?_
  show wpList _ (opsOf Yba.f3 [1, 1, 1, 1, 1, 1, 1, 1, 1, 1, 1, 1, 0]) _ [opAt Yba.f3 [1, 1, 1, 1, 1, 1, 1, 1, 1, 1, 1, 1, 0] 0] _ _
  refine st hK (wn rfl) (run_allocOp 106 rfl (arr8 fun _ => .string ByteArray.empty) _ (by kernel_rfl)) rfl (by decide) fun a hK => ?_
  show Code.wp _ (codeOf Yba.f3 [1, 1, 1, 1, 1, 1, 1, 1, 1, 1, 1, 1, 1]) _ _ _
  have f_gn : Fr [] W1 (W1.alloc (.cells (arr8 fun _ => .string ByteArray.empty) 106)) := (Fr.refl _ _).alloc _
  have h_gn : (W1.alloc (.cells (arr8 fun _ => .string ByteArray.empty) 106)).heap[W1.heap.size]? = some (.cells (arr8 fun _ => .string ByteArray.empty) 106 (0, 0)) := heap_alloc_new _ _
  have l_gn : wB.heap.size ≤ W1.heap.size := f_gt.size
  generalize W1.heap.size = gn at hK h_gn l_gn
  generalize W1.alloc (.cells (arr8 fun _ => .string ByteArray.empty) 106) = W2 at f_gn h_gn
  show Code.wp _ (.seq (.region _ (opsOf Yba.f3 [1, 1, 1, 1, 1, 1, 1, 1, 1, 1, 1, 1, 1, 0]) false) (codeOf Yba.f3 [1, 1, 1, 1, 1, 1, 1, 1, 1, 1, 1, 1, 1, 1])) _ _ _
  refine srg ?_
  show wpList _ (opsOf Yba.f3 [1, 1, 1, 1, 1, 1, 1, 1, 1, 1, 1, 1, 1, 0]) _ [opAt Yba.f3 [1, 1, 1, 1, 1, 1, 1, 1, 1, 1, 1, 1, 1, 0] 0] _ _
  refine st hK (wn rfl) (run_allocOp 107 rfl (arr8 fun _ => .int .u64 0) _ (by kernel_rfl)) rfl (by decide) fun a hK => ?_
  show Code.wp _ (codeOf Yba.f3 [1, 1, 1, 1, 1, 1, 1, 1, 1, 1, 1, 1, 1, 1]) _ _ _
  have f_gf : Fr [] W2 (W2.alloc (.cells (arr8 fun _ => .int .u64 0) 107)) := (Fr.refl _ _).alloc _
  have h_gf : (W2.alloc (.cells (arr8 fun _ => .int .u64 0) 107)).heap[W2.heap.size]? = some (.cells (arr8 fun _ => .int .u64 0) 107 (0, 0)) := heap_alloc_new _ _
  have l_gf : wB.heap.size ≤ W2.heap.size := (f_gt.trans f_gn).size
  generalize W2.heap.size = gf at hK h_gf l_gf
  generalize W2.alloc (.cells (arr8 fun _ => .int .u64 0) 107) = W3 at f_gf h_gf
  show Code.wp _ (.seq (.region _ (opsOf Yba.f3 [1, 1, 1, 1, 1, 1, 1, 1, 1, 1, 1, 1, 1, 1, 0]) false) (codeOf Yba.f3 [1, 1, 1, 1, 1, 1, 1, 1, 1, 1, 1, 1, 1, 1, 1])) _ _ _
  refine srg ?_
  show wpList _ (opsOf Yba.f3 [1, 1, 1, 1, 1, 1, 1, 1, 1, 1, 1, 1, 1, 1, 0]) _ [opAt Yba.f3 [1, 1, 1, 1, 1, 1, 1, 1, 1, 1, 1, 1, 1, 1, 0] 0, opAt Yba.f3 [1, 1, 1, 1, 1, 1, 1, 1, 1, 1, 1, 1, 1, 1, 0] 1] _ _
  refine st hK (wn rfl) (run_mkMap 108 rfl _) rfl (by decide) fun a hK => ?_
  refine stAs hK (wn rfl) rfl rfl rfl (by decide) fun a hK => ?_
  show Code.wp _ (codeOf Yba.f3 [1, 1, 1, 1, 1, 1, 1, 1, 1, 1, 1, 1, 1, 1, 1]) _ _ _
  have f_sm : Fr [] W3 (W3.alloc (.map #[] 0)) := (Fr.refl _ _).alloc _
  have h_sm : (W3.alloc (.map #[] 0)).heap[W3.heap.size]? = some (.map #[] 0) := heap_alloc_new _ _
  have l_sm : wB.heap.size ≤ W3.heap.size := ((f_gt.trans f_gn).trans f_gf).size
  generalize W3.heap.size = sm at hK h_sm l_sm
  generalize W3.alloc (.map #[] 0) = W4 at f_sm h_sm
  refine c_loop w0 wB R L H wm hm rs wt gb me gs hn h8 Sf hB gt gn gf sm ⟨by omega, l_gn, l_gf, l_sm⟩ a W4 (hK.sub _ (by repeat (first | exact trivial | refine ⟨rfl, ?_⟩))) ?_ fun a W hK hI => hx gt gn gf sm a W hK hI
  exact ⟨((f_gt.trans f_gn).trans f_gf).trans f_sm, f_sm.keep (f_gf.keep (f_gn.keep h_gt (by simp)) (by simp)) (by simp), f_sm.keep (f_gf.keep h_gn (by simp)) (by simp), f_sm.keep h_gf (by simp), #[], 0, h_sm, SM.nil⟩

end Go.Proofs.Ybulkaevs
