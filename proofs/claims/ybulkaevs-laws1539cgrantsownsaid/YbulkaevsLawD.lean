import Derived.Test.YbulkaevsLawC
namespace Go.Proofs.Ybulkaevs
open Go.RowKit

set_option maxRecDepth 20000 in
set_option maxHeartbeats 1600000 in
/-- One request looked at. -/
theorem d_round {Q : Exit → Act → World → Prop} (w0 wB : World) (R : Nat → Option Nat) (L : Nat → Nat) (H wm hm rs wt gb : Nat) (gs : List Gr) (S : PS) (hPI : PInv (fun k => (R k).isSome) S) (gt gn gf sm : Nat) (hP : ∀ c a d v w, Q (.panic c) (Act.put a d v) w → Q (.panic c) a w) (a : Act) (W : World) (k : Nat) (hk8 : k < 8) (hK : Fm 280 [(25, .int .u64 (k : Nat)), (8, ptr H), (9, ptr rs), (14, .slice (some ⟨gb, 0, none⟩) gs.length gs.length), (18, ptr gt), (19, ptr gn), (20, ptr gf), (21, .map (some sm))] a) (hI : BS w0 R L H wm hm rs wt gb gs S W ∧ CS wB gt gn gf sm S W)
    (hQ : ∀ a W, Fm 280 [(25, .int .u64 (k : Nat)), (8, ptr H), (9, ptr rs), (14, .slice (some ⟨gb, 0, none⟩) gs.length gs.length), (18, ptr gt), (19, ptr gn), (20, ptr gf), (21, .map (some sm))] a → (BS w0 R L H wm hm rs wt gb gs S W ∧ CS wB gt gn gf sm S W) → Q .normal a W) (hE : ∀ a W, Fm 280 [(25, .int .u64 (k : Nat)), (8, ptr H), (9, ptr rs), (14, .slice (some ⟨gb, 0, none⟩) gs.length gs.length), (18, ptr gt), (19, ptr gn), (20, ptr gf), (21, .map (some sm))] a → (BS w0 R L H wm hm rs wt gb gs S W ∧ CS wB gt gn gf sm S W) → Q (.exit 7) a W) :
    Code.wp Yba.prog (codeOf Yba.f3 [1, 1, 1, 1, 1, 1, 1, 1, 1, 1, 1, 1, 1, 1, 1, 1, 0, 1, 5, 4, 1, 0, 5]) Q a W := by
  have _used := hPI
  obtain ⟨hB, hC⟩ := hI
  obtain ⟨es, c0, hwm, hU⟩ := hB.hs.wait
  show Code.wp _ (.seq (.region _ (opsOf Yba.f3 [1, 1, 1, 1, 1, 1, 1, 1, 1, 1, 1, 1, 1, 1, 1, 1, 0, 1, 5, 4, 1, 0, 5, 0]) false) (codeOf Yba.f3 [1, 1, 1, 1, 1, 1, 1, 1, 1, 1, 1, 1, 1, 1, 1, 1, 0, 1, 5, 4, 1, 0, 5, 1])) _ _ _
  refine srg ?_
  show wpList _ (opsOf Yba.f3 [1, 1, 1, 1, 1, 1, 1, 1, 1, 1, 1, 1, 1, 1, 1, 1, 0, 1, 5, 4, 1, 0, 5, 0]) _ [opAt Yba.f3 [1, 1, 1, 1, 1, 1, 1, 1, 1, 1, 1, 1, 1, 1, 1, 1, 0, 1, 5, 4, 1, 0, 5, 0] 0, opAt Yba.f3 [1, 1, 1, 1, 1, 1, 1, 1, 1, 1, 1, 1, 1, 1, 1, 1, 0, 1, 5, 4, 1, 0, 5, 0] 1, opAt Yba.f3 [1, 1, 1, 1, 1, 1, 1, 1, 1, 1, 1, 1, 1, 1, 1, 1, 0, 1, 5, 4, 1, 0, 5, 0] 2, opAt Yba.f3 [1, 1, 1, 1, 1, 1, 1, 1, 1, 1, 1, 1, 1, 1, 1, 1, 0, 1, 5, 4, 1, 0, 5, 0] 3] _ _
  refine stMv hK (wn rfl) rfl rfl rfl (by decide) fun a hK => ?_
  refine st hK (wn rfl) (run_idxR 29 28 _ _ rfl 8 Yba.underlying29 rs (hK.op rfl) .u64 k (hK.op rfl) hk8 (fun w => by kernel_rfl) _) rfl (by decide) fun a hK => ?_
  refine stLd hK (wn rfl) rfl rfl ((cell_at hB.rsb k).trans (arr8_get _ k hk8)) (fun w => by kernel_rfl) rfl (by decide) fun a hK => ?_
  refine stAs hK (wn rfl) rfl rfl rfl (by decide) fun a hK => ?_
  have hK : Fm 280 [(26, rp (R k)), (25, .int .u64 (k : Nat)), (8, ptr H), (9, ptr rs), (14, .slice (some ⟨gb, 0, none⟩) gs.length gs.length), (18, ptr gt), (19, ptr gn), (20, ptr gf), (21, .map (some sm))] a := hK.sub _ (by repeat (first | exact trivial | refine ⟨rfl, ?_⟩))
  show Code.wp _ (.seq (.seq (.region _ (opsOf Yba.f3 [1, 1, 1, 1, 1, 1, 1, 1, 1, 1, 1, 1, 1, 1, 1, 1, 0, 1, 5, 4, 1, 0, 5, 1, 0, 0]) false) (codeOf Yba.f3 [1, 1, 1, 1, 1, 1, 1, 1, 1, 1, 1, 1, 1, 1, 1, 1, 0, 1, 5, 4, 1, 0, 5, 1, 0, 1])) (codeOf Yba.f3 [1, 1, 1, 1, 1, 1, 1, 1, 1, 1, 1, 1, 1, 1, 1, 1, 0, 1, 5, 4, 1, 0, 5, 1, 1])) _ _ _
  refine wp_seq (srg ?_)
  show wpList _ (opsOf Yba.f3 [1, 1, 1, 1, 1, 1, 1, 1, 1, 1, 1, 1, 1, 1, 1, 1, 0, 1, 5, 4, 1, 0, 5, 1, 0, 0]) _ [opAt Yba.f3 [1, 1, 1, 1, 1, 1, 1, 1, 1, 1, 1, 1, 1, 1, 1, 1, 0, 1, 5, 4, 1, 0, 5, 1, 0, 0] 0, opAt Yba.f3 [1, 1, 1, 1, 1, 1, 1, 1, 1, 1, 1, 1, 1, 1, 1, 1, 0, 1, 5, 4, 1, 0, 5, 1, 0, 0] 1] _ _
  refine stMv hK (wn rfl) rfl rfl rfl (by decide) fun a hK => ?_
  cases hRk : R k with
  | none =>
    rw [hRk] at hK
    have hw : waitF R S.got k = none := by unfold waitF; rw [hRk]; split <;> rfl
    refine stBin hK (wn rfl) rfl rfl rfl (p_nil) rfl (by decide) fun a hK => ?_
    show Code.wp _ (.cond (.tmp 158) (.seq (.seq (.region _ (opsOf Yba.f3 [1, 1, 1, 1, 1, 1, 1, 1, 1, 1, 1, 1, 1, 1, 1, 1, 0, 1, 5, 4, 1, 0, 5, 1, 0, 1, 2, 0, 0]) false) (.seq (.region _ (opsOf Yba.f3 [1, 1, 1, 1, 1, 1, 1, 1, 1, 1, 1, 1, 1, 1, 1, 1, 0, 1, 5, 4, 1, 0, 5, 1, 0, 1, 2, 0, 1, 0]) false) (codeOf Yba.f3 [1, 1, 1, 1, 1, 1, 1, 1, 1, 1, 1, 1, 1, 1, 1, 1, 0, 1, 5, 4, 1, 0, 5, 1, 0, 1, 2, 0, 1, 1]))) (.exit 7)) .skip) _ _ _
    refine wp_cond_true (hK.op rfl) (wp_seq (srg ?_))
    show wpList _ (opsOf Yba.f3 [1, 1, 1, 1, 1, 1, 1, 1, 1, 1, 1, 1, 1, 1, 1, 1, 0, 1, 5, 4, 1, 0, 5, 1, 0, 1, 2, 0, 0]) _ [opAt Yba.f3 [1, 1, 1, 1, 1, 1, 1, 1, 1, 1, 1, 1, 1, 1, 1, 1, 0, 1, 5, 4, 1, 0, 5, 1, 0, 1, 2, 0, 0] 0, opAt Yba.f3 [1, 1, 1, 1, 1, 1, 1, 1, 1, 1, 1, 1, 1, 1, 1, 1, 0, 1, 5, 4, 1, 0, 5, 1, 0, 1, 2, 0, 0] 1, opAt Yba.f3 [1, 1, 1, 1, 1, 1, 1, 1, 1, 1, 1, 1, 1, 1, 1, 1, 0, 1, 5, 4, 1, 0, 5, 1, 0, 1, 2, 0, 0] 2, opAt Yba.f3 [1, 1, 1, 1, 1, 1, 1, 1, 1, 1, 1, 1, 1, 1, 1, 1, 0, 1, 5, 4, 1, 0, 5, 1, 0, 1, 2, 0, 0] 3, opAt Yba.f3 [1, 1, 1, 1, 1, 1, 1, 1, 1, 1, 1, 1, 1, 1, 1, 1, 0, 1, 5, 4, 1, 0, 5, 1, 0, 1, 2, 0, 0] 4, opAt Yba.f3 [1, 1, 1, 1, 1, 1, 1, 1, 1, 1, 1, 1, 1, 1, 1, 1, 0, 1, 5, 4, 1, 0, 5, 1, 0, 1, 2, 0, 0] 5, opAt Yba.f3 [1, 1, 1, 1, 1, 1, 1, 1, 1, 1, 1, 1, 1, 1, 1, 1, 0, 1, 5, 4, 1, 0, 5, 1, 0, 1, 2, 0, 0] 6, opAt Yba.f3 [1, 1, 1, 1, 1, 1, 1, 1, 1, 1, 1, 1, 1, 1, 1, 1, 0, 1, 5, 4, 1, 0, 5, 1, 0, 1, 2, 0, 0] 7, opAt Yba.f3 [1, 1, 1, 1, 1, 1, 1, 1, 1, 1, 1, 1, 1, 1, 1, 1, 0, 1, 5, 4, 1, 0, 5, 1, 0, 1, 2, 0, 0] 8, opAt Yba.f3 [1, 1, 1, 1, 1, 1, 1, 1, 1, 1, 1, 1, 1, 1, 1, 1, 0, 1, 5, 4, 1, 0, 5, 1, 0, 1, 2, 0, 0] 9, opAt Yba.f3 [1, 1, 1, 1, 1, 1, 1, 1, 1, 1, 1, 1, 1, 1, 1, 1, 0, 1, 5, 4, 1, 0, 5, 1, 0, 1, 2, 0, 0] 10] _ _
    refine stMv hK (wn rfl) rfl rfl rfl (by decide) fun a hK => ?_
    refine stNil hK (wn rfl) rfl rfl rfl (by decide) fun a hK => ?_
    refine stFa hK (wn rfl) rfl rfl 3 (fun b w => by kernel_rfl) rfl (by decide) fun a hK => ?_
    refine stLd hK (wn rfl) rfl rfl ((cell_at hB.hs.hold 3).trans rfl) (fun w => by kernel_rfl) rfl (by decide) fun a hK => ?_
    refine stMv hK (wn rfl) rfl rfl rfl (by decide) fun a hK => ?_
    refine st hK (wn rfl) (run_look 45 _ _ true rfl (hK.op rfl) (hK.op rfl) _ ((um_look Yba.underlying45 Yba.underlying22 (.pointer none) zero28 hU hwm k true).trans (by rw [hw]; rfl : _ = Result.ok (Value.tuple #[.pointer none, .bool false]) _))) rfl (by decide) fun a hK => ?_
    refine stMv hK (wn rfl) rfl rfl rfl (by decide) fun a hK => ?_
    refine st hK (wn rfl) (run_ext0 _ rfl (hK.op rfl) _) rfl (by decide) fun a hK => ?_
    refine st hK (wn rfl) (run_ext1 _ rfl (hK.op rfl) _) rfl (by decide) fun a hK => ?_
    refine stAs hK (wn rfl) rfl rfl rfl (by decide) fun a hK => ?_
    refine stAs hK (wn rfl) rfl rfl rfl (by decide) fun a hK => ?_
    show Code.wp _ (.seq (.region _ (opsOf Yba.f3 [1, 1, 1, 1, 1, 1, 1, 1, 1, 1, 1, 1, 1, 1, 1, 1, 0, 1, 5, 4, 1, 0, 5, 1, 0, 1, 2, 0, 1, 0]) false) (codeOf Yba.f3 [1, 1, 1, 1, 1, 1, 1, 1, 1, 1, 1, 1, 1, 1, 1, 1, 0, 1, 5, 4, 1, 0, 5, 1, 0, 1, 2, 0, 1, 1])) _ _ _
    refine srg ?_
    show wpList _ (opsOf Yba.f3 [1, 1, 1, 1, 1, 1, 1, 1, 1, 1, 1, 1, 1, 1, 1, 1, 0, 1, 5, 4, 1, 0, 5, 1, 0, 1, 2, 0, 1, 0]) _ [opAt Yba.f3 [1, 1, 1, 1, 1, 1, 1, 1, 1, 1, 1, 1, 1, 1, 1, 1, 0, 1, 5, 4, 1, 0, 5, 1, 0, 1, 2, 0, 1, 0] 0] _ _
    refine stMv hK (wn rfl) rfl rfl rfl (by decide) fun a hK => ?_
    show Code.wp _ (.cond (.tmp 168) (codeOf Yba.f3 [1, 1, 1, 1, 1, 1, 1, 1, 1, 1, 1, 1, 1, 1, 1, 1, 0, 1, 5, 4, 1, 0, 5, 1, 0, 1, 2, 0, 1, 1, 2]) .skip) _ _ _
    refine wp_cond_false (hK.op rfl) (wp_skip ?_)
    exact wp_exit (hE a W (hK.sub _ (by repeat (first | exact trivial | refine ⟨rfl, ?_⟩))) ⟨hB, hC⟩)
  | some c =>
    rw [hRk] at hK
    have hK : Fm 280 [(157, ptr (c + 1)), (26, ptr (c + 1)), (25, .int .u64 (k : Nat)), (8, ptr H), (9, ptr rs), (14, .slice (some ⟨gb, 0, none⟩) gs.length gs.length), (18, ptr gt), (19, ptr gn), (20, ptr gf), (21, .map (some sm))] a := hK.sub _ (by repeat (first | exact trivial | refine ⟨rfl, ?_⟩))
    obtain ⟨hreq, _⟩ := hB.hs.reqs k c hRk
    refine stBin hK (wn rfl) rfl rfl rfl (p_some) rfl (by decide) fun a hK => ?_
    show Code.wp _ (.cond (.tmp 158) (codeOf Yba.f3 [1, 1, 1, 1, 1, 1, 1, 1, 1, 1, 1, 1, 1, 1, 1, 1, 0, 1, 5, 4, 1, 0, 5, 1, 0, 1, 2]) .skip) _ _ _
    refine wp_cond_false (hK.op rfl) (wp_skip ?_)
    have hK : Fm 280 [(26, ptr (c + 1)), (25, .int .u64 (k : Nat)), (8, ptr H), (9, ptr rs), (14, .slice (some ⟨gb, 0, none⟩) gs.length gs.length), (18, ptr gt), (19, ptr gn), (20, ptr gf), (21, .map (some sm))] a := hK.sub _ (by repeat (first | exact trivial | refine ⟨rfl, ?_⟩))
    show Code.wp _ (.seq (.region _ (opsOf Yba.f3 [1, 1, 1, 1, 1, 1, 1, 1, 1, 1, 1, 1, 1, 1, 1, 1, 0, 1, 5, 4, 1, 0, 5, 1, 1, 0]) false) (codeOf Yba.f3 [1, 1, 1, 1, 1, 1, 1, 1, 1, 1, 1, 1, 1, 1, 1, 1, 0, 1, 5, 4, 1, 0, 5, 1, 1, 1])) _ _ _
    refine srg ?_
    show wpList _ (opsOf Yba.f3 [1, 1, 1, 1, 1, 1, 1, 1, 1, 1, 1, 1, 1, 1, 1, 1, 0, 1, 5, 4, 1, 0, 5, 1, 1, 0]) _ [opAt Yba.f3 [1, 1, 1, 1, 1, 1, 1, 1, 1, 1, 1, 1, 1, 1, 1, 1, 0, 1, 5, 4, 1, 0, 5, 1, 1, 0] 0, opAt Yba.f3 [1, 1, 1, 1, 1, 1, 1, 1, 1, 1, 1, 1, 1, 1, 1, 1, 0, 1, 5, 4, 1, 0, 5, 1, 1, 0] 1, opAt Yba.f3 [1, 1, 1, 1, 1, 1, 1, 1, 1, 1, 1, 1, 1, 1, 1, 1, 0, 1, 5, 4, 1, 0, 5, 1, 1, 0] 2] _ _
    refine stMv hK (wn rfl) rfl rfl rfl (by decide) fun a hK => ?_
    refine st hK (wn rfl) (run_idxR 30 4 _ _ rfl 8 Yba.underlying30 gt (hK.op rfl) .u64 k (hK.op rfl) hk8 (fun w => by kernel_rfl) _) rfl (by decide) fun a hK => ?_
    refine stLd hK (wn rfl) rfl rfl ((cell_at hC.gtb k).trans (arr8_get _ k hk8)) (fun w => by kernel_rfl) rfl (by decide) fun a hK => ?_
    cases hgk : S.got k with
    | none =>
      rw [hgk] at hK hreq
      have hw : waitF R S.got k = some (ptr (c + 1)) := by unfold waitF; rw [hRk, hgk]; rfl
      show Code.wp _ (.cond (.tmp 171) (codeOf Yba.f3 [1, 1, 1, 1, 1, 1, 1, 1, 1, 1, 1, 1, 1, 1, 1, 1, 0, 1, 5, 4, 1, 0, 5, 1, 1, 1, 2]) (.seq (.region _ (opsOf Yba.f3 [1, 1, 1, 1, 1, 1, 1, 1, 1, 1, 1, 1, 1, 1, 1, 1, 0, 1, 5, 4, 1, 0, 5, 1, 1, 1, 3, 0]) false) (codeOf Yba.f3 [1, 1, 1, 1, 1, 1, 1, 1, 1, 1, 1, 1, 1, 1, 1, 1, 0, 1, 5, 4, 1, 0, 5, 1, 1, 1, 3, 1]))) _ _ _
      refine wp_cond_false (hK.op rfl) (srg ?_)
      show wpList _ (opsOf Yba.f3 [1, 1, 1, 1, 1, 1, 1, 1, 1, 1, 1, 1, 1, 1, 1, 1, 0, 1, 5, 4, 1, 0, 5, 1, 1, 1, 3, 0]) _ [opAt Yba.f3 [1, 1, 1, 1, 1, 1, 1, 1, 1, 1, 1, 1, 1, 1, 1, 1, 0, 1, 5, 4, 1, 0, 5, 1, 1, 1, 3, 0] 0, opAt Yba.f3 [1, 1, 1, 1, 1, 1, 1, 1, 1, 1, 1, 1, 1, 1, 1, 1, 0, 1, 5, 4, 1, 0, 5, 1, 1, 1, 3, 0] 1, opAt Yba.f3 [1, 1, 1, 1, 1, 1, 1, 1, 1, 1, 1, 1, 1, 1, 1, 1, 0, 1, 5, 4, 1, 0, 5, 1, 1, 1, 3, 0] 2, opAt Yba.f3 [1, 1, 1, 1, 1, 1, 1, 1, 1, 1, 1, 1, 1, 1, 1, 1, 0, 1, 5, 4, 1, 0, 5, 1, 1, 1, 3, 0] 3, opAt Yba.f3 [1, 1, 1, 1, 1, 1, 1, 1, 1, 1, 1, 1, 1, 1, 1, 1, 0, 1, 5, 4, 1, 0, 5, 1, 1, 1, 3, 0] 4, opAt Yba.f3 [1, 1, 1, 1, 1, 1, 1, 1, 1, 1, 1, 1, 1, 1, 1, 1, 0, 1, 5, 4, 1, 0, 5, 1, 1, 1, 3, 0] 5, opAt Yba.f3 [1, 1, 1, 1, 1, 1, 1, 1, 1, 1, 1, 1, 1, 1, 1, 1, 0, 1, 5, 4, 1, 0, 5, 1, 1, 1, 3, 0] 6, opAt Yba.f3 [1, 1, 1, 1, 1, 1, 1, 1, 1, 1, 1, 1, 1, 1, 1, 1, 0, 1, 5, 4, 1, 0, 5, 1, 1, 1, 3, 0] 7, opAt Yba.f3 [1, 1, 1, 1, 1, 1, 1, 1, 1, 1, 1, 1, 1, 1, 1, 1, 0, 1, 5, 4, 1, 0, 5, 1, 1, 1, 3, 0] 8, opAt Yba.f3 [1, 1, 1, 1, 1, 1, 1, 1, 1, 1, 1, 1, 1, 1, 1, 1, 0, 1, 5, 4, 1, 0, 5, 1, 1, 1, 3, 0] 9, opAt Yba.f3 [1, 1, 1, 1, 1, 1, 1, 1, 1, 1, 1, 1, 1, 1, 1, 1, 0, 1, 5, 4, 1, 0, 5, 1, 1, 1, 3, 0] 10, opAt Yba.f3 [1, 1, 1, 1, 1, 1, 1, 1, 1, 1, 1, 1, 1, 1, 1, 1, 0, 1, 5, 4, 1, 0, 5, 1, 1, 1, 3, 0] 11, opAt Yba.f3 [1, 1, 1, 1, 1, 1, 1, 1, 1, 1, 1, 1, 1, 1, 1, 1, 0, 1, 5, 4, 1, 0, 5, 1, 1, 1, 3, 0] 12, opAt Yba.f3 [1, 1, 1, 1, 1, 1, 1, 1, 1, 1, 1, 1, 1, 1, 1, 1, 0, 1, 5, 4, 1, 0, 5, 1, 1, 1, 3, 0] 13, opAt Yba.f3 [1, 1, 1, 1, 1, 1, 1, 1, 1, 1, 1, 1, 1, 1, 1, 1, 0, 1, 5, 4, 1, 0, 5, 1, 1, 1, 3, 0] 14, opAt Yba.f3 [1, 1, 1, 1, 1, 1, 1, 1, 1, 1, 1, 1, 1, 1, 1, 1, 0, 1, 5, 4, 1, 0, 5, 1, 1, 1, 3, 0] 15] _ _
      refine stMv hK (wn rfl) rfl rfl rfl (by decide) fun a hK => ?_
      refine stNil hK (wn rfl) rfl rfl rfl (by decide) fun a hK => ?_
      refine stFa hK (wn rfl) rfl rfl 3 (fun b w => by kernel_rfl) rfl (by decide) fun a hK => ?_
      refine stLd hK (wn rfl) rfl rfl ((cell_at hB.hs.hold 3).trans rfl) (fun w => by kernel_rfl) rfl (by decide) fun a hK => ?_
      refine stMv hK (wn rfl) rfl rfl rfl (by decide) fun a hK => ?_
      refine st hK (wn rfl) (run_look 45 _ _ false rfl (hK.op rfl) (hK.op rfl) _ ((um_look Yba.underlying45 Yba.underlying22 (.pointer none) zero28 hU hwm k false).trans (by rw [hw]; rfl : _ = Result.ok (ptr (c + 1)) _))) rfl (by decide) fun a hK => ?_
      refine stMv hK (wn rfl) rfl rfl rfl (by decide) fun a hK => ?_
      refine stBin hK (wn rfl) rfl rfl rfl (p_ne) rfl (by decide) fun a hK => ?_
      refine stMv hK (wn rfl) rfl rfl rfl (by decide) fun a hK => ?_
      refine stMv hK (hK.wy rfl rfl rfl (by decide)) rfl rfl rfl (by decide) fun a hK => ?_
      refine stNil hK (hK.wy rfl rfl rfl (by decide)) rfl rfl rfl (by decide) fun a hK => ?_
      refine stFa hK (hK.wy rfl rfl rfl (by decide)) rfl rfl 0 (fun b w => by kernel_rfl) rfl (by decide) fun a hK => ?_
      refine stFa hK (hK.wy rfl rfl rfl (by decide)) rfl rfl 2 (fun b w => by kernel_rfl) rfl (by decide) fun a hK => ?_
      refine stLd hK (hK.wy rfl rfl rfl (by decide)) rfl rfl ((cell_at hreq 2).trans (rfl : _ = some (Value.chan none))) (fun w => by kernel_rfl) rfl (by decide) fun a hK => ?_
      refine stBin hK (hK.wy rfl rfl rfl (by decide)) rfl rfl rfl (c_nilne) rfl (by decide) fun a hK => ?_
      refine stPick hK (wn rfl) rfl rfl rfl rfl rfl (by decide) fun a hK => ?_
      show Code.wp _ (.cond (.tmp 225) (codeOf Yba.f3 [1, 1, 1, 1, 1, 1, 1, 1, 1, 1, 1, 1, 1, 1, 1, 1, 0, 1, 5, 4, 1, 0, 5, 1, 1, 1, 3, 1, 2]) .skip) _ _ _
      refine wp_cond_false (hK.op rfl) (wp_skip ?_)
      exact hQ a W (hK.sub _ (by repeat (first | exact trivial | refine ⟨rfl, ?_⟩))) ⟨hB, hC⟩
    | some g =>
      rw [hgk] at hK hreq
      have hw : waitF R S.got k = none := by unfold waitF; rw [hgk]; rfl
      show Code.wp _ (.cond (.tmp 171) (.seq (.seq (.region _ (opsOf Yba.f3 [1, 1, 1, 1, 1, 1, 1, 1, 1, 1, 1, 1, 1, 1, 1, 1, 0, 1, 5, 4, 1, 0, 5, 1, 1, 1, 2, 0, 0]) false) (.seq (.region _ (opsOf Yba.f3 [1, 1, 1, 1, 1, 1, 1, 1, 1, 1, 1, 1, 1, 1, 1, 1, 0, 1, 5, 4, 1, 0, 5, 1, 1, 1, 2, 0, 1, 0]) false) (codeOf Yba.f3 [1, 1, 1, 1, 1, 1, 1, 1, 1, 1, 1, 1, 1, 1, 1, 1, 0, 1, 5, 4, 1, 0, 5, 1, 1, 1, 2, 0, 1, 1]))) (codeOf Yba.f3 [1, 1, 1, 1, 1, 1, 1, 1, 1, 1, 1, 1, 1, 1, 1, 1, 0, 1, 5, 4, 1, 0, 5, 1, 1, 1, 2, 1])) (codeOf Yba.f3 [1, 1, 1, 1, 1, 1, 1, 1, 1, 1, 1, 1, 1, 1, 1, 1, 0, 1, 5, 4, 1, 0, 5, 1, 1, 1, 3])) _ _ _
      refine wp_cond_true (hK.op rfl) (wp_seq (srg ?_))
      show wpList _ (opsOf Yba.f3 [1, 1, 1, 1, 1, 1, 1, 1, 1, 1, 1, 1, 1, 1, 1, 1, 0, 1, 5, 4, 1, 0, 5, 1, 1, 1, 2, 0, 0]) _ [opAt Yba.f3 [1, 1, 1, 1, 1, 1, 1, 1, 1, 1, 1, 1, 1, 1, 1, 1, 0, 1, 5, 4, 1, 0, 5, 1, 1, 1, 2, 0, 0] 0, opAt Yba.f3 [1, 1, 1, 1, 1, 1, 1, 1, 1, 1, 1, 1, 1, 1, 1, 1, 0, 1, 5, 4, 1, 0, 5, 1, 1, 1, 2, 0, 0] 1, opAt Yba.f3 [1, 1, 1, 1, 1, 1, 1, 1, 1, 1, 1, 1, 1, 1, 1, 1, 0, 1, 5, 4, 1, 0, 5, 1, 1, 1, 2, 0, 0] 2, opAt Yba.f3 [1, 1, 1, 1, 1, 1, 1, 1, 1, 1, 1, 1, 1, 1, 1, 1, 0, 1, 5, 4, 1, 0, 5, 1, 1, 1, 2, 0, 0] 3, opAt Yba.f3 [1, 1, 1, 1, 1, 1, 1, 1, 1, 1, 1, 1, 1, 1, 1, 1, 0, 1, 5, 4, 1, 0, 5, 1, 1, 1, 2, 0, 0] 4, opAt Yba.f3 [1, 1, 1, 1, 1, 1, 1, 1, 1, 1, 1, 1, 1, 1, 1, 1, 0, 1, 5, 4, 1, 0, 5, 1, 1, 1, 2, 0, 0] 5, opAt Yba.f3 [1, 1, 1, 1, 1, 1, 1, 1, 1, 1, 1, 1, 1, 1, 1, 1, 0, 1, 5, 4, 1, 0, 5, 1, 1, 1, 2, 0, 0] 6, opAt Yba.f3 [1, 1, 1, 1, 1, 1, 1, 1, 1, 1, 1, 1, 1, 1, 1, 1, 0, 1, 5, 4, 1, 0, 5, 1, 1, 1, 2, 0, 0] 7, opAt Yba.f3 [1, 1, 1, 1, 1, 1, 1, 1, 1, 1, 1, 1, 1, 1, 1, 1, 0, 1, 5, 4, 1, 0, 5, 1, 1, 1, 2, 0, 0] 8, opAt Yba.f3 [1, 1, 1, 1, 1, 1, 1, 1, 1, 1, 1, 1, 1, 1, 1, 1, 0, 1, 5, 4, 1, 0, 5, 1, 1, 1, 2, 0, 0] 9, opAt Yba.f3 [1, 1, 1, 1, 1, 1, 1, 1, 1, 1, 1, 1, 1, 1, 1, 1, 0, 1, 5, 4, 1, 0, 5, 1, 1, 1, 2, 0, 0] 10] _ _
      refine stMv hK (wn rfl) rfl rfl rfl (by decide) fun a hK => ?_
      refine stNil hK (wn rfl) rfl rfl rfl (by decide) fun a hK => ?_
      refine stFa hK (wn rfl) rfl rfl 3 (fun b w => by kernel_rfl) rfl (by decide) fun a hK => ?_
      refine stLd hK (wn rfl) rfl rfl ((cell_at hB.hs.hold 3).trans rfl) (fun w => by kernel_rfl) rfl (by decide) fun a hK => ?_
      refine stMv hK (wn rfl) rfl rfl rfl (by decide) fun a hK => ?_
      refine st hK (wn rfl) (run_look 45 _ _ true rfl (hK.op rfl) (hK.op rfl) _ ((um_look Yba.underlying45 Yba.underlying22 (.pointer none) zero28 hU hwm k true).trans (by rw [hw]; rfl : _ = Result.ok (Value.tuple #[.pointer none, .bool false]) _))) rfl (by decide) fun a hK => ?_
      refine stMv hK (wn rfl) rfl rfl rfl (by decide) fun a hK => ?_
      refine st hK (wn rfl) (run_ext0 _ rfl (hK.op rfl) _) rfl (by decide) fun a hK => ?_
      refine st hK (wn rfl) (run_ext1 _ rfl (hK.op rfl) _) rfl (by decide) fun a hK => ?_
      refine stAs hK (wn rfl) rfl rfl rfl (by decide) fun a hK => ?_
      refine stAs hK (wn rfl) rfl rfl rfl (by decide) fun a hK => ?_
      show Code.wp _ (.seq (.region _ (opsOf Yba.f3 [1, 1, 1, 1, 1, 1, 1, 1, 1, 1, 1, 1, 1, 1, 1, 1, 0, 1, 5, 4, 1, 0, 5, 1, 1, 1, 2, 0, 1, 0]) false) (codeOf Yba.f3 [1, 1, 1, 1, 1, 1, 1, 1, 1, 1, 1, 1, 1, 1, 1, 1, 0, 1, 5, 4, 1, 0, 5, 1, 1, 1, 2, 0, 1, 1])) _ _ _
      refine srg ?_
      show wpList _ (opsOf Yba.f3 [1, 1, 1, 1, 1, 1, 1, 1, 1, 1, 1, 1, 1, 1, 1, 1, 0, 1, 5, 4, 1, 0, 5, 1, 1, 1, 2, 0, 1, 0]) _ [opAt Yba.f3 [1, 1, 1, 1, 1, 1, 1, 1, 1, 1, 1, 1, 1, 1, 1, 1, 0, 1, 5, 4, 1, 0, 5, 1, 1, 1, 2, 0, 1, 0] 0] _ _
      refine stMv hK (wn rfl) rfl rfl rfl (by decide) fun a hK => ?_
      show Code.wp _ (.cond (.tmp 181) (codeOf Yba.f3 [1, 1, 1, 1, 1, 1, 1, 1, 1, 1, 1, 1, 1, 1, 1, 1, 0, 1, 5, 4, 1, 0, 5, 1, 1, 1, 2, 0, 1, 1, 2]) .skip) _ _ _
      refine wp_cond_false (hK.op rfl) (wp_skip ?_)
      have hK : Fm 280 [(26, ptr (c + 1)), (25, .int .u64 (k : Nat)), (8, ptr H), (9, ptr rs), (14, .slice (some ⟨gb, 0, none⟩) gs.length gs.length), (18, ptr gt), (19, ptr gn), (20, ptr gf), (21, .map (some sm))] a := hK.sub _ (by repeat (first | exact trivial | refine ⟨rfl, ?_⟩))
      show Code.wp _ (.seq (.region _ (opsOf Yba.f3 [1, 1, 1, 1, 1, 1, 1, 1, 1, 1, 1, 1, 1, 1, 1, 1, 0, 1, 5, 4, 1, 0, 5, 1, 1, 1, 2, 1, 0]) true) (codeOf Yba.f3 [1, 1, 1, 1, 1, 1, 1, 1, 1, 1, 1, 1, 1, 1, 1, 1, 0, 1, 5, 4, 1, 0, 5, 1, 1, 1, 2, 1, 1])) _ _ _
      refine wp_seq ?_
      refine wp_region_held (S := fun W => W.heap[c + 1]? = some (.cells (reqOf (L k) c (some g)) 37 (0, 0)) ∧ W.cell? ⟨gn, k, none⟩ = some (.string g.s) ∧ W.cell? ⟨gf, k, none⟩ = some (.int .u64 g.f)) (by kernel_rfl) ?_
      change wpAnyH _ _ _ _ _ 28 _ _ (World.drew _)
      have hS : W.drew.heap[c + 1]? = some (.cells (reqOf (L k) c (some g)) 37 (0, 0)) ∧ W.drew.cell? ⟨gn, k, none⟩ = some (.string g.s) ∧ W.drew.cell? ⟨gf, k, none⟩ = some (.int .u64 g.f) := ⟨hreq, (cell_at (w := W.drew) hC.gnb k).trans ((arr8_get _ k hk8).trans (by rw [hgk]; rfl)), (cell_at (w := W.drew) hC.gfb k).trans ((arr8_get _ k hk8).trans (by rw [hgk]; rfl))⟩
      refine sdw hK 0 (oi := opAt Yba.f3 [1, 1, 1, 1, 1, 1, 1, 1, 1, 1, 1, 1, 1, 1, 1, 1, 0, 1, 5, 4, 1, 0, 5, 1, 1, 1, 2, 1, 0] 0) rfl (by kernel_rfl) (by kernel_rfl) (by kernel_rfl) (fun c a d v w h => hP c a d v w h) (wn rfl) (fun W hW => run_mv _ rfl _ (hK.op rfl) W) hS rfl (by decide) fun a hK => ?_
      refine sdw hK 1 (oi := opAt Yba.f3 [1, 1, 1, 1, 1, 1, 1, 1, 1, 1, 1, 1, 1, 1, 1, 1, 0, 1, 5, 4, 1, 0, 5, 1, 1, 1, 2, 1, 0] 1) rfl (by kernel_rfl) (by kernel_rfl) (by kernel_rfl) (fun c a d v w h => hP c a d v w h) (wn rfl) (fun W hW => run_nilCheck _ rfl _ (hK.op rfl) W) hS rfl (by decide) fun a hK => ?_
      refine sdw hK 2 (oi := opAt Yba.f3 [1, 1, 1, 1, 1, 1, 1, 1, 1, 1, 1, 1, 1, 1, 1, 1, 0, 1, 5, 4, 1, 0, 5, 1, 1, 1, 2, 1, 0] 2) rfl (by kernel_rfl) (by kernel_rfl) (by kernel_rfl) (fun c a d v w h => hP c a d v w h) (wn rfl) (fun W hW => run_fieldAddr 37 _ 0 rfl ⟨c + 1, 0, none⟩ ⟨c + 1, 0, none⟩ (hK.op rfl) W (by kernel_rfl)) hS rfl (by decide) fun a hK => ?_
      refine sdw hK 3 (oi := opAt Yba.f3 [1, 1, 1, 1, 1, 1, 1, 1, 1, 1, 1, 1, 1, 1, 1, 1, 0, 1, 5, 4, 1, 0, 5, 1, 1, 1, 2, 1, 0] 3) rfl (by kernel_rfl) (by kernel_rfl) (by kernel_rfl) (fun c a d v w h => hP c a d v w h) (wn rfl) (fun W hW => run_fieldAddr 33 _ 0 rfl ⟨c + 1, 0, none⟩ ⟨c + 1, 0, none⟩ (hK.op rfl) W (by kernel_rfl)) hS rfl (by decide) fun a hK => ?_
      refine sdw hK 4 (oi := opAt Yba.f3 [1, 1, 1, 1, 1, 1, 1, 1, 1, 1, 1, 1, 1, 1, 1, 1, 0, 1, 5, 4, 1, 0, 5, 1, 1, 1, 2, 1, 0] 4) rfl (by kernel_rfl) (by kernel_rfl) (by kernel_rfl) (fun c a d v w h => hP c a d v w h) (wn rfl) (fun W hW => run_load_one _ _ rfl _ _ (hK.op rfl) W ((cell_at hW.1 0).trans (rfl : _ = some (Value.string g.s))) (by kernel_rfl)) hS rfl (by decide) fun a hK => ?_
      refine sdw hK 5 (oi := opAt Yba.f3 [1, 1, 1, 1, 1, 1, 1, 1, 1, 1, 1, 1, 1, 1, 1, 1, 0, 1, 5, 4, 1, 0, 5, 1, 1, 1, 2, 1, 0] 5) rfl (by kernel_rfl) (by kernel_rfl) (by kernel_rfl) (fun c a d v w h => hP c a d v w h) (wn rfl) (fun W hW => run_mv _ rfl _ (hK.op rfl) W) hS rfl (by decide) fun a hK => ?_
      refine sdw hK 6 (oi := opAt Yba.f3 [1, 1, 1, 1, 1, 1, 1, 1, 1, 1, 1, 1, 1, 1, 1, 1, 0, 1, 5, 4, 1, 0, 5, 1, 1, 1, 2, 1, 0] 6) rfl (by kernel_rfl) (by kernel_rfl) (by kernel_rfl) (fun c a d v w h => hP c a d v w h) (wn rfl) (fun W hW => run_idxR 106 9 _ _ rfl 8 Yba.underlying106 gn (hK.op rfl) .u64 k (hK.op rfl) hk8 (fun w => by kernel_rfl) W) hS rfl (by decide) fun a hK => ?_
      refine sdw hK 7 (oi := opAt Yba.f3 [1, 1, 1, 1, 1, 1, 1, 1, 1, 1, 1, 1, 1, 1, 1, 1, 0, 1, 5, 4, 1, 0, 5, 1, 1, 1, 2, 1, 0] 7) rfl (by kernel_rfl) (by kernel_rfl) (by kernel_rfl) (fun c a d v w h => hP c a d v w h) (wn rfl) (fun W hW => run_load_one _ _ rfl _ _ (hK.op rfl) W (hW.2.1) (by kernel_rfl)) hS rfl (by decide) fun a hK => ?_
      refine sdw hK 8 (oi := opAt Yba.f3 [1, 1, 1, 1, 1, 1, 1, 1, 1, 1, 1, 1, 1, 1, 1, 1, 0, 1, 5, 4, 1, 0, 5, 1, 1, 1, 2, 1, 0] 8) rfl (by kernel_rfl) (by kernel_rfl) (by kernel_rfl) (fun c a d v w h => hP c a d v w h) (wn rfl) (fun W hW => run_bin .neq 9 _ _ 9 rfl _ _ _ (hK.op rfl) (hK.op rfl) W (s_ne)) hS rfl (by decide) fun a hK => ?_
      refine sdw hK 9 (oi := opAt Yba.f3 [1, 1, 1, 1, 1, 1, 1, 1, 1, 1, 1, 1, 1, 1, 1, 1, 0, 1, 5, 4, 1, 0, 5, 1, 1, 1, 2, 1, 0] 9) rfl (by kernel_rfl) (by kernel_rfl) (by kernel_rfl) (fun c a d v w h => hP c a d v w h) (wn rfl) (fun W hW => run_mv _ rfl _ (hK.op rfl) W) hS rfl (by decide) fun a hK => ?_
      refine sdw hK 10 (oi := opAt Yba.f3 [1, 1, 1, 1, 1, 1, 1, 1, 1, 1, 1, 1, 1, 1, 1, 1, 0, 1, 5, 4, 1, 0, 5, 1, 1, 1, 2, 1, 0] 10) rfl (by kernel_rfl) (by kernel_rfl) (by kernel_rfl) (fun c a d v w h => hP c a d v w h) (hK.wy rfl rfl rfl (by decide)) (fun W hW => run_mv _ rfl _ (hK.op rfl) W) hS rfl (by decide) fun a hK => ?_
      refine sdw hK 11 (oi := opAt Yba.f3 [1, 1, 1, 1, 1, 1, 1, 1, 1, 1, 1, 1, 1, 1, 1, 1, 0, 1, 5, 4, 1, 0, 5, 1, 1, 1, 2, 1, 0] 11) rfl (by kernel_rfl) (by kernel_rfl) (by kernel_rfl) (fun c a d v w h => hP c a d v w h) (hK.wy rfl rfl rfl (by decide)) (fun W hW => run_nilCheck _ rfl _ (hK.op rfl) W) hS rfl (by decide) fun a hK => ?_
      refine sdw hK 12 (oi := opAt Yba.f3 [1, 1, 1, 1, 1, 1, 1, 1, 1, 1, 1, 1, 1, 1, 1, 1, 0, 1, 5, 4, 1, 0, 5, 1, 1, 1, 2, 1, 0] 12) rfl (by kernel_rfl) (by kernel_rfl) (by kernel_rfl) (fun c a d v w h => hP c a d v w h) (hK.wy rfl rfl rfl (by decide)) (fun W hW => run_fieldAddr 37 _ 0 rfl ⟨c + 1, 0, none⟩ ⟨c + 1, 0, none⟩ (hK.op rfl) W (by kernel_rfl)) hS rfl (by decide) fun a hK => ?_
      refine sdw hK 13 (oi := opAt Yba.f3 [1, 1, 1, 1, 1, 1, 1, 1, 1, 1, 1, 1, 1, 1, 1, 1, 0, 1, 5, 4, 1, 0, 5, 1, 1, 1, 2, 1, 0] 13) rfl (by kernel_rfl) (by kernel_rfl) (by kernel_rfl) (fun c a d v w h => hP c a d v w h) (hK.wy rfl rfl rfl (by decide)) (fun W hW => run_fieldAddr 33 _ 1 rfl ⟨c + 1, 0, none⟩ ⟨c + 1, 1, none⟩ (hK.op rfl) W (by kernel_rfl)) hS rfl (by decide) fun a hK => ?_
      refine sdw hK 14 (oi := opAt Yba.f3 [1, 1, 1, 1, 1, 1, 1, 1, 1, 1, 1, 1, 1, 1, 1, 1, 0, 1, 5, 4, 1, 0, 5, 1, 1, 1, 2, 1, 0] 14) rfl (by kernel_rfl) (by kernel_rfl) (by kernel_rfl) (fun c a d v w h => hP c a d v w h) (hK.wy rfl rfl rfl (by decide)) (fun W hW => run_load_one _ _ rfl _ _ (hK.op rfl) W ((cell_at hW.1 1).trans (rfl : _ = some (Value.int .u64 g.f))) (by kernel_rfl)) hS rfl (by decide) fun a hK => ?_
      refine sdw hK 15 (oi := opAt Yba.f3 [1, 1, 1, 1, 1, 1, 1, 1, 1, 1, 1, 1, 1, 1, 1, 1, 0, 1, 5, 4, 1, 0, 5, 1, 1, 1, 2, 1, 0] 15) rfl (by kernel_rfl) (by kernel_rfl) (by kernel_rfl) (fun c a d v w h => hP c a d v w h) (hK.wy rfl rfl rfl (by decide)) (fun W hW => run_mv _ rfl _ (hK.op rfl) W) hS rfl (by decide) fun a hK => ?_
      refine sdw hK 16 (oi := opAt Yba.f3 [1, 1, 1, 1, 1, 1, 1, 1, 1, 1, 1, 1, 1, 1, 1, 1, 0, 1, 5, 4, 1, 0, 5, 1, 1, 1, 2, 1, 0] 16) rfl (by kernel_rfl) (by kernel_rfl) (by kernel_rfl) (fun c a d v w h => hP c a d v w h) (hK.wy rfl rfl rfl (by decide)) (fun W hW => run_idxR 107 22 _ _ rfl 8 Yba.underlying107 gf (hK.op rfl) .u64 k (hK.op rfl) hk8 (fun w => by kernel_rfl) W) hS rfl (by decide) fun a hK => ?_
      refine sdw hK 17 (oi := opAt Yba.f3 [1, 1, 1, 1, 1, 1, 1, 1, 1, 1, 1, 1, 1, 1, 1, 1, 0, 1, 5, 4, 1, 0, 5, 1, 1, 1, 2, 1, 0] 17) rfl (by kernel_rfl) (by kernel_rfl) (by kernel_rfl) (fun c a d v w h => hP c a d v w h) (hK.wy rfl rfl rfl (by decide)) (fun W hW => run_load_one _ _ rfl _ _ (hK.op rfl) W (hW.2.2) (by kernel_rfl)) hS rfl (by decide) fun a hK => ?_
      refine sdw hK 18 (oi := opAt Yba.f3 [1, 1, 1, 1, 1, 1, 1, 1, 1, 1, 1, 1, 1, 1, 1, 1, 0, 1, 5, 4, 1, 0, 5, 1, 1, 1, 2, 1, 0] 18) rfl (by kernel_rfl) (by kernel_rfl) (by kernel_rfl) (fun c a d v w h => hP c a d v w h) (hK.wy rfl rfl rfl (by decide)) (fun W hW => run_bin .neq 22 _ _ 22 rfl _ _ _ (hK.op rfl) (hK.op rfl) W (u_ne)) hS rfl (by decide) fun a hK => ?_
      refine sdw hK 19 (oi := opAt Yba.f3 [1, 1, 1, 1, 1, 1, 1, 1, 1, 1, 1, 1, 1, 1, 1, 1, 0, 1, 5, 4, 1, 0, 5, 1, 1, 1, 2, 1, 0] 19) rfl (by kernel_rfl) (by kernel_rfl) (by kernel_rfl) (fun c a d v w h => hP c a d v w h) (wn rfl) (fun W hW => run_pick _ _ _ rfl _ _ _ (hK.op rfl) (hK.op rfl) (hK.op rfl) W) hS rfl (by decide) fun a hK => ?_
      refine sdw hK 20 (oi := opAt Yba.f3 [1, 1, 1, 1, 1, 1, 1, 1, 1, 1, 1, 1, 1, 1, 1, 1, 0, 1, 5, 4, 1, 0, 5, 1, 1, 1, 2, 1, 0] 20) rfl (by kernel_rfl) (by kernel_rfl) (by kernel_rfl) (fun c a d v w h => hP c a d v w h) (wn rfl) (fun W hW => run_mv _ rfl _ (hK.op rfl) W) hS rfl (by decide) fun a hK => ?_
      refine sdw hK 21 (oi := opAt Yba.f3 [1, 1, 1, 1, 1, 1, 1, 1, 1, 1, 1, 1, 1, 1, 1, 1, 0, 1, 5, 4, 1, 0, 5, 1, 1, 1, 2, 1, 0] 21) rfl (by kernel_rfl) (by kernel_rfl) (by kernel_rfl) (fun c a d v w h => hP c a d v w h) (hK.wy rfl rfl rfl (by decide)) (fun W hW => run_mv _ rfl _ (hK.op rfl) W) hS rfl (by decide) fun a hK => ?_
      refine sdw hK 22 (oi := opAt Yba.f3 [1, 1, 1, 1, 1, 1, 1, 1, 1, 1, 1, 1, 1, 1, 1, 1, 0, 1, 5, 4, 1, 0, 5, 1, 1, 1, 2, 1, 0] 22) rfl (by kernel_rfl) (by kernel_rfl) (by kernel_rfl) (fun c a d v w h => hP c a d v w h) (hK.wy rfl rfl rfl (by decide)) (fun W hW => run_nilCheck _ rfl _ (hK.op rfl) W) hS rfl (by decide) fun a hK => ?_
      refine sdw hK 23 (oi := opAt Yba.f3 [1, 1, 1, 1, 1, 1, 1, 1, 1, 1, 1, 1, 1, 1, 1, 1, 0, 1, 5, 4, 1, 0, 5, 1, 1, 1, 2, 1, 0] 23) rfl (by kernel_rfl) (by kernel_rfl) (by kernel_rfl) (fun c a d v w h => hP c a d v w h) (hK.wy rfl rfl rfl (by decide)) (fun W hW => run_fieldAddr 37 _ 0 rfl ⟨c + 1, 0, none⟩ ⟨c + 1, 0, none⟩ (hK.op rfl) W (by kernel_rfl)) hS rfl (by decide) fun a hK => ?_
      refine sdw hK 24 (oi := opAt Yba.f3 [1, 1, 1, 1, 1, 1, 1, 1, 1, 1, 1, 1, 1, 1, 1, 1, 0, 1, 5, 4, 1, 0, 5, 1, 1, 1, 2, 1, 0] 24) rfl (by kernel_rfl) (by kernel_rfl) (by kernel_rfl) (fun c a d v w h => hP c a d v w h) (hK.wy rfl rfl rfl (by decide)) (fun W hW => run_fieldAddr 33 _ 2 rfl ⟨c + 1, 0, none⟩ ⟨c + 1, 2, none⟩ (hK.op rfl) W (by kernel_rfl)) hS rfl (by decide) fun a hK => ?_
      refine sdw hK 25 (oi := opAt Yba.f3 [1, 1, 1, 1, 1, 1, 1, 1, 1, 1, 1, 1, 1, 1, 1, 1, 0, 1, 5, 4, 1, 0, 5, 1, 1, 1, 2, 1, 0] 25) rfl (by kernel_rfl) (by kernel_rfl) (by kernel_rfl) (fun c a d v w h => hP c a d v w h) (hK.wy rfl rfl rfl (by decide)) (fun W hW => run_load_one _ _ rfl _ _ (hK.op rfl) W ((cell_at hW.1 2).trans (rfl : _ = some (Value.chan (some (L k))))) (by kernel_rfl)) hS rfl (by decide) fun a hK => ?_
      refine sdw hK 26 (oi := opAt Yba.f3 [1, 1, 1, 1, 1, 1, 1, 1, 1, 1, 1, 1, 1, 1, 1, 1, 0, 1, 5, 4, 1, 0, 5, 1, 1, 1, 2, 1, 0] 26) rfl (by kernel_rfl) (by kernel_rfl) (by kernel_rfl) (fun c a d v w h => hP c a d v w h) (hK.wy rfl rfl rfl (by decide)) (fun W hW => run_bin .eql 31 _ _ 31 rfl _ _ _ (hK.op rfl) (hK.op rfl) W (c_nil)) hS rfl (by decide) fun a hK => ?_
      refine sdw hK 27 (oi := opAt Yba.f3 [1, 1, 1, 1, 1, 1, 1, 1, 1, 1, 1, 1, 1, 1, 1, 1, 0, 1, 5, 4, 1, 0, 5, 1, 1, 1, 2, 1, 0] 27) rfl (by kernel_rfl) (by kernel_rfl) (by kernel_rfl) (fun c a d v w h => hP c a d v w h) (wn rfl) (fun W hW => run_pick _ _ _ rfl _ _ _ (hK.op rfl) (hK.op rfl) (hK.op rfl) W) hS rfl (by decide) fun a hK => ?_
      refine wpAnyH_done (by kernel_rfl) ?_ _
      show Code.wp _ (.cond (.tmp 209) (codeOf Yba.f3 [1, 1, 1, 1, 1, 1, 1, 1, 1, 1, 1, 1, 1, 1, 1, 1, 0, 1, 5, 4, 1, 0, 5, 1, 1, 1, 2, 1, 1, 2]) .skip) _ _ _
      refine wp_cond_false (hK.op rfl) (wp_skip ?_)
      have fd : Fr [] W W.drew := (Fr.refl _ _).drew
      exact hQ a W.drew (hK.sub _ (by repeat (first | exact trivial | refine ⟨rfl, ?_⟩))) ⟨hB.keep fd, hC.keep fd⟩

set_option maxRecDepth 20000 in
theorem d_loop {Q : Exit → Act → World → Prop} (w0 wB : World) (R : Nat → Option Nat) (L : Nat → Nat) (H wm hm rs wt gb : Nat) (gs : List Gr) (S : PS) (hPI : PInv (fun k => (R k).isSome) S) (gt gn gf sm : Nat) (hP : ∀ c a d v w, Q (.panic c) (Act.put a d v) w → Q (.panic c) a w) (a : Act) (W : World) (hK : Fm 280 [(8, ptr H), (9, ptr rs), (14, .slice (some ⟨gb, 0, none⟩) gs.length gs.length), (18, ptr gt), (19, ptr gn), (20, ptr gf), (21, .map (some sm))] a) (hI : BS w0 R L H wm hm rs wt gb gs S W ∧ CS wB gt gn gf sm S W)
    (hx : ∀ a W, Fm 280 [(8, ptr H), (9, ptr rs), (14, .slice (some ⟨gb, 0, none⟩) gs.length gs.length), (18, ptr gt), (19, ptr gn), (20, ptr gf), (21, .map (some sm))] a → (BS w0 R L H wm hm rs wt gb gs S W ∧ CS wB gt gn gf sm S W) → Code.wp Yba.prog (codeOf Yba.f3 [1, 1, 1, 1, 1, 1, 1, 1, 1, 1, 1, 1, 1, 1, 1, 1, 1]) Q a W) :
    Code.wp Yba.prog (codeOf Yba.f3 [1, 1, 1, 1, 1, 1, 1, 1, 1, 1, 1, 1, 1, 1, 1, 1]) Q a W := by
  show Code.wp _ (.seq (.seq (.region _ (opsOf Yba.f3 [1, 1, 1, 1, 1, 1, 1, 1, 1, 1, 1, 1, 1, 1, 1, 1, 0, 0]) false) (.block 6 (.loop (codeOf Yba.f3 [1, 1, 1, 1, 1, 1, 1, 1, 1, 1, 1, 1, 1, 1, 1, 1, 0, 1, 5, 4])))) (codeOf Yba.f3 [1, 1, 1, 1, 1, 1, 1, 1, 1, 1, 1, 1, 1, 1, 1, 1, 1])) _ _ _
  refine wp_seq (srg ?_)
  show wpList _ (opsOf Yba.f3 [1, 1, 1, 1, 1, 1, 1, 1, 1, 1, 1, 1, 1, 1, 1, 1, 0, 0]) _ [opAt Yba.f3 [1, 1, 1, 1, 1, 1, 1, 1, 1, 1, 1, 1, 1, 1, 1, 1, 0, 0] 0] _ _
  refine stAs hK (wn rfl) rfl rfl rfl (by decide) fun a hK => ?_
  show Code.wp _ (.block 6 (.loop (codeOf Yba.f3 [1, 1, 1, 1, 1, 1, 1, 1, 1, 1, 1, 1, 1, 1, 1, 1, 0, 1, 5, 4]))) _ _ _
  refine wp_block (wp_loop (fun a W => ∃ k : Nat, k ≤ 8 ∧ Fm 280 [(25, .int .u64 (k : Nat)), (8, ptr H), (9, ptr rs), (14, .slice (some ⟨gb, 0, none⟩) gs.length gs.length), (18, ptr gt), (19, ptr gn), (20, ptr gf), (21, .map (some sm))] a ∧ BS w0 R L H wm hm rs wt gb gs S W ∧ CS wB gt gn gf sm S W) (fun a _ => 8 - (intOf (a.eval (.tmp 25))).toNat) ⟨0, Nat.zero_le _, hK.sub _ (by repeat (first | exact trivial | refine ⟨rfl, ?_⟩)), hI⟩ ?_)
  rintro a W ⟨k, hk, hK, hI⟩
  have him : (intOf (a.eval (.tmp 25))).toNat = k := by rw [hK.get 25 (.int .u64 (k : Nat)) rfl]; simp [intOf]
  show Code.wp _ (.seq (.seq (.region _ (opsOf Yba.f3 [1, 1, 1, 1, 1, 1, 1, 1, 1, 1, 1, 1, 1, 1, 1, 1, 0, 1, 5, 4, 0, 0]) false) (.cond (.tmp 151) .skip (.exit 6))) (.seq (.block 7 (codeOf Yba.f3 [1, 1, 1, 1, 1, 1, 1, 1, 1, 1, 1, 1, 1, 1, 1, 1, 0, 1, 5, 4, 1, 0, 5])) (.region _ (opsOf Yba.f3 [1, 1, 1, 1, 1, 1, 1, 1, 1, 1, 1, 1, 1, 1, 1, 1, 0, 1, 5, 4, 1, 1]) false))) _ _ _
  refine wp_seq (srg ?_)
  show wpList _ (opsOf Yba.f3 [1, 1, 1, 1, 1, 1, 1, 1, 1, 1, 1, 1, 1, 1, 1, 1, 0, 1, 5, 4, 0, 0]) _ [opAt Yba.f3 [1, 1, 1, 1, 1, 1, 1, 1, 1, 1, 1, 1, 1, 1, 1, 1, 0, 1, 5, 4, 0, 0] 0, opAt Yba.f3 [1, 1, 1, 1, 1, 1, 1, 1, 1, 1, 1, 1, 1, 1, 1, 1, 0, 1, 5, 4, 0, 0] 1] _ _
  refine stMv hK (wn rfl) rfl rfl rfl (by decide) fun a hK => ?_
  by_cases hlt : k < 8
  · refine stBin hK (wn rfl) rfl rfl rfl (u_lt (r := true) (decide_eq_true hlt)) rfl (by decide) fun a hK => ?_
    refine wp_cond_true (hK.op rfl) (wp_skip ?_)
    have hnext : ∀ a' W, Fm 280 [(25, .int .u64 (k : Nat)), (8, ptr H), (9, ptr rs), (14, .slice (some ⟨gb, 0, none⟩) gs.length gs.length), (18, ptr gt), (19, ptr gn), (20, ptr gf), (21, .map (some sm))] a' → (BS w0 R L H wm hm rs wt gb gs S W ∧ CS wB gt gn gf sm S W) → Code.wp Yba.prog (codeOf Yba.f3 [1, 1, 1, 1, 1, 1, 1, 1, 1, 1, 1, 1, 1, 1, 1, 1, 0, 1, 5, 4, 1, 1]) (Exit.then (fun a' w' => (∃ k : Nat, k ≤ 8 ∧ Fm 280 [(25, .int .u64 (k : Nat)), (8, ptr H), (9, ptr rs), (14, .slice (some ⟨gb, 0, none⟩) gs.length gs.length), (18, ptr gt), (19, ptr gn), (20, ptr gf), (21, .map (some sm))] a' ∧ BS w0 R L H wm hm rs wt gb gs S w' ∧ CS wB gt gn gf sm S w') ∧ 8 - (intOf (a'.eval (.tmp 25))).toNat < 8 - k) (Exit.inBlock 6 (Exit.then (Code.wp Yba.prog (codeOf Yba.f3 [1, 1, 1, 1, 1, 1, 1, 1, 1, 1, 1, 1, 1, 1, 1, 1, 1]) Q) Q))) a' W := by
      intro a W hK hI
      show Code.wp _ (.region _ (opsOf Yba.f3 [1, 1, 1, 1, 1, 1, 1, 1, 1, 1, 1, 1, 1, 1, 1, 1, 0, 1, 5, 4, 1, 1]) false) _ _ _
      refine wp_region_list ?_
      show wpList _ (opsOf Yba.f3 [1, 1, 1, 1, 1, 1, 1, 1, 1, 1, 1, 1, 1, 1, 1, 1, 0, 1, 5, 4, 1, 1]) _ [opAt Yba.f3 [1, 1, 1, 1, 1, 1, 1, 1, 1, 1, 1, 1, 1, 1, 1, 1, 0, 1, 5, 4, 1, 1] 0, opAt Yba.f3 [1, 1, 1, 1, 1, 1, 1, 1, 1, 1, 1, 1, 1, 1, 1, 1, 0, 1, 5, 4, 1, 1] 1, opAt Yba.f3 [1, 1, 1, 1, 1, 1, 1, 1, 1, 1, 1, 1, 1, 1, 1, 1, 0, 1, 5, 4, 1, 1] 2] _ _
      refine stMv hK (wn rfl) rfl rfl rfl (by decide) fun a hK => ?_
      refine stBin hK (wn rfl) rfl rfl rfl (u_add1 hlt) rfl (by decide) fun a hK => ?_
      refine stAs hK (wn rfl) rfl rfl rfl (by decide) fun a hK => ?_
      refine ⟨⟨k + 1, hlt, hK.sub _ (by repeat (first | exact trivial | refine ⟨rfl, ?_⟩)), hI⟩, ?_⟩
      rw [hK.get 25 (.int .u64 ((k + 1 : Nat) : Int)) rfl]
      simp only [intOf, Int.toNat_natCast]; omega
    rw [him]
    refine wp_seq (wp_block ?_)
    exact d_round w0 wB R L H wm hm rs wt gb gs S hPI gt gn gf sm (by exact fun c a d v w h => hP c a d v w h) a W k hlt (hK.sub _ (by repeat (first | exact trivial | refine ⟨rfl, ?_⟩))) hI (fun a W hK hI => hnext a W hK hI) (fun a W hK hI => hnext a W hK hI)
  · refine stBin hK (wn rfl) rfl rfl rfl (u_lt (r := false) (decide_eq_false hlt)) rfl (by decide) fun a hK => ?_
    refine wp_cond_false (hK.op rfl) (wp_exit ?_)
    exact hx a W (hK.sub _ (by repeat (first | exact trivial | refine ⟨rfl, ?_⟩))) hI

end Go.Proofs.Ybulkaevs
