import Derived.Test.YbulkaevsPure
namespace Go.Proofs.Ybulkaevs
open Go.RowKit
theorem row55 : RowType Yba.prog 55 4 := RowType.mk' Yba.underlying55 rfl (by kernel_rfl)
def zero55 : Array Value := #[.int .u64 0, .int .u64 0, .string ByteArray.empty, .int .u64 0]
theorem grant_one (m k : Nat) (s : ByteArray) (f : Int) : (grantC m k s f).all (·.oneCell') = true := by simp [grantC, Value.oneCell']
theorem takes_false {wait : Nat → Bool} {me : Nat} {S : PS} {g : Gr} (h : takes wait me S g = false) : stepG wait me S g = S := by unfold stepG; rw [h]; rfl
theorem takes_true {wait : Nat → Bool} {me : Nat} {S : PS} {g : Gr} (h : takes wait me S g = true) : stepG wait me S g = ⟨upd S.got g.k (some g), putA S.held g.s g.k⟩ := by unfold stepG; rw [h]; rfl

set_option maxRecDepth 20000 in
set_option maxHeartbeats 800000 in
/-- One grant of the round. -/
theorem nd_round {Q : Exit → Act → World → Prop} (w : World) (R : Nat → Option Nat) (inj : ∀ k k' c, R k = some c → R k' = some c → k = k') (H wm hm nb gb me : Nat) (hwh : wm ≠ hm) (ncs : Array Value) (hnb : w.heap[nb]? = some (.cells ncs 104 (0, 0))) (hn0 : ncs[0]? = some (.int .u64 me)) (hn41 : ncs[41]? = some (ptr H)) (gs : List Gr) (hlen : gs.length ≤ 1024) (hgs : GsAt gb gs w) (L0 : Nat → Nat) (h0 : HS R L0 H wm hm PS.start w) (hP : ∀ c a d v w, Q (.panic c) (Act.put a d v) w → Q (.panic c) a w) (a : Act) (W : World) (i : Nat) (hi : i < gs.length) (hK : Fm 27 [(8, .int .i64 i), (7, .int .i64 gs.length), (6, .slice (some ⟨gb, 0, none⟩) gs.length gs.length), (0, ptr nb)] a) (hI : (∃ L, HS R L H wm hm (runG (fun k => (R k).isSome) me (gs.take i)) W) ∧ FrP (Touch R wm hm) w W)
    (hQ : ∀ a W, Fm 27 [(8, .int .i64 i), (7, .int .i64 gs.length), (6, .slice (some ⟨gb, 0, none⟩) gs.length gs.length), (0, ptr nb)] a → ((∃ L, HS R L H wm hm (runG (fun k => (R k).isSome) me (gs.take (i + 1))) W) ∧ FrP (Touch R wm hm) w W) → Q .normal a W) :
    Code.wp Yba.prog (codeOf Yba.f5 [1, 5, 4, 1, 1, 0, 5]) Q a W := by
  have _used := hlen
  obtain ⟨⟨L, hHS⟩, hFP⟩ := hI
  obtain ⟨g, hg⟩ : ∃ g, gs[i]? = some g := ⟨gs[i], List.getElem?_eq_getElem hi⟩
  have hgsW : GsAt gb gs W := by
    obtain ⟨cs, h1, h2, h3⟩ := hgs
    exact ⟨cs, hFP.keep h1 (h0.untouched h1 (by decide)), h2, h3⟩
  have hnW := hFP.keep hnb (h0.untouched hnb (by decide))
  have hnew := runG_succ (fun k => (R k).isSome) me gs i g hg
  have hinv := PInv.run (fun k => (R k).isSome) me (gs.take i)
  generalize runG (fun k => (R k).isSome) me (gs.take i) = S at hHS hnew hinv
  rw [hnew] at hQ
  show Code.wp _ (.seq (.region _ (opsOf Yba.f5 [1, 5, 4, 1, 1, 0, 5, 0]) false) (codeOf Yba.f5 [1, 5, 4, 1, 1, 0, 5, 1])) _ _ _
  refine srg ?_
  show wpList _ (opsOf Yba.f5 [1, 5, 4, 1, 1, 0, 5, 0]) _ [opAt Yba.f5 [1, 5, 4, 1, 1, 0, 5, 0] 0, opAt Yba.f5 [1, 5, 4, 1, 1, 0, 5, 0] 1, opAt Yba.f5 [1, 5, 4, 1, 1, 0, 5, 0] 2, opAt Yba.f5 [1, 5, 4, 1, 1, 0, 5, 0] 3] _ _
  refine st hK (wn rfl) (run_idxS 49 55 _ _ rfl Yba.underlying49 gb 0 gs.length gs.length (hK.op rfl) i (hK.op rfl) hi 4 (fun w => by kernel_rfl) _) rfl (by decide) fun a hK => ?_
  refine stLr hK (wn rfl) rfl rfl (by rfl) row55 ((show W.rangeAt gb (0 + i * 4) (grantC g.m g.k g.s g.f).toList from by rw [Nat.zero_add]; exact hgsW.range hg)) rfl (by decide) fun a hK => ?_
  refine st hK (wn rfl) (run_allocOp 55 rfl zero55 _ (by kernel_rfl)) rfl (by decide) fun a hK => ?_
  refine stNs (c' := grantC g.m g.k g.s g.f) hK rfl rfl rfl rfl (by kernel_rfl) rfl (grant_one _ _ _ _) rfl ?_
  have hA : Fr [] W (W.alloc (.cells (grantC g.m g.k g.s g.f) 55)) := (Fr.refl _ _).alloc _
  have hcp : (W.alloc (.cells (grantC g.m g.k g.s g.f) 55)).heap[W.heap.size]? = some (.cells (grantC g.m g.k g.s g.f) 55 (0, 0)) := heap_alloc_new _ _
  have hn1 := hA.keep hnW (by simp)
  have hHS1 := hHS.keep hA
  have hFP1 := hFP.andThen hA (by simp)
  have hcT : ¬ Touch R wm hm W.heap.size := by
    rintro (e | e | ⟨k, c, hk, e | e⟩)
    · obtain ⟨_, _, h1, _⟩ := hHS.wait; have := lt_of_block h1; omega
    · obtain ⟨_, _, h1, _⟩ := hHS.held; have := lt_of_block h1; omega
    · have := lt_of_block (hHS.reqs k c hk).1; omega
    · have := lt_of_block (hHS.reqs k c hk).1; omega
  generalize hcb : W.heap.size = cb at hK hcp hcT
  generalize W.alloc (.cells (grantC g.m g.k g.s g.f) 55) = W1 at hA hcp hn1 hHS1 hFP1
  have hK : Fm 27 [(5, ptr cb), (8, .int .i64 i), (7, .int .i64 gs.length), (6, .slice (some ⟨gb, 0, none⟩) gs.length gs.length), (0, ptr nb)] a := hK.sub _ (by repeat (first | exact trivial | refine ⟨rfl, ?_⟩))
  show Code.wp _ (.seq (.region _ (opsOf Yba.f5 [1, 5, 4, 1, 1, 0, 5, 1, 0]) true) (codeOf Yba.f5 [1, 5, 4, 1, 1, 0, 5, 1, 1])) _ _ _
  refine wp_seq ?_
  refine wp_region_held (S := fun W => W.heap[cb]? = some (.cells (grantC g.m g.k g.s g.f) 55 (0, 0)) ∧ W.heap[nb]? = some (.cells ncs 104 (0, 0))) (by kernel_rfl) ?_
  change wpAnyH _ _ _ _ _ 8 _ _ (World.drew _)
  have hS : W1.drew.heap[cb]? = some (.cells (grantC g.m g.k g.s g.f) 55 (0, 0)) ∧ W1.drew.heap[nb]? = some (.cells ncs 104 (0, 0)) := ⟨hcp, hn1⟩
  refine sdw hK 0 (oi := opAt Yba.f5 [1, 5, 4, 1, 1, 0, 5, 1, 0] 0) rfl (by kernel_rfl) (by kernel_rfl) (by kernel_rfl) (fun c a d v w h => hP c a d v w h) (wn rfl) (fun W hW => run_fieldAddr 55 _ 0 rfl ⟨cb, 0, none⟩ ⟨cb, 0, none⟩ (hK.op rfl) W (by kernel_rfl)) hS rfl (by decide) fun a hK => ?_
  refine sdw hK 1 (oi := opAt Yba.f5 [1, 5, 4, 1, 1, 0, 5, 1, 0] 1) rfl (by kernel_rfl) (by kernel_rfl) (by kernel_rfl) (fun c a d v w h => hP c a d v w h) (wn rfl) (fun W hW => run_fieldAddr 53 _ 0 rfl ⟨cb, 0, none⟩ ⟨cb, 0, none⟩ (hK.op rfl) W (by kernel_rfl)) hS rfl (by decide) fun a hK => ?_
  refine sdw hK 2 (oi := opAt Yba.f5 [1, 5, 4, 1, 1, 0, 5, 1, 0] 2) rfl (by kernel_rfl) (by kernel_rfl) (by kernel_rfl) (fun c a d v w h => hP c a d v w h) (wn rfl) (fun W hW => run_load_one _ _ rfl _ _ (hK.op rfl) W ((cell_at hW.1 0).trans rfl) (by kernel_rfl)) hS rfl (by decide) fun a hK => ?_
  refine sdw hK 3 (oi := opAt Yba.f5 [1, 5, 4, 1, 1, 0, 5, 1, 0] 3) rfl (by kernel_rfl) (by kernel_rfl) (by kernel_rfl) (fun c a d v w h => hP c a d v w h) (wn rfl) (fun W hW => run_mv _ rfl _ (hK.op rfl) W) hS rfl (by decide) fun a hK => ?_
  refine sdw hK 4 (oi := opAt Yba.f5 [1, 5, 4, 1, 1, 0, 5, 1, 0] 4) rfl (by kernel_rfl) (by kernel_rfl) (by kernel_rfl) (fun c a d v w h => hP c a d v w h) (wn rfl) (fun W hW => run_nilCheck _ rfl _ (hK.op rfl) W) hS rfl (by decide) fun a hK => ?_
  refine sdw hK 5 (oi := opAt Yba.f5 [1, 5, 4, 1, 1, 0, 5, 1, 0] 5) rfl (by kernel_rfl) (by kernel_rfl) (by kernel_rfl) (fun c a d v w h => hP c a d v w h) (wn rfl) (fun W hW => run_fieldAddr 104 _ 0 rfl ⟨nb, 0, none⟩ ⟨nb, 0, none⟩ (hK.op rfl) W (by kernel_rfl)) hS rfl (by decide) fun a hK => ?_
  refine sdw hK 6 (oi := opAt Yba.f5 [1, 5, 4, 1, 1, 0, 5, 1, 0] 6) rfl (by kernel_rfl) (by kernel_rfl) (by kernel_rfl) (fun c a d v w h => hP c a d v w h) (wn rfl) (fun W hW => run_load_one _ _ rfl _ _ (hK.op rfl) W ((cell_at hW.2 0).trans hn0) (by kernel_rfl)) hS rfl (by decide) fun a hK => ?_
  refine sdw hK 7 (oi := opAt Yba.f5 [1, 5, 4, 1, 1, 0, 5, 1, 0] 7) rfl (by kernel_rfl) (by kernel_rfl) (by kernel_rfl) (fun c a d v w h => hP c a d v w h) (wn rfl) (fun W hW => run_bin .eql 25 _ _ 25 rfl _ _ _ (hK.op rfl) (hK.op rfl) W (u_eq25 (r := decide (g.m = me)) rfl)) hS rfl (by decide) fun a hK => ?_
  refine wpAnyH_done (by kernel_rfl) ?_ _
  have hHS2 : HS R L H wm hm S W1.drew := hHS1.keep (Fr.refl [] W1).drew
  have hFP2 : FrP (Touch R wm hm) w W1.drew := hFP1.andThen (Fr.refl [] W1).drew (by simp)
  obtain ⟨hc2, hn2⟩ := hS
  generalize W1.drew = W2 at hHS2 hFP2 hc2 hn2
  by_cases hme : g.m = me
  · rw [decide_eq_true hme] at hK
    show Code.wp _ (.cond (.tmp 19) (.region _ (opsOf Yba.f5 [1, 5, 4, 1, 1, 0, 5, 1, 1, 2]) true) .skip) _ _ _
    refine wp_cond_true (hK.op rfl) ?_
    have hK : Fm 27 [(5, ptr cb), (8, .int .i64 i), (7, .int .i64 gs.length), (6, .slice (some ⟨gb, 0, none⟩) gs.length gs.length), (0, ptr nb)] a := hK.sub _ (by repeat (first | exact trivial | refine ⟨rfl, ?_⟩))
    refine wp_region_held (S := fun W => W.heap[cb]? = some (.cells (grantC g.m g.k g.s g.f) 55 (0, 0)) ∧ W.heap[nb]? = some (.cells ncs 104 (0, 0))) (by kernel_rfl) ?_
    change wpAnyH _ _ _ _ _ 6 _ _ (World.drew _)
    have hS : W2.drew.heap[cb]? = some (.cells (grantC g.m g.k g.s g.f) 55 (0, 0)) ∧ W2.drew.heap[nb]? = some (.cells ncs 104 (0, 0)) := ⟨hc2, hn2⟩
    have hHS3 : HS R L H wm hm S W2.drew := hHS2.keep (Fr.refl [] W2).drew
    have hFP3 : FrP (Touch R wm hm) w W2.drew := hFP2.andThen (Fr.refl [] W2).drew (by simp)
    generalize W2.drew = W3 at hS hHS3 hFP3 ⊢
    refine sdw hK 0 (oi := opAt Yba.f5 [1, 5, 4, 1, 1, 0, 5, 1, 1, 2] 0) rfl (by kernel_rfl) (by kernel_rfl) (by kernel_rfl) (fun c a d v w h => hP c a d v w h) (wn rfl) (fun W hW => run_mv _ rfl _ (hK.op rfl) W) hS rfl (by decide) fun a hK => ?_
    refine sdw hK 1 (oi := opAt Yba.f5 [1, 5, 4, 1, 1, 0, 5, 1, 1, 2] 1) rfl (by kernel_rfl) (by kernel_rfl) (by kernel_rfl) (fun c a d v w h => hP c a d v w h) (wn rfl) (fun W hW => run_nilCheck _ rfl _ (hK.op rfl) W) hS rfl (by decide) fun a hK => ?_
    refine sdw hK 2 (oi := opAt Yba.f5 [1, 5, 4, 1, 1, 0, 5, 1, 1, 2] 2) rfl (by kernel_rfl) (by kernel_rfl) (by kernel_rfl) (fun c a d v w h => hP c a d v w h) (wn rfl) (fun W hW => run_fieldAddr 104 _ 21 rfl ⟨nb, 0, none⟩ ⟨nb, 41, none⟩ (hK.op rfl) W (by kernel_rfl)) hS rfl (by decide) fun a hK => ?_
    refine sdw hK 3 (oi := opAt Yba.f5 [1, 5, 4, 1, 1, 0, 5, 1, 1, 2] 3) rfl (by kernel_rfl) (by kernel_rfl) (by kernel_rfl) (fun c a d v w h => hP c a d v w h) (wn rfl) (fun W hW => run_load_one _ _ rfl _ _ (hK.op rfl) W ((cell_at hW.2 41).trans hn41) (by kernel_rfl)) hS rfl (by decide) fun a hK => ?_
    refine sdw hK 4 (oi := opAt Yba.f5 [1, 5, 4, 1, 1, 0, 5, 1, 1, 2] 4) rfl (by kernel_rfl) (by kernel_rfl) (by kernel_rfl) (fun c a d v w h => hP c a d v w h) (wn rfl) (fun W hW => run_load_row 55 _ rfl cb 0 (hK.op rfl) (grantC g.m g.k g.s g.f).toList 4 rfl row55 W (range_at hW.1)) hS rfl (by decide) fun a hK => ?_
    refine held_oneW (i := 5) (o := opAt Yba.f5 [1, 5, 4, 1, 1, 0, 5, 1, 1, 2] 5) (by kernel_rfl) rfl (wn rfl) ?_
    refine wp_enter (run_callFn 6 _ _ rfl rfl #[ptr H, .agg (grantC g.m g.k g.s g.f)] (hK.opA rfl) _ (by kernel_rfl)) ?_
    obtain ⟨es, c, hw1, hw2⟩ := hHS3.wait
    have hK := fun v => hK.put (d := 25) (by decide) v
    have hfin : ∀ W', ((∃ L, HS R L H wm hm (stepG (fun k => (R k).isSome) me S g) W') ∧ FrP (Touch R wm hm) w W') → ∀ v, Q .normal (Act.put a (some 25) v) W' := fun W' hI' v => hQ _ W' ((hK v).sub _ (by repeat (first | exact trivial | refine ⟨rfl, ?_⟩))) hI'
    cases ht : takes (fun k => (R k).isSome) me S g with
    | false =>
      rw [takes_false ht] at hfin
      have hno : waitF R S.got g.k = none := by
        unfold waitF
        split
        · rfl
        · rename_i hns
          simp only [takes, hme, decide_true, Bool.true_and, Bool.and_eq_false_iff, Bool.not_eq_eq_eq_not, Bool.not_false] at ht
          rcases ht with ht | ht
          · cases hr : R g.k with
            | none => rfl
            | some c => rw [hr] at ht; cases ht
          · exact absurd ht hns
      refine (gr_miss H wm hm g.m g.k g.s g.f W3 hHS3.hold es c hw1 _ hw2 hno).mono ?_
      rintro e W' ⟨rfl, hf⟩
      exact ⟨_, rfl, ⟨hf.keep hS.1 (by simp), hf.keep hS.2 (by simp)⟩, wpAnyH_done (by kernel_rfl) (hfin W' ⟨⟨L, hHS3.keep hf⟩, hFP3.andThen hf (by simp)⟩ _) _⟩
    | true =>
      rw [takes_true ht] at hfin
      simp only [takes, Bool.and_eq_true, Bool.not_eq_eq_eq_not, Bool.not_true] at ht
      obtain ⟨⟨_, ht1⟩, ht2⟩ := ht
      obtain ⟨c1, hR⟩ := Option.isSome_iff_exists.1 ht1
      have hgn : S.got g.k = none := by cases hx : S.got g.k with | none => rfl | some _ => rw [hx] at ht2; cases ht2
      have hyes : waitF R S.got g.k = some (ptr (c1 + 1)) := by unfold waitF; rw [hgn, hR]; rfl
      obtain ⟨hs, c', hh1, hh2⟩ := hHS3.held
      obtain ⟨hr1, hr2⟩ := hHS3.reqs g.k c1 hR
      rw [hgn] at hr1
      refine (gr_hit H wm hm g.m g.k g.s g.f W3 hHS3.hold es c hw1 _ hw2 (c1 + 1) c1 hyes _ _ _ _ hr1 (hr2 hgn) hs c' hh1 _ hh2 hwh).mono ?_
      rintro e W' ⟨rfl, N, es', d1, hs', d2, _, hf, q1, q2, q3, q4, q5⟩
      have T1 : Touch R wm hm wm := Or.inl rfl
      have T2 : Touch R wm hm hm := Or.inr (Or.inl rfl)
      have T3 : Touch R wm hm (c1 + 1) := Or.inr (Or.inr ⟨_, _, hR, Or.inr rfl⟩)
      have T4 : Touch R wm hm c1 := Or.inr (Or.inr ⟨_, _, hR, Or.inl rfl⟩)
      have hnT := h0.untouched hnb (by decide)
      have hout : ∀ j, ¬ Touch R wm hm j → j ∉ [wm, hm, c1 + 1, c1] := fun j hj hm' => by
        simp only [List.mem_cons, List.not_mem_nil, or_false] at hm'
        rcases hm' with rfl | rfl | rfl | rfl
        · exact hj T1
        · exact hj T2
        · exact hj T3
        · exact hj T4
      have hall : ∀ j ∈ [wm, hm, c1 + 1, c1], Touch R wm hm j ∨ w.heap.size ≤ j := fun j hm' => by
        simp only [List.mem_cons, List.not_mem_nil, or_false] at hm'
        rcases hm' with rfl | rfl | rfl | rfl
        · exact Or.inl T1
        · exact Or.inl T2
        · exact Or.inl T3
        · exact Or.inl T4
      exact ⟨_, rfl, ⟨hf.keep hS.1 (hout cb hcT), hf.keep hS.2 (hout nb hnT)⟩, wpAnyH_done (by kernel_rfl) (hfin W' ⟨⟨_, hHS3.take inj g c1 hR hgn hinv.held hf q1 q2 q3 q4 q5⟩, hFP3.andThen hf hall⟩ _) _⟩
  · rw [decide_eq_false hme] at hK
    show Code.wp _ (.cond (.tmp 19) (codeOf Yba.f5 [1, 5, 4, 1, 1, 0, 5, 1, 1, 2]) .skip) _ _ _
    refine wp_cond_false (hK.op rfl) (wp_skip ?_)
    have ht : takes (fun k => (R k).isSome) me S g = false := by unfold takes; rw [decide_eq_false hme]; rfl
    rw [takes_false ht] at hQ
    exact hQ a W2 (hK.sub _ (by repeat (first | exact trivial | refine ⟨rfl, ?_⟩))) ⟨⟨L, hHS2⟩, hFP2⟩

set_option maxRecDepth 20000 in
/-- (*Node).granted. -/
theorem node_granted (w : World) (R : Nat → Option Nat) (inj : ∀ k k' c, R k = some c → R k' = some c → k = k') (H wm hm nb gb me : Nat) (hwh : wm ≠ hm) (ncs : Array Value) (hnb : w.heap[nb]? = some (.cells ncs 104 (0, 0))) (hn0 : ncs[0]? = some (.int .u64 me)) (hn41 : ncs[41]? = some (ptr H)) (gs : List Gr) (hlen : gs.length ≤ 1024) (hgs : GsAt gb gs w) (L0 : Nat → Nat) (h0 : HS R L0 H wm hm PS.start w) : Calls Yba.prog 5 #[ptr nb, .slice (some ⟨gb, 0, none⟩) gs.length gs.length] w fun e w' => e = .returned (.tuple #[]) ∧ ∃ L, HS R L H wm hm (runG (fun k => (R k).isSome) me gs) w' ∧ FrP (Touch R wm hm) w w' := by
  go_enter Yba.func5, Yba.ntmps5
  show Code.wp _ (codeOf Yba.f5 []) _ _ _
  refine Fm.begin 27 [(0, ptr nb), (1, .slice (some ⟨gb, 0, none⟩) gs.length gs.length)] rfl rfl ⟨rfl, rfl, trivial⟩ fun a hK => ?_
  show Code.wp _ (.seq (.region _ (opsOf Yba.f5 [0]) false) (.block 0 (.loop (codeOf Yba.f5 [1, 5, 4])))) _ _ _
  refine srg ?_
  show wpList _ (opsOf Yba.f5 [0]) _ [opAt Yba.f5 [0] 0, opAt Yba.f5 [0] 1, opAt Yba.f5 [0] 2] _ _
  refine stMv hK (wn rfl) rfl rfl rfl (by decide) fun a hK => ?_
  refine stLenS hK (wn rfl) rfl Yba.underlying49 rfl rfl (by decide) fun a hK => ?_
  refine stMv hK (wn rfl) rfl rfl rfl (by decide) fun a hK => ?_
  show Code.wp _ (.block 0 (.loop (codeOf Yba.f5 [1, 5, 4]))) _ _ _
  refine wp_block (wp_loop (fun a W => ∃ i : Nat, i ≤ gs.length ∧ Fm 27 [(8, .int .i64 i), (7, .int .i64 gs.length), (6, .slice (some ⟨gb, 0, none⟩) gs.length gs.length), (0, ptr nb)] a ∧ (∃ L, HS R L H wm hm (runG (fun k => (R k).isSome) me (gs.take i)) W) ∧ FrP (Touch R wm hm) w W) (fun a _ => gs.length - (intOf (a.eval (.tmp 8))).toNat) ⟨0, Nat.zero_le _, hK.sub _ (by repeat (first | exact trivial | refine ⟨rfl, ?_⟩)), ⟨L0, h0⟩, FrP.refl _⟩ ?_)
  rintro a W ⟨i, hi, hK, hI⟩
  have him : (intOf (a.eval (.tmp 8))).toNat = i := by rw [hK.get 8 (.int .i64 i) rfl]; simp [intOf]
  show Code.wp _ (.seq (.region _ (opsOf Yba.f5 [1, 5, 4, 0]) false) (.seq (.cond (.tmp 9) .skip (.exit 0)) (.seq (.block 1 (codeOf Yba.f5 [1, 5, 4, 1, 1, 0, 5])) (.region _ (opsOf Yba.f5 [1, 5, 4, 1, 1, 1]) false)))) _ _ _
  refine srg ?_
  show wpList _ (opsOf Yba.f5 [1, 5, 4, 0]) _ [opAt Yba.f5 [1, 5, 4, 0] 0] _ _
  by_cases hlt : i < gs.length
  · refine stBin hK (wn rfl) rfl rfl rfl (i_lt (r := true) (decide_eq_true (by omega))) rfl (by decide) fun a hK => ?_
    refine wp_seq (wp_cond_true (hK.op rfl) (wp_skip ?_))
    refine wp_seq (wp_block ?_)
    refine nd_round w R inj H wm hm nb gb me hwh ncs hnb hn0 hn41 gs hlen hgs L0 h0 (fun c a d v w h => by first | exact h | (cases d <;> exact h)) a W i hlt (hK.sub _ (by repeat (first | exact trivial | refine ⟨rfl, ?_⟩))) hI fun a W hK hI => ?_
    show Code.wp _ (.region _ (opsOf Yba.f5 [1, 5, 4, 1, 1, 1]) false) _ _ _
    refine wp_region_list ?_
    show wpList _ (opsOf Yba.f5 [1, 5, 4, 1, 1, 1]) _ [opAt Yba.f5 [1, 5, 4, 1, 1, 1] 0, opAt Yba.f5 [1, 5, 4, 1, 1, 1] 1] _ _
    refine stBin hK (wn rfl) rfl rfl rfl (i_add (y := ((i + 1 : Nat) : Int)) (by omega) (by omega) (by omega)) rfl (by decide) fun a hK => ?_
    refine stMv hK (wn rfl) rfl rfl rfl (by decide) fun a hK => ?_
    refine ⟨⟨i + 1, hlt, hK.sub _ (by repeat (first | exact trivial | refine ⟨rfl, ?_⟩)), hI⟩, ?_⟩
    show gs.length - (intOf (a.eval (.tmp 8))).toNat < _
    rw [hK.get 8 (.int .i64 ((i + 1 : Nat) : Int)) rfl, him]
    simp only [intOf, Int.toNat_natCast]; omega
  · refine stBin hK (wn rfl) rfl rfl rfl (i_lt (r := false) (decide_eq_false (by omega))) rfl (by decide) fun a hK => ?_
    refine wp_seq (wp_cond_false (hK.op rfl) (wp_exit ?_))
    obtain rfl : i = gs.length := by omega
    rw [runG_all] at hI
    obtain ⟨⟨L, hHS⟩, hFP⟩ := hI
    simp only [Exit.inBlock, Exit.then]
    rw [if_pos trivial]
    refine bodyPost_end (fn := Yba.f5) (results_none rfl _ _ _) hK.defers ?_
    exact ⟨rfl, L, hHS, hFP⟩

end Go.Proofs.Ybulkaevs
