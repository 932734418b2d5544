import Derived.Test.YbulkaeqwDoorMore
namespace Go.Proofs.YbulkaeqwDoor
open Go.RowKit
theorem Bs.len2 {a : Option Addr} {l c : Nat} {xs : List UInt8} {w : World} (h : Bs (.slice a l c) xs w) : l = xs.length ∧ l ≤ c := by
  obtain ⟨a', c', h1, h2, _⟩ := h
  cases h1; exact ⟨rfl, h2⟩
theorem held_oneW {P : Program} {ops : Array Oper} {Q : Exit → Act → World → Prop} {md : Region.Mode} {S : World → Prop} {fuel : Nat} {listed : Array Bool} {a : Act} {w : World} {i : Nat} {o : Oper} (hr : Region.ready md ops listed = [i]) (ho : ops[i]? = some o) (hw : Region.wanted o (yielded ops a.tmps) = true)
    (h : o.wp P a w (fun a' w' => S w' ∧ wpAnyH P md ops Q S fuel (listed.setIfInBounds i true) a' w') Q) : wpAnyH P md ops Q S (fuel + 1) listed a w := by
  refine wpAnyH_all hr (by simp) fun j hj => ?_
  obtain rfl : j = i := by simpa using hj
  unfold wpOp
  rw [ho]
  dsimp only
  rw [if_pos hw]
  exact .inl h

set_option maxRecDepth 20000 in
theorem ex_pre {Q : Exit → Act → World → Prop} (w0 : World) (rb : Nat) (xs : List UInt8) (hn : xs.length ≤ 1024) (ba : Option Addr) (bc : Nat) (hb : Bs (.slice ba xs.length bc) xs w0) (a : Act) (W : World) (hF : Fr [] w0 W) (k : Int) (q : Addr) (ra : Option Addr) (rl rc : Nat) (hK : Fm 130 [(0, .slice ba xs.length bc), (1, .int .i64 k), (2, .bool true), (8, errV q), (9, ptr rb), (10, nilS)] a) (hr : W.heap[rb]? = some (rdr (.slice ra rl rc) (errV q))) (hbs : Bs (.slice ra rl rc) xs W)
    (hnx : ∀ a W, Fm 130 [(6, .bool true)] a → Fr [] w0 W → Q .ret a W) :
    Code.wp Ybad.prog (codeOf Ybad.f3 [1, 1, 1, 1, 1, 1, 1]) Q a W := by
  have _used := hn
  show Code.wp _ (.seq (.seq (.region _ (opsOf Ybad.f3 [1, 1, 1, 1, 1, 1, 1, 0, 0]) false) (codeOf Ybad.f3 [1, 1, 1, 1, 1, 1, 1, 0, 1])) (codeOf Ybad.f3 [1, 1, 1, 1, 1, 1, 1, 1])) _ _ _
  refine wp_seq (srg ?_)
  show wpList _ (opsOf Ybad.f3 [1, 1, 1, 1, 1, 1, 1, 0, 0]) _ [opAt Ybad.f3 [1, 1, 1, 1, 1, 1, 1, 0, 0] 0] _ _
  refine stMv hK (wn rfl) rfl rfl rfl (by decide) fun a hK => ?_
  show Code.wp _ (.cond (.tmp 25) (.seq (.region _ (opsOf Ybad.f3 [1, 1, 1, 1, 1, 1, 1, 0, 1, 2, 0]) false) .ret) .skip) _ _ _
  refine wp_cond_true (hK.op rfl) (srg ?_)
  show wpList _ (opsOf Ybad.f3 [1, 1, 1, 1, 1, 1, 1, 0, 1, 2, 0]) _ [opAt Ybad.f3 [1, 1, 1, 1, 1, 1, 1, 0, 1, 2, 0] 0, opAt Ybad.f3 [1, 1, 1, 1, 1, 1, 1, 0, 1, 2, 0] 1, opAt Ybad.f3 [1, 1, 1, 1, 1, 1, 1, 0, 1, 2, 0] 2, opAt Ybad.f3 [1, 1, 1, 1, 1, 1, 1, 0, 1, 2, 0] 3, opAt Ybad.f3 [1, 1, 1, 1, 1, 1, 1, 0, 1, 2, 0] 4, opAt Ybad.f3 [1, 1, 1, 1, 1, 1, 1, 0, 1, 2, 0] 5, opAt Ybad.f3 [1, 1, 1, 1, 1, 1, 1, 0, 1, 2, 0] 6, opAt Ybad.f3 [1, 1, 1, 1, 1, 1, 1, 0, 1, 2, 0] 7, opAt Ybad.f3 [1, 1, 1, 1, 1, 1, 1, 0, 1, 2, 0] 8, opAt Ybad.f3 [1, 1, 1, 1, 1, 1, 1, 0, 1, 2, 0] 9, opAt Ybad.f3 [1, 1, 1, 1, 1, 1, 1, 0, 1, 2, 0] 10, opAt Ybad.f3 [1, 1, 1, 1, 1, 1, 1, 0, 1, 2, 0] 11, opAt Ybad.f3 [1, 1, 1, 1, 1, 1, 1, 0, 1, 2, 0] 12, opAt Ybad.f3 [1, 1, 1, 1, 1, 1, 1, 0, 1, 2, 0] 13, opAt Ybad.f3 [1, 1, 1, 1, 1, 1, 1, 0, 1, 2, 0] 14, opAt Ybad.f3 [1, 1, 1, 1, 1, 1, 1, 0, 1, 2, 0] 15, opAt Ybad.f3 [1, 1, 1, 1, 1, 1, 1, 0, 1, 2, 0] 16, opAt Ybad.f3 [1, 1, 1, 1, 1, 1, 1, 0, 1, 2, 0] 17, opAt Ybad.f3 [1, 1, 1, 1, 1, 1, 1, 0, 1, 2, 0] 18, opAt Ybad.f3 [1, 1, 1, 1, 1, 1, 1, 0, 1, 2, 0] 19, opAt Ybad.f3 [1, 1, 1, 1, 1, 1, 1, 0, 1, 2, 0] 20, opAt Ybad.f3 [1, 1, 1, 1, 1, 1, 1, 0, 1, 2, 0] 21, opAt Ybad.f3 [1, 1, 1, 1, 1, 1, 1, 0, 1, 2, 0] 22, opAt Ybad.f3 [1, 1, 1, 1, 1, 1, 1, 0, 1, 2, 0] 23, opAt Ybad.f3 [1, 1, 1, 1, 1, 1, 1, 0, 1, 2, 0] 24, opAt Ybad.f3 [1, 1, 1, 1, 1, 1, 1, 0, 1, 2, 0] 25, opAt Ybad.f3 [1, 1, 1, 1, 1, 1, 1, 0, 1, 2, 0] 26, opAt Ybad.f3 [1, 1, 1, 1, 1, 1, 1, 0, 1, 2, 0] 27, opAt Ybad.f3 [1, 1, 1, 1, 1, 1, 1, 0, 1, 2, 0] 28] _ _
  refine stMv hK (wn rfl) rfl rfl rfl (by decide) fun a hK => ?_
  refine stBin hK (wn rfl) rfl rfl rfl ((by kernel_rfl : _ = Result.ok (Value.bool true) _)) rfl (by decide) fun a hK => ?_
  refine stMv hK (wn rfl) rfl rfl rfl (by decide) fun a hK => ?_
  refine stMv hK (hK.wy rfl rfl rfl (by decide)) rfl rfl rfl (by decide) fun a hK => ?_
  refine stNil hK (hK.wy rfl rfl rfl (by decide)) rfl rfl rfl (by decide) fun a hK => ?_
  refine stFa hK (hK.wy rfl rfl rfl (by decide)) rfl rfl 1 (fun b w => by kernel_rfl) rfl (by decide) fun a hK => ?_
  refine stLd hK (hK.wy rfl rfl rfl (by decide)) rfl rfl ((cell_at hr 1).trans (rfl : _ = some (errV q))) (fun w => by kernel_rfl) rfl (by decide) fun a hK => ?_
  refine stMv hK (hK.wy rfl rfl rfl (by decide)) rfl rfl rfl (by decide) fun a hK => ?_
  refine stBin hK (hK.wy rfl rfl rfl (by decide)) rfl rfl rfl (err_eql _ _ _ _) rfl (by decide) fun a hK => ?_
  refine stPick hK (wn rfl) rfl rfl rfl rfl rfl (by decide) fun a hK => ?_
  refine stMv hK (wn rfl) rfl rfl rfl (by decide) fun a hK => ?_
  refine stMv hK (hK.wy rfl rfl rfl (by decide)) rfl rfl rfl (by decide) fun a hK => ?_
  refine stNil hK (hK.wy rfl rfl rfl (by decide)) rfl rfl rfl (by decide) fun a hK => ?_
  refine stFa hK (hK.wy rfl rfl rfl (by decide)) rfl rfl 0 (fun b w => by kernel_rfl) rfl (by decide) fun a hK => ?_
  refine stLd hK (hK.wy rfl rfl rfl (by decide)) rfl rfl ((cell_at hr 0).trans (rfl : _ = some (Value.slice ra rl rc))) (fun w => by kernel_rfl) rfl (by decide) fun a hK => ?_
  refine stLenS hK (hK.wy rfl rfl rfl (by decide)) rfl Ybad.underlying22 rfl rfl (by decide) fun a hK => ?_
  refine stMv hK (hK.wy rfl rfl rfl (by decide)) rfl rfl rfl (by decide) fun a hK => ?_
  refine stLenS hK (hK.wy rfl rfl rfl (by decide)) rfl Ybad.underlying22 rfl rfl (by decide) fun a hK => ?_
  refine stBin hK (hK.wy rfl rfl rfl (by decide)) rfl rfl rfl (int_eql (by rw [hbs.len2.1])) rfl (by decide) fun a hK => ?_
  refine stPick hK (wn rfl) rfl rfl rfl rfl rfl (by decide) fun a hK => ?_
  refine stMv hK (wn rfl) rfl rfl rfl (by decide) fun a hK => ?_
  refine stMv hK (hK.wy rfl rfl rfl (by decide)) rfl rfl rfl (by decide) fun a hK => ?_
  refine stNil hK (hK.wy rfl rfl rfl (by decide)) rfl rfl rfl (by decide) fun a hK => ?_
  refine stFa hK (hK.wy rfl rfl rfl (by decide)) rfl rfl 0 (fun b w => by kernel_rfl) rfl (by decide) fun a hK => ?_
  refine stLd hK (hK.wy rfl rfl rfl (by decide)) rfl rfl ((cell_at hr 0).trans (rfl : _ = some (Value.slice ra rl rc))) (fun w => by kernel_rfl) rfl (by decide) fun a hK => ?_
  refine stMv hK (hK.wy rfl rfl rfl (by decide)) rfl rfl rfl (by decide) fun a hK => ?_
  refine stCallW hK (hK.wy rfl rfl rfl (by decide)) rfl rfl (R := fun v w' => v = .bool true ∧ w' = W) (fun w => by kernel_rfl) ((equal_yes hbs (hb.keep hF)).mono fun _ _ h => ⟨_, h.1, rfl, h.2⟩) rfl (by decide) fun v a W' hR hK => ?_
  obtain ⟨rfl, rfl⟩ := hR
  refine stPick hK (wn rfl) rfl rfl rfl rfl rfl (by decide) fun a hK => ?_
  refine stAs hK (wn rfl) rfl rfl rfl (by decide) fun a hK => ?_
  exact wp_ret (hnx _ _ (hK.sub _ ⟨rfl, trivial⟩) hF)

set_option maxRecDepth 20000 in
theorem ex_short {Q : Exit → Act → World → Prop} (w0 : World) (rb : Nat) (xs : List UInt8) (hn : xs.length ≤ 1024) (ba : Option Addr) (bc : Nat) (hb : Bs (.slice ba xs.length bc) xs w0) (a : Act) (W : World) (hF : Fr [] w0 W) (k : Int) (hk : k < 0 ∨ (xs.length : Int) < k) (q : Addr) (hE : w0.cell? ⟨0, 0, none⟩ = some (errV q)) (ra : Option Addr) (rl rc : Nat) (hK : Fm 130 [(0, .slice ba xs.length bc), (1, .int .i64 k), (2, .bool false), (8, .nilIface), (9, ptr rb), (10, nilS)] a) (hr : W.heap[rb]? = some (rdr (.slice ra rl rc) (errV q))) (hbs : Bs (.slice ra rl rc) xs W)
    (hP : ∀ c a d v w, Q (.panic c) (Act.put a d v) w → Q (.panic c) a w)
    (hnx : ∀ a W, Fm 130 [(6, .bool true)] a → Fr [] w0 W → Q .ret a W) :
    Code.wp Ybad.prog (codeOf Ybad.f3 [1, 1, 1, 1, 1, 1, 1]) Q a W := by
  have _used := hn
  show Code.wp _ (.seq (.seq (.region _ (opsOf Ybad.f3 [1, 1, 1, 1, 1, 1, 1, 0, 0]) false) (codeOf Ybad.f3 [1, 1, 1, 1, 1, 1, 1, 0, 1])) (codeOf Ybad.f3 [1, 1, 1, 1, 1, 1, 1, 1])) _ _ _
  refine wp_seq (srg ?_)
  show wpList _ (opsOf Ybad.f3 [1, 1, 1, 1, 1, 1, 1, 0, 0]) _ [opAt Ybad.f3 [1, 1, 1, 1, 1, 1, 1, 0, 0] 0] _ _
  refine stMv hK (wn rfl) rfl rfl rfl (by decide) fun a hK => ?_
  show Code.wp _ (.cond (.tmp 25) (codeOf Ybad.f3 [1, 1, 1, 1, 1, 1, 1, 0, 1, 2]) .skip) _ _ _
  refine wp_cond_false (hK.op rfl) (wp_skip ?_)
  show Code.wp _ (codeOf Ybad.f3 [1, 1, 1, 1, 1, 1, 1, 1]) _ _ _
  have h12 : ∀ a, Fm 130 [(0, .slice ba xs.length bc), (1, .int .i64 k), (2, .bool false), (8, .nilIface), (9, ptr rb), (10, nilS)] a → Code.wp Ybad.prog (codeOf Ybad.f3 [1, 1, 1, 1, 1, 1, 1, 1, 0, 1, 2]) (Exit.then (Code.wp Ybad.prog (codeOf Ybad.f3 [1, 1, 1, 1, 1, 1, 1, 1, 1]) Q) Q) a W := by
    intro a hK
    show Code.wp _ (.seq (.region _ (opsOf Ybad.f3 [1, 1, 1, 1, 1, 1, 1, 1, 0, 1, 2, 0]) true) .ret) _ _ _
    refine wp_seq ?_
    refine wp_region_held (S := fun W => W.cell? ⟨rb, 1, none⟩ = some (errV q) ∧ W.cell? ⟨0, 0, none⟩ = some (errV q) ∧ W.cell? ⟨rb, 0, none⟩ = some (.slice ra rl rc)) (by kernel_rfl) ?_
    change wpAnyH _ _ _ _ _ 29 _ _ (World.drew _)
    have hS : W.drew.cell? ⟨rb, 1, none⟩ = some (errV q) ∧ W.drew.cell? ⟨0, 0, none⟩ = some (errV q) ∧ W.drew.cell? ⟨rb, 0, none⟩ = some (.slice ra rl rc) := ⟨(cell_at (w := W.drew) hr 1).trans rfl, (hF.drew.cell (cell_block hE) (by simp)).trans hE, (cell_at (w := W.drew) hr 0).trans rfl⟩
    refine sdw hK 0 (oi := opAt Ybad.f3 [1, 1, 1, 1, 1, 1, 1, 1, 0, 1, 2, 0] 0) rfl (by kernel_rfl) (by kernel_rfl) (by kernel_rfl) (fun c a d v w h => hP c a d v w h) (wn rfl) (fun W hW => run_mv _ rfl _ (hK.op rfl) W) hS rfl (by decide) fun a hK => ?_
    refine sdw hK 1 (oi := opAt Ybad.f3 [1, 1, 1, 1, 1, 1, 1, 1, 0, 1, 2, 0] 1) rfl (by kernel_rfl) (by kernel_rfl) (by kernel_rfl) (fun c a d v w h => hP c a d v w h) (wn rfl) (fun W hW => run_bin .eql 22 _ _ 22 rfl _ _ _ (hK.op rfl) (hK.op rfl) W ((by kernel_rfl : _ = Result.ok (Value.bool true) _))) hS rfl (by decide) fun a hK => ?_
    refine sdw hK 2 (oi := opAt Ybad.f3 [1, 1, 1, 1, 1, 1, 1, 1, 0, 1, 2, 0] 2) rfl (by kernel_rfl) (by kernel_rfl) (by kernel_rfl) (fun c a d v w h => hP c a d v w h) (wn rfl) (fun W hW => run_mv _ rfl _ (hK.op rfl) W) hS rfl (by decide) fun a hK => ?_
    refine sdw hK 3 (oi := opAt Ybad.f3 [1, 1, 1, 1, 1, 1, 1, 1, 0, 1, 2, 0] 3) rfl (by kernel_rfl) (by kernel_rfl) (by kernel_rfl) (fun c a d v w h => hP c a d v w h) (hK.wy rfl rfl rfl (by decide)) (fun W hW => run_mv _ rfl _ (hK.op rfl) W) hS rfl (by decide) fun a hK => ?_
    refine sdw hK 4 (oi := opAt Ybad.f3 [1, 1, 1, 1, 1, 1, 1, 1, 0, 1, 2, 0] 4) rfl (by kernel_rfl) (by kernel_rfl) (by kernel_rfl) (fun c a d v w h => hP c a d v w h) (hK.wy rfl rfl rfl (by decide)) (fun W hW => run_nilCheck _ rfl _ (hK.op rfl) W) hS rfl (by decide) fun a hK => ?_
    refine sdw hK 5 (oi := opAt Ybad.f3 [1, 1, 1, 1, 1, 1, 1, 1, 0, 1, 2, 0] 5) rfl (by kernel_rfl) (by kernel_rfl) (by kernel_rfl) (fun c a d v w h => hP c a d v w h) (hK.wy rfl rfl rfl (by decide)) (fun W hW => run_fieldAddr 29 _ 1 rfl ⟨rb, 0, none⟩ ⟨rb, 1, none⟩ (hK.op rfl) W (by kernel_rfl)) hS rfl (by decide) fun a hK => ?_
    refine sdw hK 6 (oi := opAt Ybad.f3 [1, 1, 1, 1, 1, 1, 1, 1, 0, 1, 2, 0] 6) rfl (by kernel_rfl) (by kernel_rfl) (by kernel_rfl) (fun c a d v w h => hP c a d v w h) (hK.wy rfl rfl rfl (by decide)) (fun W hW => run_load_one _ _ rfl _ _ (hK.op rfl) W (hW.1) (by kernel_rfl)) hS rfl (by decide) fun a hK => ?_
    refine sdw hK 7 (oi := opAt Ybad.f3 [1, 1, 1, 1, 1, 1, 1, 1, 0, 1, 2, 0] 7) rfl (by kernel_rfl) (by kernel_rfl) (by kernel_rfl) (fun c a d v w h => hP c a d v w h) (hK.wy rfl rfl rfl (by decide)) (fun W hW => run_load_one _ _ rfl _ _ (hK.op rfl) W (hW.2.1) (by kernel_rfl)) hS rfl (by decide) fun a hK => ?_
    refine sdw hK 8 (oi := opAt Ybad.f3 [1, 1, 1, 1, 1, 1, 1, 1, 0, 1, 2, 0] 8) rfl (by kernel_rfl) (by kernel_rfl) (by kernel_rfl) (fun c a d v w h => hP c a d v w h) (hK.wy rfl rfl rfl (by decide)) (fun W hW => run_bin .eql 25 _ _ 25 rfl _ _ _ (hK.op rfl) (hK.op rfl) W (err_eql _ _ _ _)) hS rfl (by decide) fun a hK => ?_
    refine sdw hK 9 (oi := opAt Ybad.f3 [1, 1, 1, 1, 1, 1, 1, 1, 0, 1, 2, 0] 9) rfl (by kernel_rfl) (by kernel_rfl) (by kernel_rfl) (fun c a d v w h => hP c a d v w h) (wn rfl) (fun W hW => run_pick _ _ _ rfl _ _ _ (hK.op rfl) (hK.op rfl) (hK.op rfl) W) hS rfl (by decide) fun a hK => ?_
    refine sdw hK 10 (oi := opAt Ybad.f3 [1, 1, 1, 1, 1, 1, 1, 1, 0, 1, 2, 0] 10) rfl (by kernel_rfl) (by kernel_rfl) (by kernel_rfl) (fun c a d v w h => hP c a d v w h) (wn rfl) (fun W hW => run_mv _ rfl _ (hK.op rfl) W) hS rfl (by decide) fun a hK => ?_
    refine sdw hK 11 (oi := opAt Ybad.f3 [1, 1, 1, 1, 1, 1, 1, 1, 0, 1, 2, 0] 11) rfl (by kernel_rfl) (by kernel_rfl) (by kernel_rfl) (fun c a d v w h => hP c a d v w h) (hK.wy rfl rfl rfl (by decide)) (fun W hW => run_mv _ rfl _ (hK.op rfl) W) hS rfl (by decide) fun a hK => ?_
    refine sdw hK 12 (oi := opAt Ybad.f3 [1, 1, 1, 1, 1, 1, 1, 1, 0, 1, 2, 0] 12) rfl (by kernel_rfl) (by kernel_rfl) (by kernel_rfl) (fun c a d v w h => hP c a d v w h) (hK.wy rfl rfl rfl (by decide)) (fun W hW => run_nilCheck _ rfl _ (hK.op rfl) W) hS rfl (by decide) fun a hK => ?_
    refine sdw hK 13 (oi := opAt Ybad.f3 [1, 1, 1, 1, 1, 1, 1, 1, 0, 1, 2, 0] 13) rfl (by kernel_rfl) (by kernel_rfl) (by kernel_rfl) (fun c a d v w h => hP c a d v w h) (hK.wy rfl rfl rfl (by decide)) (fun W hW => run_fieldAddr 29 _ 0 rfl ⟨rb, 0, none⟩ ⟨rb, 0, none⟩ (hK.op rfl) W (by kernel_rfl)) hS rfl (by decide) fun a hK => ?_
    refine sdw hK 14 (oi := opAt Ybad.f3 [1, 1, 1, 1, 1, 1, 1, 1, 0, 1, 2, 0] 14) rfl (by kernel_rfl) (by kernel_rfl) (by kernel_rfl) (fun c a d v w h => hP c a d v w h) (hK.wy rfl rfl rfl (by decide)) (fun W hW => run_load_one _ _ rfl _ _ (hK.op rfl) W (hW.2.2) (by kernel_rfl)) hS rfl (by decide) fun a hK => ?_
    refine sdw hK 15 (oi := opAt Ybad.f3 [1, 1, 1, 1, 1, 1, 1, 1, 0, 1, 2, 0] 15) rfl (by kernel_rfl) (by kernel_rfl) (by kernel_rfl) (fun c a d v w h => hP c a d v w h) (hK.wy rfl rfl rfl (by decide)) (fun W hW => run_lenS 22 5 _ rfl Ybad.underlying22 _ _ _ (hK.op rfl) W) hS rfl (by decide) fun a hK => ?_
    refine sdw hK 16 (oi := opAt Ybad.f3 [1, 1, 1, 1, 1, 1, 1, 1, 0, 1, 2, 0] 16) rfl (by kernel_rfl) (by kernel_rfl) (by kernel_rfl) (fun c a d v w h => hP c a d v w h) (hK.wy rfl rfl rfl (by decide)) (fun W hW => run_mv _ rfl _ (hK.op rfl) W) hS rfl (by decide) fun a hK => ?_
    refine sdw hK 17 (oi := opAt Ybad.f3 [1, 1, 1, 1, 1, 1, 1, 1, 0, 1, 2, 0] 17) rfl (by kernel_rfl) (by kernel_rfl) (by kernel_rfl) (fun c a d v w h => hP c a d v w h) (hK.wy rfl rfl rfl (by decide)) (fun W hW => run_lenS 22 5 _ rfl Ybad.underlying22 _ _ _ (hK.op rfl) W) hS rfl (by decide) fun a hK => ?_
    refine sdw hK 18 (oi := opAt Ybad.f3 [1, 1, 1, 1, 1, 1, 1, 1, 0, 1, 2, 0] 18) rfl (by kernel_rfl) (by kernel_rfl) (by kernel_rfl) (fun c a d v w h => hP c a d v w h) (hK.wy rfl rfl rfl (by decide)) (fun W hW => run_bin .eql 3 _ _ 3 rfl _ _ _ (hK.op rfl) (hK.op rfl) W (int_eql (by rw [hbs.len2.1]))) hS rfl (by decide) fun a hK => ?_
    refine sdw hK 19 (oi := opAt Ybad.f3 [1, 1, 1, 1, 1, 1, 1, 1, 0, 1, 2, 0] 19) rfl (by kernel_rfl) (by kernel_rfl) (by kernel_rfl) (fun c a d v w h => hP c a d v w h) (wn rfl) (fun W hW => run_pick _ _ _ rfl _ _ _ (hK.op rfl) (hK.op rfl) (hK.op rfl) W) hS rfl (by decide) fun a hK => ?_
    refine sdw hK 20 (oi := opAt Ybad.f3 [1, 1, 1, 1, 1, 1, 1, 1, 0, 1, 2, 0] 20) rfl (by kernel_rfl) (by kernel_rfl) (by kernel_rfl) (fun c a d v w h => hP c a d v w h) (wn rfl) (fun W hW => run_mv _ rfl _ (hK.op rfl) W) hS rfl (by decide) fun a hK => ?_
    refine sdw hK 21 (oi := opAt Ybad.f3 [1, 1, 1, 1, 1, 1, 1, 1, 0, 1, 2, 0] 21) rfl (by kernel_rfl) (by kernel_rfl) (by kernel_rfl) (fun c a d v w h => hP c a d v w h) (hK.wy rfl rfl rfl (by decide)) (fun W hW => run_mv _ rfl _ (hK.op rfl) W) hS rfl (by decide) fun a hK => ?_
    refine sdw hK 22 (oi := opAt Ybad.f3 [1, 1, 1, 1, 1, 1, 1, 1, 0, 1, 2, 0] 22) rfl (by kernel_rfl) (by kernel_rfl) (by kernel_rfl) (fun c a d v w h => hP c a d v w h) (hK.wy rfl rfl rfl (by decide)) (fun W hW => run_nilCheck _ rfl _ (hK.op rfl) W) hS rfl (by decide) fun a hK => ?_
    refine sdw hK 23 (oi := opAt Ybad.f3 [1, 1, 1, 1, 1, 1, 1, 1, 0, 1, 2, 0] 23) rfl (by kernel_rfl) (by kernel_rfl) (by kernel_rfl) (fun c a d v w h => hP c a d v w h) (hK.wy rfl rfl rfl (by decide)) (fun W hW => run_fieldAddr 29 _ 0 rfl ⟨rb, 0, none⟩ ⟨rb, 0, none⟩ (hK.op rfl) W (by kernel_rfl)) hS rfl (by decide) fun a hK => ?_
    refine sdw hK 24 (oi := opAt Ybad.f3 [1, 1, 1, 1, 1, 1, 1, 1, 0, 1, 2, 0] 24) rfl (by kernel_rfl) (by kernel_rfl) (by kernel_rfl) (fun c a d v w h => hP c a d v w h) (hK.wy rfl rfl rfl (by decide)) (fun W hW => run_load_one _ _ rfl _ _ (hK.op rfl) W (hW.2.2) (by kernel_rfl)) hS rfl (by decide) fun a hK => ?_
    refine sdw hK 25 (oi := opAt Ybad.f3 [1, 1, 1, 1, 1, 1, 1, 1, 0, 1, 2, 0] 25) rfl (by kernel_rfl) (by kernel_rfl) (by kernel_rfl) (fun c a d v w h => hP c a d v w h) (hK.wy rfl rfl rfl (by decide)) (fun W hW => run_mv _ rfl _ (hK.op rfl) W) hS rfl (by decide) fun a hK => ?_
    refine held_oneW (i := 26) (o := opAt Ybad.f3 [1, 1, 1, 1, 1, 1, 1, 1, 0, 1, 2, 0] 26) (by kernel_rfl) rfl (hK.wy rfl rfl rfl (by decide)) ?_
    refine wp_enter (run_callFn 8 _ _ rfl rfl _ (hK.opA rfl) _ (by kernel_rfl)) ?_
    refine (equal_yes (xs := xs) (hbs.keep ((Fr.refl [] W).drew)) (hb.keep hF.drew)).mono ?_
    rintro e W' ⟨rfl, rfl⟩
    refine ⟨_, rfl, hS, ?_⟩
    have hK := hK.put (d := 88) (by decide) (.bool true)
    change wpAnyH _ _ _ _ _ _ _ (Act.put _ (some 88) _) _
    generalize Act.put _ (some 88) (.bool true) = a at hK ⊢
    refine sdw hK 27 (oi := opAt Ybad.f3 [1, 1, 1, 1, 1, 1, 1, 1, 0, 1, 2, 0] 27) rfl (by kernel_rfl) (by kernel_rfl) (by kernel_rfl) (fun c a d v w h => hP c a d v w h) (wn rfl) (fun W hW => run_pick _ _ _ rfl _ _ _ (hK.op rfl) (hK.op rfl) (hK.op rfl) W) hS rfl (by decide) fun a hK => ?_
    refine sdw hK 28 (oi := opAt Ybad.f3 [1, 1, 1, 1, 1, 1, 1, 1, 0, 1, 2, 0] 28) rfl (by kernel_rfl) (by kernel_rfl) (by kernel_rfl) (fun c a d v w h => hP c a d v w h) (wn rfl) (fun W hW => run_asg _ rfl _ (hK.op rfl) W) hS rfl (by decide) fun a hK => ?_
    refine wpAnyH_done (by kernel_rfl) ?_ _
    show Code.wp _ .ret _ _ _
    exact wp_ret (hnx _ _ (hK.sub _ ⟨rfl, trivial⟩) hF.drew)
  show Code.wp _ (.seq (.seq (.region _ (opsOf Ybad.f3 [1, 1, 1, 1, 1, 1, 1, 1, 0, 0]) false) (codeOf Ybad.f3 [1, 1, 1, 1, 1, 1, 1, 1, 0, 1])) (codeOf Ybad.f3 [1, 1, 1, 1, 1, 1, 1, 1, 1])) _ _ _
  refine wp_seq (srg ?_)
  show wpList _ (opsOf Ybad.f3 [1, 1, 1, 1, 1, 1, 1, 1, 0, 0]) _ [opAt Ybad.f3 [1, 1, 1, 1, 1, 1, 1, 1, 0, 0] 0, opAt Ybad.f3 [1, 1, 1, 1, 1, 1, 1, 1, 0, 0] 1, opAt Ybad.f3 [1, 1, 1, 1, 1, 1, 1, 1, 0, 0] 2, opAt Ybad.f3 [1, 1, 1, 1, 1, 1, 1, 1, 0, 0] 3, opAt Ybad.f3 [1, 1, 1, 1, 1, 1, 1, 1, 0, 0] 4, opAt Ybad.f3 [1, 1, 1, 1, 1, 1, 1, 1, 0, 0] 5, opAt Ybad.f3 [1, 1, 1, 1, 1, 1, 1, 1, 0, 0] 6, opAt Ybad.f3 [1, 1, 1, 1, 1, 1, 1, 1, 0, 0] 7] _ _
  refine stMv hK (wn rfl) rfl rfl rfl (by decide) fun a hK => ?_
  by_cases hneg : k < 0
  · refine stBin hK (wn rfl) rfl rfl rfl (lssT hneg) rfl (by decide) fun a hK => ?_
    refine stMv hK (wn rfl) rfl rfl rfl (by decide) fun a hK => ?_
    refine stSkip hK (hK.wno rfl rfl rfl (by decide)) rfl (by decide) fun a hK => ?_
    refine stSkip hK (hK.wno rfl rfl rfl (by decide)) rfl (by decide) fun a hK => ?_
    refine stSkip hK (hK.wno rfl rfl rfl (by decide)) rfl (by decide) fun a hK => ?_
    refine stSkip hK (hK.wno rfl rfl rfl (by decide)) rfl (by decide) fun a hK => ?_
    refine stPick hK (wn rfl) rfl rfl rfl rfl rfl (by decide) fun a hK => ?_
    show Code.wp _ (.cond (.tmp 61) (codeOf Ybad.f3 [1, 1, 1, 1, 1, 1, 1, 1, 0, 1, 2]) .skip) _ _ _
    refine wp_cond_true (hK.op rfl) ?_
    exact h12 _ (hK.sub _ (by repeat (first | exact trivial | refine ⟨rfl, ?_⟩)))
  · refine stBin hK (wn rfl) rfl rfl rfl (lssF hneg) rfl (by decide) fun a hK => ?_
    refine stMv hK (wn rfl) rfl rfl rfl (by decide) fun a hK => ?_
    refine stMv hK (hK.wy rfl rfl rfl (by decide)) rfl rfl rfl (by decide) fun a hK => ?_
    refine stMv hK (hK.wy rfl rfl rfl (by decide)) rfl rfl rfl (by decide) fun a hK => ?_
    refine stLenS hK (hK.wy rfl rfl rfl (by decide)) rfl Ybad.underlying22 rfl rfl (by decide) fun a hK => ?_
    refine stBin hK (hK.wy rfl rfl rfl (by decide)) rfl rfl rfl (gtrT (by omega)) rfl (by decide) fun a hK => ?_
    refine stPick hK (wn rfl) rfl rfl rfl rfl rfl (by decide) fun a hK => ?_
    show Code.wp _ (.cond (.tmp 61) (codeOf Ybad.f3 [1, 1, 1, 1, 1, 1, 1, 1, 0, 1, 2]) .skip) _ _ _
    refine wp_cond_true (hK.op rfl) ?_
    exact h12 _ (hK.sub _ (by repeat (first | exact trivial | refine ⟨rfl, ?_⟩)))

set_option maxRecDepth 20000 in
set_option maxHeartbeats 800000 in
theorem ex_ok {Q : Exit → Act → World → Prop} (w0 : World) (rb : Nat) (xs : List UInt8) (hn : xs.length ≤ 1024) (ba : Option Addr) (bc : Nat) (hb : Bs (.slice ba xs.length bc) xs w0) (a : Act) (W : World) (hF : Fr [] w0 W) (k : Nat) (hk : k ≤ xs.length) (pv : Value) (hpv : Bs pv (xs.take k) W) (ra : Option Addr) (rl rc : Nat) (hK : Fm 130 [(0, .slice ba xs.length bc), (1, .int .i64 k), (2, .bool false), (8, .nilIface), (9, ptr rb), (10, pv)] a) (hr : W.heap[rb]? = some (rdr (.slice ra rl rc) .nilIface)) (hbs : Bs (.slice ra rl rc) (xs.drop k) W)
    (hP : ∀ c a d v w, Q (.panic c) (Act.put a d v) w → Q (.panic c) a w)
    (hnx : ∀ a W, Fm 130 [(6, .bool true)] a → Fr [] w0 W → Q .ret a W) :
    Code.wp Ybad.prog (codeOf Ybad.f3 [1, 1, 1, 1, 1, 1, 1]) Q a W := by
  have _used := hn
  obtain ⟨pa, pc, rfl, hp2, _⟩ := id hpv
  have hpl : (xs.take k).length = k := by simp; omega
  have hdl : (xs.drop k).length = xs.length - k := by simp
  show Code.wp _ (.seq (.seq (.region _ (opsOf Ybad.f3 [1, 1, 1, 1, 1, 1, 1, 0, 0]) false) (codeOf Ybad.f3 [1, 1, 1, 1, 1, 1, 1, 0, 1])) (codeOf Ybad.f3 [1, 1, 1, 1, 1, 1, 1, 1])) _ _ _
  refine wp_seq (srg ?_)
  show wpList _ (opsOf Ybad.f3 [1, 1, 1, 1, 1, 1, 1, 0, 0]) _ [opAt Ybad.f3 [1, 1, 1, 1, 1, 1, 1, 0, 0] 0] _ _
  refine stMv hK (wn rfl) rfl rfl rfl (by decide) fun a hK => ?_
  show Code.wp _ (.cond (.tmp 25) (codeOf Ybad.f3 [1, 1, 1, 1, 1, 1, 1, 0, 1, 2]) .skip) _ _ _
  refine wp_cond_false (hK.op rfl) (wp_skip ?_)
  show Code.wp _ (codeOf Ybad.f3 [1, 1, 1, 1, 1, 1, 1, 1]) _ _ _
  show Code.wp _ (.seq (.seq (.region _ (opsOf Ybad.f3 [1, 1, 1, 1, 1, 1, 1, 1, 0, 0]) false) (codeOf Ybad.f3 [1, 1, 1, 1, 1, 1, 1, 1, 0, 1])) (codeOf Ybad.f3 [1, 1, 1, 1, 1, 1, 1, 1, 1])) _ _ _
  refine wp_seq (srg ?_)
  show wpList _ (opsOf Ybad.f3 [1, 1, 1, 1, 1, 1, 1, 1, 0, 0]) _ [opAt Ybad.f3 [1, 1, 1, 1, 1, 1, 1, 1, 0, 0] 0, opAt Ybad.f3 [1, 1, 1, 1, 1, 1, 1, 1, 0, 0] 1, opAt Ybad.f3 [1, 1, 1, 1, 1, 1, 1, 1, 0, 0] 2, opAt Ybad.f3 [1, 1, 1, 1, 1, 1, 1, 1, 0, 0] 3, opAt Ybad.f3 [1, 1, 1, 1, 1, 1, 1, 1, 0, 0] 4, opAt Ybad.f3 [1, 1, 1, 1, 1, 1, 1, 1, 0, 0] 5, opAt Ybad.f3 [1, 1, 1, 1, 1, 1, 1, 1, 0, 0] 6, opAt Ybad.f3 [1, 1, 1, 1, 1, 1, 1, 1, 0, 0] 7] _ _
  refine stMv hK (wn rfl) rfl rfl rfl (by decide) fun a hK => ?_
  refine stBin hK (wn rfl) rfl rfl rfl (lssF (by omega)) rfl (by decide) fun a hK => ?_
  refine stMv hK (wn rfl) rfl rfl rfl (by decide) fun a hK => ?_
  refine stMv hK (hK.wy rfl rfl rfl (by decide)) rfl rfl rfl (by decide) fun a hK => ?_
  refine stMv hK (hK.wy rfl rfl rfl (by decide)) rfl rfl rfl (by decide) fun a hK => ?_
  refine stLenS hK (hK.wy rfl rfl rfl (by decide)) rfl Ybad.underlying22 rfl rfl (by decide) fun a hK => ?_
  refine stBin hK (hK.wy rfl rfl rfl (by decide)) rfl rfl rfl (gtrF (by omega)) rfl (by decide) fun a hK => ?_
  refine stPick hK (wn rfl) rfl rfl rfl rfl rfl (by decide) fun a hK => ?_
  show Code.wp _ (.cond (.tmp 61) (codeOf Ybad.f3 [1, 1, 1, 1, 1, 1, 1, 1, 0, 1, 2]) .skip) _ _ _
  refine wp_cond_false (hK.op rfl) (wp_skip ?_)
  show Code.wp _ (.seq (.region _ (opsOf Ybad.f3 [1, 1, 1, 1, 1, 1, 1, 1, 1, 0]) true) .ret) _ _ _
  refine wp_seq ?_
  refine wp_region_held (S := fun W => W.cell? ⟨rb, 1, none⟩ = some .nilIface ∧ W.cell? ⟨rb, 0, none⟩ = some (.slice ra rl rc)) (by kernel_rfl) ?_
  change wpAnyH _ _ _ _ _ 41 _ _ (World.drew _)
  have hS : W.drew.cell? ⟨rb, 1, none⟩ = some .nilIface ∧ W.drew.cell? ⟨rb, 0, none⟩ = some (.slice ra rl rc) := ⟨(cell_at (w := W.drew) hr 1).trans rfl, (cell_at (w := W.drew) hr 0).trans rfl⟩
  refine sdw hK 0 (oi := opAt Ybad.f3 [1, 1, 1, 1, 1, 1, 1, 1, 1, 0] 0) rfl (by kernel_rfl) (by kernel_rfl) (by kernel_rfl) (fun c a d v w h => hP c a d v w h) (wn rfl) (fun W hW => run_mv _ rfl _ (hK.op rfl) W) hS rfl (by decide) fun a hK => ?_
  refine sdw hK 1 (oi := opAt Ybad.f3 [1, 1, 1, 1, 1, 1, 1, 1, 1, 0] 1) rfl (by kernel_rfl) (by kernel_rfl) (by kernel_rfl) (fun c a d v w h => hP c a d v w h) (wn rfl) (fun W hW => run_nilCheck _ rfl _ (hK.op rfl) W) hS rfl (by decide) fun a hK => ?_
  refine sdw hK 2 (oi := opAt Ybad.f3 [1, 1, 1, 1, 1, 1, 1, 1, 1, 0] 2) rfl (by kernel_rfl) (by kernel_rfl) (by kernel_rfl) (fun c a d v w h => hP c a d v w h) (wn rfl) (fun W hW => run_fieldAddr 29 _ 1 rfl ⟨rb, 0, none⟩ ⟨rb, 1, none⟩ (hK.op rfl) W (by kernel_rfl)) hS rfl (by decide) fun a hK => ?_
  refine sdw hK 3 (oi := opAt Ybad.f3 [1, 1, 1, 1, 1, 1, 1, 1, 1, 0] 3) rfl (by kernel_rfl) (by kernel_rfl) (by kernel_rfl) (fun c a d v w h => hP c a d v w h) (wn rfl) (fun W hW => run_load_one _ _ rfl _ _ (hK.op rfl) W (hW.1) (by kernel_rfl)) hS rfl (by decide) fun a hK => ?_
  refine sdw hK 4 (oi := opAt Ybad.f3 [1, 1, 1, 1, 1, 1, 1, 1, 1, 0] 4) rfl (by kernel_rfl) (by kernel_rfl) (by kernel_rfl) (fun c a d v w h => hP c a d v w h) (wn rfl) (fun W hW => run_bin .eql 25 _ _ 25 rfl _ _ _ (hK.op rfl) (hK.op rfl) W ((by kernel_rfl : _ = Result.ok (Value.bool true) _))) hS rfl (by decide) fun a hK => ?_
  refine sdw hK 5 (oi := opAt Ybad.f3 [1, 1, 1, 1, 1, 1, 1, 1, 1, 0] 5) rfl (by kernel_rfl) (by kernel_rfl) (by kernel_rfl) (fun c a d v w h => hP c a d v w h) (wn rfl) (fun W hW => run_mv _ rfl _ (hK.op rfl) W) hS rfl (by decide) fun a hK => ?_
  refine sdw hK 6 (oi := opAt Ybad.f3 [1, 1, 1, 1, 1, 1, 1, 1, 1, 0] 6) rfl (by kernel_rfl) (by kernel_rfl) (by kernel_rfl) (fun c a d v w h => hP c a d v w h) (hK.wy rfl rfl rfl (by decide)) (fun W hW => run_mv _ rfl _ (hK.op rfl) W) hS rfl (by decide) fun a hK => ?_
  refine sdw hK 7 (oi := opAt Ybad.f3 [1, 1, 1, 1, 1, 1, 1, 1, 1, 0] 7) rfl (by kernel_rfl) (by kernel_rfl) (by kernel_rfl) (fun c a d v w h => hP c a d v w h) (hK.wy rfl rfl rfl (by decide)) (fun W hW => run_lenS 22 5 _ rfl Ybad.underlying22 _ _ _ (hK.op rfl) W) hS rfl (by decide) fun a hK => ?_
  refine sdw hK 8 (oi := opAt Ybad.f3 [1, 1, 1, 1, 1, 1, 1, 1, 1, 0] 8) rfl (by kernel_rfl) (by kernel_rfl) (by kernel_rfl) (fun c a d v w h => hP c a d v w h) (hK.wy rfl rfl rfl (by decide)) (fun W hW => run_mv _ rfl _ (hK.op rfl) W) hS rfl (by decide) fun a hK => ?_
  refine sdw hK 9 (oi := opAt Ybad.f3 [1, 1, 1, 1, 1, 1, 1, 1, 1, 0] 9) rfl (by kernel_rfl) (by kernel_rfl) (by kernel_rfl) (fun c a d v w h => hP c a d v w h) (hK.wy rfl rfl rfl (by decide)) (fun W hW => run_bin .eql 3 _ _ 3 rfl _ _ _ (hK.op rfl) (hK.op rfl) W (int_eql (by rw [hpl]))) hS rfl (by decide) fun a hK => ?_
  refine sdw hK 10 (oi := opAt Ybad.f3 [1, 1, 1, 1, 1, 1, 1, 1, 1, 0] 10) rfl (by kernel_rfl) (by kernel_rfl) (by kernel_rfl) (fun c a d v w h => hP c a d v w h) (wn rfl) (fun W hW => run_pick _ _ _ rfl _ _ _ (hK.op rfl) (hK.op rfl) (hK.op rfl) W) hS rfl (by decide) fun a hK => ?_
  refine sdw hK 11 (oi := opAt Ybad.f3 [1, 1, 1, 1, 1, 1, 1, 1, 1, 0] 11) rfl (by kernel_rfl) (by kernel_rfl) (by kernel_rfl) (fun c a d v w h => hP c a d v w h) (wn rfl) (fun W hW => run_mv _ rfl _ (hK.op rfl) W) hS rfl (by decide) fun a hK => ?_
  refine sdw hK 12 (oi := opAt Ybad.f3 [1, 1, 1, 1, 1, 1, 1, 1, 1, 0] 12) rfl (by kernel_rfl) (by kernel_rfl) (by kernel_rfl) (fun c a d v w h => hP c a d v w h) (hK.wy rfl rfl rfl (by decide)) (fun W hW => run_mv _ rfl _ (hK.op rfl) W) hS rfl (by decide) fun a hK => ?_
  refine sdw hK 13 (oi := opAt Ybad.f3 [1, 1, 1, 1, 1, 1, 1, 1, 1, 0] 13) rfl (by kernel_rfl) (by kernel_rfl) (by kernel_rfl) (fun c a d v w h => hP c a d v w h) (hK.wy rfl rfl rfl (by decide)) (fun W hW => run_mv _ rfl _ (hK.op rfl) W) hS rfl (by decide) fun a hK => ?_
  refine sdw hK 14 (oi := opAt Ybad.f3 [1, 1, 1, 1, 1, 1, 1, 1, 1, 0] 14) rfl (by kernel_rfl) (by kernel_rfl) (by kernel_rfl) (fun c a d v w h => hP c a d v w h) (hK.wy rfl rfl rfl (by decide)) (fun W hW => run_mv _ rfl _ (hK.op rfl) W) hS rfl (by decide) fun a hK => ?_
  refine sdw hK 15 (oi := opAt Ybad.f3 [1, 1, 1, 1, 1, 1, 1, 1, 1, 0] 15) rfl (by kernel_rfl) (by kernel_rfl) (by kernel_rfl) (fun c a d v w h => hP c a d v w h) (hK.wy rfl rfl rfl (by decide)) (fun W hW => run_slH 22 _ _ rfl elem22 size22 ba xs.length bc k (hK.op rfl) (hK.op rfl) (by have := hb.len2; omega) W) hS rfl (by decide) fun a hK => ?_
  refine held_oneW (i := 16) (o := opAt Ybad.f3 [1, 1, 1, 1, 1, 1, 1, 1, 1, 0] 16) (by kernel_rfl) rfl (hK.wy rfl rfl rfl (by decide)) ?_
  refine wp_enter (run_callFn 8 _ _ rfl rfl _ (hK.opA rfl) _ (by kernel_rfl)) ?_
  refine (equal_yes (xs := xs.take k) (hpv.keep ((Fr.refl [] W).drew)) ((hb.keep hF.drew).take k hk)).mono ?_
  rintro e W' ⟨rfl, rfl⟩
  refine ⟨_, rfl, hS, ?_⟩
  have hK := hK.put (d := 106) (by decide) (.bool true)
  change wpAnyH _ _ _ _ _ _ _ (Act.put _ (some 106) _) _
  generalize Act.put _ (some 106) (.bool true) = a at hK ⊢
  refine sdw hK 17 (oi := opAt Ybad.f3 [1, 1, 1, 1, 1, 1, 1, 1, 1, 0] 17) rfl (by kernel_rfl) (by kernel_rfl) (by kernel_rfl) (fun c a d v w h => hP c a d v w h) (wn rfl) (fun W hW => run_pick _ _ _ rfl _ _ _ (hK.op rfl) (hK.op rfl) (hK.op rfl) W) hS rfl (by decide) fun a hK => ?_
  refine sdw hK 18 (oi := opAt Ybad.f3 [1, 1, 1, 1, 1, 1, 1, 1, 1, 0] 18) rfl (by kernel_rfl) (by kernel_rfl) (by kernel_rfl) (fun c a d v w h => hP c a d v w h) (wn rfl) (fun W hW => run_mv _ rfl _ (hK.op rfl) W) hS rfl (by decide) fun a hK => ?_
  refine sdw hK 19 (oi := opAt Ybad.f3 [1, 1, 1, 1, 1, 1, 1, 1, 1, 0] 19) rfl (by kernel_rfl) (by kernel_rfl) (by kernel_rfl) (fun c a d v w h => hP c a d v w h) (hK.wy rfl rfl rfl (by decide)) (fun W hW => run_mv _ rfl _ (hK.op rfl) W) hS rfl (by decide) fun a hK => ?_
  refine sdw hK 20 (oi := opAt Ybad.f3 [1, 1, 1, 1, 1, 1, 1, 1, 1, 0] 20) rfl (by kernel_rfl) (by kernel_rfl) (by kernel_rfl) (fun c a d v w h => hP c a d v w h) (hK.wy rfl rfl rfl (by decide)) (fun W hW => run_nilCheck _ rfl _ (hK.op rfl) W) hS rfl (by decide) fun a hK => ?_
  refine sdw hK 21 (oi := opAt Ybad.f3 [1, 1, 1, 1, 1, 1, 1, 1, 1, 0] 21) rfl (by kernel_rfl) (by kernel_rfl) (by kernel_rfl) (fun c a d v w h => hP c a d v w h) (hK.wy rfl rfl rfl (by decide)) (fun W hW => run_fieldAddr 29 _ 0 rfl ⟨rb, 0, none⟩ ⟨rb, 0, none⟩ (hK.op rfl) W (by kernel_rfl)) hS rfl (by decide) fun a hK => ?_
  refine sdw hK 22 (oi := opAt Ybad.f3 [1, 1, 1, 1, 1, 1, 1, 1, 1, 0] 22) rfl (by kernel_rfl) (by kernel_rfl) (by kernel_rfl) (fun c a d v w h => hP c a d v w h) (hK.wy rfl rfl rfl (by decide)) (fun W hW => run_load_one _ _ rfl _ _ (hK.op rfl) W (hW.2) (by kernel_rfl)) hS rfl (by decide) fun a hK => ?_
  refine sdw hK 23 (oi := opAt Ybad.f3 [1, 1, 1, 1, 1, 1, 1, 1, 1, 0] 23) rfl (by kernel_rfl) (by kernel_rfl) (by kernel_rfl) (fun c a d v w h => hP c a d v w h) (hK.wy rfl rfl rfl (by decide)) (fun W hW => run_lenS 22 5 _ rfl Ybad.underlying22 _ _ _ (hK.op rfl) W) hS rfl (by decide) fun a hK => ?_
  refine sdw hK 24 (oi := opAt Ybad.f3 [1, 1, 1, 1, 1, 1, 1, 1, 1, 0] 24) rfl (by kernel_rfl) (by kernel_rfl) (by kernel_rfl) (fun c a d v w h => hP c a d v w h) (hK.wy rfl rfl rfl (by decide)) (fun W hW => run_mv _ rfl _ (hK.op rfl) W) hS rfl (by decide) fun a hK => ?_
  refine sdw hK 25 (oi := opAt Ybad.f3 [1, 1, 1, 1, 1, 1, 1, 1, 1, 0] 25) rfl (by kernel_rfl) (by kernel_rfl) (by kernel_rfl) (fun c a d v w h => hP c a d v w h) (hK.wy rfl rfl rfl (by decide)) (fun W hW => run_lenS 22 5 _ rfl Ybad.underlying22 _ _ _ (hK.op rfl) W) hS rfl (by decide) fun a hK => ?_
  refine sdw hK 26 (oi := opAt Ybad.f3 [1, 1, 1, 1, 1, 1, 1, 1, 1, 0] 26) rfl (by kernel_rfl) (by kernel_rfl) (by kernel_rfl) (fun c a d v w h => hP c a d v w h) (hK.wy rfl rfl rfl (by decide)) (fun W hW => run_mv _ rfl _ (hK.op rfl) W) hS rfl (by decide) fun a hK => ?_
  refine sdw hK 27 (oi := opAt Ybad.f3 [1, 1, 1, 1, 1, 1, 1, 1, 1, 0] 27) rfl (by kernel_rfl) (by kernel_rfl) (by kernel_rfl) (fun c a d v w h => hP c a d v w h) (hK.wy rfl rfl rfl (by decide)) (fun W hW => run_bin .sub 3 _ _ 3 rfl _ _ _ (hK.op rfl) (hK.op rfl) W (int_sub (y := (rl : Int)) (by have := hbs.len2.1; omega) (by omega) (by have := hbs.len2.1; omega))) hS rfl (by decide) fun a hK => ?_
  refine sdw hK 28 (oi := opAt Ybad.f3 [1, 1, 1, 1, 1, 1, 1, 1, 1, 0] 28) rfl (by kernel_rfl) (by kernel_rfl) (by kernel_rfl) (fun c a d v w h => hP c a d v w h) (hK.wy rfl rfl rfl (by decide)) (fun W hW => run_bin .eql 3 _ _ 3 rfl _ _ _ (hK.op rfl) (hK.op rfl) W (int_eql rfl)) hS rfl (by decide) fun a hK => ?_
  refine sdw hK 29 (oi := opAt Ybad.f3 [1, 1, 1, 1, 1, 1, 1, 1, 1, 0] 29) rfl (by kernel_rfl) (by kernel_rfl) (by kernel_rfl) (fun c a d v w h => hP c a d v w h) (wn rfl) (fun W hW => run_pick _ _ _ rfl _ _ _ (hK.op rfl) (hK.op rfl) (hK.op rfl) W) hS rfl (by decide) fun a hK => ?_
  refine sdw hK 30 (oi := opAt Ybad.f3 [1, 1, 1, 1, 1, 1, 1, 1, 1, 0] 30) rfl (by kernel_rfl) (by kernel_rfl) (by kernel_rfl) (fun c a d v w h => hP c a d v w h) (wn rfl) (fun W hW => run_mv _ rfl _ (hK.op rfl) W) hS rfl (by decide) fun a hK => ?_
  refine sdw hK 31 (oi := opAt Ybad.f3 [1, 1, 1, 1, 1, 1, 1, 1, 1, 0] 31) rfl (by kernel_rfl) (by kernel_rfl) (by kernel_rfl) (fun c a d v w h => hP c a d v w h) (hK.wy rfl rfl rfl (by decide)) (fun W hW => run_mv _ rfl _ (hK.op rfl) W) hS rfl (by decide) fun a hK => ?_
  refine sdw hK 32 (oi := opAt Ybad.f3 [1, 1, 1, 1, 1, 1, 1, 1, 1, 0] 32) rfl (by kernel_rfl) (by kernel_rfl) (by kernel_rfl) (fun c a d v w h => hP c a d v w h) (hK.wy rfl rfl rfl (by decide)) (fun W hW => run_nilCheck _ rfl _ (hK.op rfl) W) hS rfl (by decide) fun a hK => ?_
  refine sdw hK 33 (oi := opAt Ybad.f3 [1, 1, 1, 1, 1, 1, 1, 1, 1, 0] 33) rfl (by kernel_rfl) (by kernel_rfl) (by kernel_rfl) (fun c a d v w h => hP c a d v w h) (hK.wy rfl rfl rfl (by decide)) (fun W hW => run_fieldAddr 29 _ 0 rfl ⟨rb, 0, none⟩ ⟨rb, 0, none⟩ (hK.op rfl) W (by kernel_rfl)) hS rfl (by decide) fun a hK => ?_
  refine sdw hK 34 (oi := opAt Ybad.f3 [1, 1, 1, 1, 1, 1, 1, 1, 1, 0] 34) rfl (by kernel_rfl) (by kernel_rfl) (by kernel_rfl) (fun c a d v w h => hP c a d v w h) (hK.wy rfl rfl rfl (by decide)) (fun W hW => run_load_one _ _ rfl _ _ (hK.op rfl) W (hW.2) (by kernel_rfl)) hS rfl (by decide) fun a hK => ?_
  refine sdw hK 35 (oi := opAt Ybad.f3 [1, 1, 1, 1, 1, 1, 1, 1, 1, 0] 35) rfl (by kernel_rfl) (by kernel_rfl) (by kernel_rfl) (fun c a d v w h => hP c a d v w h) (hK.wy rfl rfl rfl (by decide)) (fun W hW => run_mv _ rfl _ (hK.op rfl) W) hS rfl (by decide) fun a hK => ?_
  refine sdw hK 36 (oi := opAt Ybad.f3 [1, 1, 1, 1, 1, 1, 1, 1, 1, 0] 36) rfl (by kernel_rfl) (by kernel_rfl) (by kernel_rfl) (fun c a d v w h => hP c a d v w h) (hK.wy rfl rfl rfl (by decide)) (fun W hW => run_mv _ rfl _ (hK.op rfl) W) hS rfl (by decide) fun a hK => ?_
  refine sdw hK 37 (oi := opAt Ybad.f3 [1, 1, 1, 1, 1, 1, 1, 1, 1, 0] 37) rfl (by kernel_rfl) (by kernel_rfl) (by kernel_rfl) (fun c a d v w h => hP c a d v w h) (hK.wy rfl rfl rfl (by decide)) (fun W hW => run_slL 22 _ _ rfl elem22 size22 ba xs.length bc k (hK.op rfl) (hK.op rfl) hk W) hS rfl (by decide) fun a hK => ?_
  refine held_oneW (i := 38) (o := opAt Ybad.f3 [1, 1, 1, 1, 1, 1, 1, 1, 1, 0] 38) (by kernel_rfl) rfl (hK.wy rfl rfl rfl (by decide)) ?_
  refine wp_enter (run_callFn 8 _ _ rfl rfl _ (hK.opA rfl) _ (by kernel_rfl)) ?_
  refine (equal_yes (xs := xs.drop k) (hbs.keep ((Fr.refl [] W).drew)) ((hb.keep hF.drew).drop k hk)).mono ?_
  rintro e W' ⟨rfl, rfl⟩
  refine ⟨_, rfl, hS, ?_⟩
  have hK := hK.put (d := 128) (by decide) (.bool true)
  change wpAnyH _ _ _ _ _ _ _ (Act.put _ (some 128) _) _
  generalize Act.put _ (some 128) (.bool true) = a at hK ⊢
  refine sdw hK 39 (oi := opAt Ybad.f3 [1, 1, 1, 1, 1, 1, 1, 1, 1, 0] 39) rfl (by kernel_rfl) (by kernel_rfl) (by kernel_rfl) (fun c a d v w h => hP c a d v w h) (wn rfl) (fun W hW => run_pick _ _ _ rfl _ _ _ (hK.op rfl) (hK.op rfl) (hK.op rfl) W) hS rfl (by decide) fun a hK => ?_
  refine sdw hK 40 (oi := opAt Ybad.f3 [1, 1, 1, 1, 1, 1, 1, 1, 1, 0] 40) rfl (by kernel_rfl) (by kernel_rfl) (by kernel_rfl) (fun c a d v w h => hP c a d v w h) (wn rfl) (fun W hW => run_asg _ rfl _ (hK.op rfl) W) hS rfl (by decide) fun a hK => ?_
  refine wpAnyH_done (by kernel_rfl) ?_ _
  show Code.wp _ .ret _ _ _
  exact wp_ret (hnx _ _ (hK.sub _ ⟨rfl, trivial⟩) hF.drew)

end Go.Proofs.YbulkaeqwDoor
