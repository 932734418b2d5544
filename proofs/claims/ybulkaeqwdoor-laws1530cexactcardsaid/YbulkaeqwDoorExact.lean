import Derived.Test.YbulkaeqwDoorExactEnds
namespace Go.Proofs.YbulkaeqwDoor
open Go.RowKit

set_option maxRecDepth 20000 in
theorem ex_rest (xs : List UInt8) (hn : xs.length ≤ 1024) (ba : Option Addr) (bc : Nat) (k : Int) (pre : Bool) (q : Addr) (w : World) (hb : Bs (.slice ba xs.length bc) xs w) (hE : w.cell? ⟨0, 0, none⟩ = some (errV q)) (a : Act) (w1 : World) (hF1 : Fr [] w w1) (ra : Option Addr) (rc : Nat) (ev : Value) (hv : Bs (.slice ra xs.length rc) xs w1)
    (hev : match pre with | true => ∃ q', ev = errV q' | false => ev = .nilIface) (hbuild : (Instr.build 29 #[(0, .slice ra xs.length rc), (1, ev)]).run Ybad.prog w1 = .ok (.agg #[.slice ra xs.length rc, ev]) w1) (hK : Fm 130 [(0, .slice ba xs.length bc), (1, .int .i64 k), (2, .bool pre), (7, .slice ra xs.length rc), (8, ev)] a) :
    Code.wp Ybad.prog (codeOf Ybad.f3 [1, 1, 1, 1, 1]) (bodyPost Ybad.prog Ybad.f3 fun e w' => e = .returned (.bool true) ∧ Fr [] w w') a w1 := by
  have hP : ∀ c a d v w', bodyPost Ybad.prog Ybad.f3 (fun e w' => e = .returned (.bool true) ∧ Fr [] w w') (.panic c) (Act.put a d v) w' → bodyPost Ybad.prog Ybad.f3 (fun e w' => e = .returned (.bool true) ∧ Fr [] w w') (.panic c) a w' := fun _ _ d _ _ h => by cases d <;> exact h
  have hend : ∀ a W, Fm 130 [(6, .bool true)] a → Fr [] w W → bodyPost Ybad.prog Ybad.f3 (fun e w' => e = .returned (.bool true) ∧ Fr [] w w') .ret a W := fun a W hK hF => bodyPost_ret (result_of hK rfl rfl _) hK.defers ⟨rfl, hF⟩
  show Code.wp _ (.seq (.region _ (opsOf Ybad.f3 [1, 1, 1, 1, 1, 0]) false) (codeOf Ybad.f3 [1, 1, 1, 1, 1, 1])) _ _ _
  refine srg ?_
  show wpList _ (opsOf Ybad.f3 [1, 1, 1, 1, 1, 0]) _ [opAt Ybad.f3 [1, 1, 1, 1, 1, 0] 0, opAt Ybad.f3 [1, 1, 1, 1, 1, 0] 1, opAt Ybad.f3 [1, 1, 1, 1, 1, 0] 2, opAt Ybad.f3 [1, 1, 1, 1, 1, 0] 3, opAt Ybad.f3 [1, 1, 1, 1, 1, 0] 4] _ _
  refine stMv hK (wn rfl) rfl rfl rfl (by decide) fun a hK => ?_
  refine stMv hK (wn rfl) rfl rfl rfl (by decide) fun a hK => ?_
  refine stBuild hK (wn rfl) rfl rfl (hbuild) rfl (by decide) fun a hK => ?_
  refine st hK (wn rfl) (run_boxOp 29 _ rfl _ (hK.op rfl) _) rfl (by decide) fun a hK => ?_
  refine stAs hK (wn rfl) rfl rfl rfl (by decide) fun a hK => ?_
  show Code.wp _ (codeOf Ybad.f3 [1, 1, 1, 1, 1, 1]) _ _ _
  have hFA := hF1.alloc (.cells #[.slice ra xs.length rc, ev] 29)
  have hr : (w1.alloc (.cells #[.slice ra xs.length rc, ev] 29)).heap[w1.heap.size]? = some (rdr (.slice ra xs.length rc) ev) := heap_alloc_new _ _
  have hvA := hv.keep ((Fr.refl [] w1).alloc (.cells #[.slice ra xs.length rc, ev] 29))
  have hrc := hv.len2.2
  have hrb := hF1.size
  generalize w1.alloc (.cells #[.slice ra xs.length rc, ev] 29) = W at *
  generalize w1.heap.size = rb at *
  show Code.wp _ (.seq (.region _ (opsOf Ybad.f3 [1, 1, 1, 1, 1, 1, 0]) false) (codeOf Ybad.f3 [1, 1, 1, 1, 1, 1, 1])) _ _ _
  refine srg ?_
  show wpList _ (opsOf Ybad.f3 [1, 1, 1, 1, 1, 1, 0]) _ [opAt Ybad.f3 [1, 1, 1, 1, 1, 1, 0] 0, opAt Ybad.f3 [1, 1, 1, 1, 1, 1, 0] 1, opAt Ybad.f3 [1, 1, 1, 1, 1, 1, 0] 2, opAt Ybad.f3 [1, 1, 1, 1, 1, 1, 0] 3] _ _
  refine stMv hK (wn rfl) rfl rfl rfl (by decide) fun a hK => ?_
  refine stMv hK (wn rfl) rfl rfl rfl (by decide) fun a hK => ?_
  cases pre with
  | true =>
    obtain ⟨q', rfl⟩ := hev
    refine stCall hK rfl rfl rfl (R := fun v w' => v = nilS ∧ w' = W) (fun w => by kernel_rfl) ((next_err rb k _ q' W hr).mono fun _ _ h => ⟨_, h.1, rfl, h.2⟩) rfl (by decide) fun v a W' hR hK => ?_
    obtain ⟨rfl, rfl⟩ := hR
    refine stAs hK (wn rfl) rfl rfl rfl (by decide) fun a hK => ?_
    show Code.wp _ (codeOf Ybad.f3 [1, 1, 1, 1, 1, 1, 1]) _ _ _
    exact ex_pre w rb xs hn ba bc hb a _ hFA k q' ra _ rc (hK.sub _ (by repeat (first | exact trivial | refine ⟨rfl, ?_⟩))) hr hvA hend
  | false =>
    subst hev
    by_cases hs : k < 0 ∨ (xs.length : Int) < k
    · refine stCall hK rfl rfl rfl (R := fun v w' => v = nilS ∧ Fr [rb] W w' ∧ w'.heap[rb]? = some (rdr (.slice ra xs.length rc) (errV q))) (fun w => by kernel_rfl) ((next_short rb k ra xs.length rc q hs W hr ((hFA.cell (cell_block hE) (by simp)).trans hE)).mono fun _ _ h => ⟨_, h.1, rfl, h.2⟩) rfl (by decide) fun v a W' hR hK => ?_
      obtain ⟨rfl, hF', hr'⟩ := hR
      refine stAs hK (wn rfl) rfl rfl rfl (by decide) fun a hK => ?_
      show Code.wp _ (codeOf Ybad.f3 [1, 1, 1, 1, 1, 1, 1]) _ _ _
      exact ex_short w rb xs hn ba bc hb a _ (hFA.andThen hF' (fun i hi => by simp at hi; omega)) k hs q hE ra _ rc (hK.sub _ (by repeat (first | exact trivial | refine ⟨rfl, ?_⟩))) hr' (hvA.keepR hF' hr (fun x => by simp)) hP hend
    · obtain ⟨m, rfl⟩ : ∃ m : Nat, k = (m : Int) := ⟨k.toNat, by omega⟩
      refine stCall hK rfl rfl rfl (R := fun v w' => v = sliced ra 0 m rc 1 ∧ Fr [rb] W w' ∧ w'.heap[rb]? = some (rdr (sliced ra m xs.length rc 1) .nilIface)) (fun w => by kernel_rfl) ((next_ok rb m ra xs.length rc (by omega) hrc W hr).mono fun _ _ h => ⟨_, h.1, rfl, h.2⟩) rfl (by decide) fun v a W' hR hK => ?_
      obtain ⟨rfl, hF', hr'⟩ := hR
      refine stAs hK (wn rfl) rfl rfl rfl (by decide) fun a hK => ?_
      show Code.wp _ (codeOf Ybad.f3 [1, 1, 1, 1, 1, 1, 1]) _ _ _
      exact ex_ok w rb xs hn ba bc hb a _ (hFA.andThen hF' (fun i hi => by simp at hi; omega)) m (by omega) _ ((hvA.take m (by omega)).keepR hF' hr (fun x => by simp)) _ _ _ (hK.sub _ (by repeat (first | exact trivial | refine ⟨rfl, ?_⟩))) hr' ((hvA.drop m (by omega)).keepR hF' hr (fun x => by simp)) hP hend

set_option maxRecDepth 20000 in
theorem exact_law (xs : List UInt8) (ba : Option Addr) (bc : Nat) (k : Int) (pre : Bool) (q : Addr) (w : World) (hb : Bs (.slice ba xs.length bc) xs w) (hE : w.cell? ⟨0, 0, none⟩ = some (errV q)) :
    Calls Ybad.prog 3 #[.slice ba xs.length bc, .int .i64 k, .bool pre] w fun e w' => e = .returned (.bool true) ∧ Fr [] w w' := by
  go_enter Ybad.func3, Ybad.ntmps3
  show Code.wp _ (codeOf Ybad.f3 []) _ _ _
  refine Fm.begin 130 [(0, .slice ba xs.length bc), (1, .int .i64 k), (2, .bool pre)] rfl rfl ⟨rfl, rfl, rfl, trivial⟩ fun a hK => ?_
  show Code.wp _ (.seq (.region _ (opsOf Ybad.f3 [0]) false) (codeOf Ybad.f3 [1])) _ _ _
  refine srg ?_
  show wpList _ (opsOf Ybad.f3 [0]) _ [opAt Ybad.f3 [0] 0] _ _
  refine stAs hK (wn rfl) rfl rfl rfl (by decide) fun a hK => ?_
  show Code.wp _ (codeOf Ybad.f3 [1]) _ _ _
  show Code.wp _ (.seq (.seq (.region _ (opsOf Ybad.f3 [1, 0, 0]) false) (codeOf Ybad.f3 [1, 0, 1])) (codeOf Ybad.f3 [1, 1])) _ _ _
  refine wp_seq (srg ?_)
  show wpList _ (opsOf Ybad.f3 [1, 0, 0]) _ [opAt Ybad.f3 [1, 0, 0] 0, opAt Ybad.f3 [1, 0, 0] 1, opAt Ybad.f3 [1, 0, 0] 2] _ _
  refine stMv hK (wn rfl) rfl rfl rfl (by decide) fun a hK => ?_
  refine stLenS hK (wn rfl) rfl Ybad.underlying22 rfl rfl (by decide) fun a hK => ?_
  by_cases hn : 1024 < xs.length
  · refine stBin hK (wn rfl) rfl rfl rfl (gtrT (by omega)) rfl (by decide) fun a hK => ?_
    show Code.wp _ (.cond (.tmp 13) (.seq (.region _ (opsOf Ybad.f3 [1, 0, 1, 2, 0]) false) .ret) .skip) _ _ _
    refine wp_cond_true (hK.op rfl) (srg ?_)
    show wpList _ (opsOf Ybad.f3 [1, 0, 1, 2, 0]) _ [opAt Ybad.f3 [1, 0, 1, 2, 0] 0] _ _
    refine stAs hK (wn rfl) rfl rfl rfl (by decide) fun a hK => ?_
    refine wp_ret ?_
    try dsimp only [Exit.then]
    exact bodyPost_ret (result_of hK rfl rfl _) hK.defers ⟨rfl, Fr.refl _ _⟩
  refine stBin hK (wn rfl) rfl rfl rfl (gtrF (by omega)) rfl (by decide) fun a hK => ?_
  show Code.wp _ (.cond (.tmp 13) (codeOf Ybad.f3 [1, 0, 1, 2]) .skip) _ _ _
  refine wp_cond_false (hK.op rfl) (wp_skip ?_)
  show Code.wp _ (codeOf Ybad.f3 [1, 1]) _ _ _
  show Code.wp _ (.seq (.region _ (opsOf Ybad.f3 [1, 1, 0]) false) (codeOf Ybad.f3 [1, 1, 1])) _ _ _
  refine srg ?_
  show wpList _ (opsOf Ybad.f3 [1, 1, 0]) _ [opAt Ybad.f3 [1, 1, 0] 0, opAt Ybad.f3 [1, 1, 0] 1, opAt Ybad.f3 [1, 1, 0] 2] _ _
  refine stMv hK (wn rfl) rfl rfl rfl (by decide) fun a hK => ?_
  refine stCall hK rfl rfl rfl (R := fun v w' => Bs v xs w' ∧ Fr [] w w') (fun w => by kernel_rfl) ((clone hb (by omega)).mono fun _ _ ⟨v', h⟩ => ⟨v', h⟩) rfl (by decide) fun v a w1 hR hK => ?_
  obtain ⟨hv, hF1⟩ := hR
  obtain ⟨ra, rc, rfl, hrc, _⟩ := id hv
  refine stAs hK (wn rfl) rfl rfl rfl (by decide) fun a hK => ?_
  show Code.wp _ (codeOf Ybad.f3 [1, 1, 1]) _ _ _
  show Code.wp _ (.seq (.region _ (opsOf Ybad.f3 [1, 1, 1, 0]) false) (codeOf Ybad.f3 [1, 1, 1, 1])) _ _ _
  refine srg ?_
  show wpList _ (opsOf Ybad.f3 [1, 1, 1, 0]) _ [opAt Ybad.f3 [1, 1, 1, 0] 0] _ _
  refine stAs hK (wn rfl) rfl rfl rfl (by decide) fun a hK => ?_
  show Code.wp _ (codeOf Ybad.f3 [1, 1, 1, 1]) _ _ _
  show Code.wp _ (.seq (.seq (.region _ (opsOf Ybad.f3 [1, 1, 1, 1, 0, 0]) false) (codeOf Ybad.f3 [1, 1, 1, 1, 0, 1])) (codeOf Ybad.f3 [1, 1, 1, 1, 1])) _ _ _
  refine wp_seq (srg ?_)
  show wpList _ (opsOf Ybad.f3 [1, 1, 1, 1, 0, 0]) _ [opAt Ybad.f3 [1, 1, 1, 1, 0, 0] 0] _ _
  refine stMv hK (wn rfl) rfl rfl rfl (by decide) fun a hK => ?_
  cases pre with
  | false =>
    show Code.wp _ (.cond (.tmp 16) (codeOf Ybad.f3 [1, 1, 1, 1, 0, 1, 2]) .skip) _ _ _
    refine wp_cond_false (hK.op rfl) (wp_skip ?_)
    show Code.wp _ (codeOf Ybad.f3 [1, 1, 1, 1, 1]) _ _ _
    exact ex_rest xs (by omega) ba bc k false q w hb hE a w1 hF1 ra rc .nilIface hv rfl (by kernel_rfl) (hK.sub _ (by repeat (first | exact trivial | refine ⟨rfl, ?_⟩)))
  | true =>
    show Code.wp _ (.cond (.tmp 16) (codeOf Ybad.f3 [1, 1, 1, 1, 0, 1, 2]) .skip) _ _ _
    refine wp_cond_true (hK.op rfl) ?_
    show Code.wp _ (.region _ (opsOf Ybad.f3 [1, 1, 1, 1, 0, 1, 2]) false) _ _ _
    refine wp_region_list ?_
    show wpList _ (opsOf Ybad.f3 [1, 1, 1, 1, 0, 1, 2]) _ [opAt Ybad.f3 [1, 1, 1, 1, 0, 1, 2] 0, opAt Ybad.f3 [1, 1, 1, 1, 0, 1, 2] 1] _ _
    refine stCall hK rfl rfl rfl (R := fun v w' => v = errV ⟨w1.heap.size, 0, none⟩ ∧ Fr [] w1 w') (fun w => by kernel_rfl) ((errors_new _ w1).mono fun _ _ h => ⟨_, h.1, rfl, h.2⟩) rfl (by decide) fun v a w2 hR hK => ?_
    obtain ⟨rfl, hF2⟩ := hR
    refine stAs hK (wn rfl) rfl rfl rfl (by decide) fun a hK => ?_
    show Code.wp _ (codeOf Ybad.f3 [1, 1, 1, 1, 1]) _ _ _
    exact ex_rest xs (by omega) ba bc k true q w hb hE a w2 (hF1.trans hF2) ra rc _ (hv.keep hF2) ⟨_, rfl⟩ (by kernel_rfl) (hK.sub _ (by repeat (first | exact trivial | refine ⟨rfl, ?_⟩)))

end Go.Proofs.YbulkaeqwDoor
