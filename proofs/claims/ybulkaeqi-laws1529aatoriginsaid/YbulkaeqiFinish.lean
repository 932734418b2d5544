import Derived.Test.YbulkaeqiFinDone
namespace Go.Proofs.Ybulkaeqi
open Go.RowKit
set_option maxRecDepth 20000 in
/-- finish, where the request is not pending. -/
theorem finish_none (pb m1 : Nat) (pcs : Array Value) (req : Int) (c : Nat) (rcs : List Value) (w : World) (hp : w.heap[pb]? = some (.cells pcs 67 (0, 0))) (hp33 : pcs[33]? = some (.map (some m1))) (hm : w.heap[m1]? = some (.map #[] c)) :
    Calls Yba.prog 12 #[.pointer (some ⟨pb, 0, none⟩), .int .u64 req, .agg rcs.toArray] w fun e w' => e = .returned (.tuple #[]) ∧ Fr [] w w' := by
  have fA := (Fr.refl [] w).alloc (.cells rcs.toArray 80)
  have hpb : pb < w.heap.size := lt_of_block hp
  have cp : w.cell? ⟨pb, 33, none⟩ = some (.map (some m1)) := by rw [cell_at hp]; exact hp33
  have hlook := look_miss 33 22 78 .u64 Yba.underlying33 Yba.underlying22 m1 req #[] c (.pointer none) _ (fA.keep hm (by simp)) rfl zero78
  have H : Hid _ := And.intro hlook fA
  clear hp hp33 hm hlook fA
  go_enter Yba.func12, Yba.ntmps12
  go_wp2_with (refine wpList_look 33 (.tmp 12) (.tmp 13) rfl rfl (.map (some m1)) (.int .u64 req) (.tuple #[.pointer none, .bool false]) rfl rfl H.out.1 ?_)
  refine bodyPost_ret (results_none rfl _ _ _) rfl ⟨rfl, H.out.2⟩
/-- What finish leaves where the request is pending. -/
def Fin (lb rb m1 m2 : Nat) (c1 c2 : Nat) (aw en : Bool) (rcs : List Value) (B : Nat) (w w' : World) : Prop :=
  Log lb B ([0] ++ two aw ++ [1] ++ three en) w' ∧ w'.heap[m1]? = some (.map #[] c1) ∧ w'.heap[m2]? = some (.map #[] c2) ∧ F3 B [lb, rb, m1, m2] w w' ∧
    ∃ g c cur, w'.heap[g]? = some (.cells cur 80 (0, 0)) ∧ cur.toList.take 24 = rcs ∧ w'.heap[rb]? = some (.cells #[.slice (some ⟨g, 0, none⟩) 1 c] 77 (0, 0))
def endedV (en : Bool) (lb : Nat) : Value := if en then .func (.func 9) #[] #[.pointer (some ⟨lb, 0, none⟩)] else .nilFunc

set_option maxRecDepth 20000 in
set_option maxHeartbeats 400000 in
theorem finish_ended {Q : Exit → Act → World → Prop} (qb lb B : Nat) (qcs : Array Value) (en : Bool) (hq1 : qcs[1]? = some (endedV en lb)) (xs : List Int) (hxs : xs.length ≤ 10) (w : World) (hq : w.heap[qb]? = some (.cells qcs 83 (0, 0))) (hlog : Log lb B xs w)
    (a : Act) (ha : a.tmps.size = 51) (h6 : a.eval (.tmp 6) = .pointer (some ⟨qb, 0, none⟩))
    (hQ : ∀ a' w', a'.defers = a.defers → Log lb B (xs ++ three en) w' → F3 B [lb] w w' → Q .normal a' w') :
    (Code.seq (Code.region 7 (opsOf Yba.f12 [1, 1, 1, 1, 1, 1, 1, 0]) false) (Code.cond (.tmp 45) (Code.region 8 (opsOf Yba.f12 [1, 1, 1, 1, 1, 1, 1, 1, 2]) false) Code.skip)).wp Yba.prog Q a w := by
  refine wp_seq ?_
  refine wp_region_list ?_
  show wpList _ (opsOf Yba.f12 [1, 1, 1, 1, 1, 1, 1, 0]) _ [opAt Yba.f12 [1, 1, 1, 1, 1, 1, 1, 0] 0, opAt Yba.f12 [1, 1, 1, 1, 1, 1, 1, 0] 1, opAt Yba.f12 [1, 1, 1, 1, 1, 1, 1, 0] 2, opAt Yba.f12 [1, 1, 1, 1, 1, 1, 1, 0] 3, opAt Yba.f12 [1, 1, 1, 1, 1, 1, 1, 0] 4] _ _
  refine wpList_of_run rfl (run_mv (.tmp 6) rfl _ h6 _) ?_
  refine wpList_of_run rfl (run_nilCheck (.tmp 41) rfl _ (eval_same _ _ _ (by rw [ha]; decide)) _) ?_
  refine wpList_of_run rfl (run_fieldAddr 83 (.tmp 42) 1 rfl ⟨qb, 0, none⟩ ⟨qb, 1, none⟩ (eval_same _ _ _ (by rw [size_put, ha]; decide)) _ (by kernel_rfl)) ?_
  refine wpList_of_run rfl (run_load_one 1 (.tmp 43) rfl ⟨qb, 1, none⟩ (endedV en lb) (eval_same _ _ _ (by rw [size_put, size_put, ha]; decide)) _ (by rw [cell_at hq]; exact hq1) (by kernel_rfl)) ?_
  have hneq : (do eqGuard .neq 1 (.tmp 44) (.const .nilFunc) (endedV en lb) .nilFunc; binOp .neq 1 (endedV en lb) .nilFunc : Sem Value).run Yba.prog w = .ok (.bool en) w := by cases en <;> kernel_rfl
  refine wpList_of_run rfl (run_bin .neq 1 (.tmp 44) (.const .nilFunc) 1 rfl (endedV en lb) .nilFunc (.bool en) (eval_same _ _ _ (by rw [size_put, size_put, size_put, ha]; decide)) rfl _ hneq) ?_
  generalize hA : Act.put (Act.put (Act.put (Act.put (Act.put a _ _) _ _) _ _) _ _) _ _ = a2
  have s2 : a2.tmps.size = 51 := by rw [← hA, size_put, size_put, size_put, size_put, size_put, ha]
  have d2 : a2.defers = a.defers := by rw [← hA, defers_put, defers_put, defers_put, defers_put, defers_put]
  have k6 : a2.eval (.tmp 6) = .pointer (some ⟨qb, 0, none⟩) := by rw [← hA]; exact ((eval_other _ _ _ _ (by decide)).trans ((eval_other _ _ _ _ (by decide)).trans ((eval_other _ _ _ _ (by decide)).trans ((eval_other _ _ _ _ (by decide)).trans ((eval_other _ _ _ _ (by decide)).trans (h6))))))
  have k45 : a2.eval (.tmp 45) = .bool en := by rw [← hA]; exact (eval_same _ _ _ (by rw [size_put, size_put, size_put, size_put, ha]; decide))
  clear hA
  refine wpList_nil ?_
  show Code.wp _ _ _ _ _
  cases en with
  | false =>
    refine wp_cond_false k45 (wp_skip ?_)
    exact hQ _ _ d2 (by simpa [three] using hlog) (F3.refl _ _ _)
  | true =>
    refine wp_cond_true k45 ?_
    refine wp_region_list ?_
    show wpList _ (opsOf Yba.f12 [1, 1, 1, 1, 1, 1, 1, 1, 2]) _ [opAt Yba.f12 [1, 1, 1, 1, 1, 1, 1, 1, 2] 0, opAt Yba.f12 [1, 1, 1, 1, 1, 1, 1, 1, 2] 1, opAt Yba.f12 [1, 1, 1, 1, 1, 1, 1, 1, 2] 2, opAt Yba.f12 [1, 1, 1, 1, 1, 1, 1, 1, 2] 3, opAt Yba.f12 [1, 1, 1, 1, 1, 1, 1, 1, 2] 4] _ _
    refine wpList_of_run rfl (run_mv (.tmp 6) rfl _ k6 _) ?_
    refine wpList_of_run rfl (run_nilCheck (.tmp 46) rfl _ (eval_same _ _ _ (by rw [s2]; decide)) _) ?_
    refine wpList_of_run rfl (run_fieldAddr 83 (.tmp 47) 1 rfl ⟨qb, 0, none⟩ ⟨qb, 1, none⟩ (eval_same _ _ _ (by rw [size_put, s2]; decide)) _ (by kernel_rfl)) ?_
    refine wpList_of_run rfl (run_load_one 1 (.tmp 48) rfl ⟨qb, 1, none⟩ (endedV true lb) (eval_same _ _ _ (by rw [size_put, size_put, s2]; decide)) _ (by rw [cell_at hq]; exact hq1) (by kernel_rfl)) ?_
    refine wpList_plain rfl fun K hK => wp_enter (run_callVal (.tmp 49) #[] #[] rfl 9 #[.pointer (some ⟨lb, 0, none⟩)] (eval_same _ _ _ (by rw [size_put, size_put, size_put, s2]; decide)) #[] Array.map_empty _ (by kernel_rfl)) ?_
    refine (push9 lb B xs hxs w hlog).mono ?_
    rintro e w' ⟨rfl, h1, h2⟩
    refine ⟨_, rfl, hK _ _ (wpList_nil ?_)⟩
    exact hQ _ _ ((defers_put _ _ _).trans ((defers_put _ _ _).trans ((defers_put _ _ _).trans ((defers_put _ _ _).trans ((defers_put _ _ _).trans d2))))) (by simpa [three] using h1) h2
set_option maxRecDepth 20000 in
set_option maxHeartbeats 800000 in
/-- finish, where the request is pending. -/
theorem finish_has (pb m1 m2 qb ab lb rb : Nat) (pcs : Array Value) (req fst : Int) (bq c1 c2 : Nat) (aw en : Bool) (rcs : List Value) (hl : rcs.length = 24) (hone : ∀ u ∈ rcs, u.oneCell' = true) (w : World)
    (hp : w.heap[pb]? = some (.cells pcs 67 (0, 0))) (hp33 : pcs[33]? = some (.map (some m1))) (hp34 : pcs[34]? = some (.map (some m2))) (hm : w.heap[m1]? = some (.map #[⟨.int .u64 req, .pointer (some ⟨qb, 0, none⟩), bq⟩] c1)) (haw : Aw m2 ab lb fst c2 aw w)
    (hq : w.heap[qb]? = some (.cells (reqL lb rb (endedV en lb) fst).toArray 83 (0, 0))) (hlv : w.heap[lb]? = some (.cells #[.slice none 0 0] 76 (0, 0))) (hr : w.heap[rb]? = some (.cells #[.slice none 0 0] 77 (0, 0))) (hmm : m1 ≠ m2) :
    Calls Yba.prog 12 #[.pointer (some ⟨pb, 0, none⟩), .int .u64 req, .agg rcs.toArray] w fun e w' => e = .returned (.tuple #[]) ∧ Fin lb rb m1 m2 c1 c2 aw en rcs (w.heap.size + 1) w w' := by
  have fA := (Fr.refl [] w).alloc (.cells rcs.toArray 80)
  have hpb : pb < w.heap.size := lt_of_block hp
  have cp : w.cell? ⟨pb, 33, none⟩ = some (.map (some m1)) := by rw [cell_at hp]; exact hp33
  have hmA := fA.keep hm (by simp)
  have hlook := look_hit 33 22 78 .u64 Yba.underlying33 Yba.underlying22 m1 req _ c1 0 (.pointer (some ⟨qb, 0, none⟩)) _ hmA (find_one _ _ _)
  have hdel : (Builtin.delete_ #[33, 22] 0 #[.map (some m1), .int .u64 req]).run Yba.prog (w.alloc (.cells rcs.toArray 80)) = .ok (.tuple #[]) (setB (w.alloc (.cells rcs.toArray 80)) m1 (.map #[] c1)) := by
    have := del_hit 33 22 78 0 .u64 Yba.underlying33 Yba.underlying22 m1 req _ c1 0 (.pointer (some ⟨qb, 0, none⟩)) _ hmA (find_one _ _ _)
    rwa [erase_one] at this
  -- the blocks are what they are: so they are not one another
  have n1 : pb ≠ m1 := fun e => by subst e; rw [hm] at hp; cases hp
  have n2 : qb ≠ m1 := fun e => by subst e; rw [hm] at hq; cases hq
  have n3 : lb ≠ m1 := fun e => by subst e; rw [hm] at hlv; cases hlv
  have n4 : rb ≠ m1 := fun e => by subst e; rw [hm] at hr; cases hr
  have n5 : lb ≠ rb := fun e => by subst e; rw [hr] at hlv; cases hlv
  have n6 : qb ≠ lb := fun e => by subst e; rw [hlv] at hq; cases hq
  have n7 : qb ≠ rb := fun e => by subst e; rw [hr] at hq; cases hq
  have n8 : pb ≠ lb := fun e => by subst e; rw [hlv] at hp; cases hp
  have n9 : m2 ≠ lb := fun e => by subst e; cases aw with | false => (have h : _ = _ := haw; rw [hlv] at h; cases h) | true => (obtain ⟨b, awc, e1, _⟩ := haw; rw [hlv] at e1; cases e1)
  have n10 : m2 ≠ rb := fun e => by subst e; cases aw with | false => (have h : _ = _ := haw; rw [hr] at h; cases h) | true => (obtain ⟨b, awc, e1, _⟩ := haw; rw [hr] at e1; cases e1)
  have n11 : m2 ≠ qb := fun e => by subst e; cases aw with | false => (have h : _ = _ := haw; rw [hq] at h; cases h) | true => (obtain ⟨b, awc, e1, _⟩ := haw; rw [hq] at e1; cases e1)
  have f1 : Fr [m1] (w.alloc (.cells rcs.toArray 80)) (setB (w.alloc (.cells rcs.toArray 80)) m1 (.map #[] c1)) := fr_setB _ _ _
  have f01 : Fr [m1] w (setB (w.alloc (.cells rcs.toArray 80)) m1 (.map #[] c1)) := (fA.mono (by simp)).trans f1
  have hm1 := heap_setB (w.alloc (.cells rcs.toArray 80)) m1 (.map #[] c1) (lt_of_block hmA)
  have hq1 := f01.keep hq (by simpa using n2)
  have hx1 : (setB (w.alloc (.cells rcs.toArray 80)) m1 (.map #[] c1)).heap[w.heap.size]? = some (.cells rcs.toArray 80 (0, 0)) := f1.keep (heap_alloc_new w _) (by have := lt_of_block hm; simp; omega)
  have hr1 := f01.keep hr (by simpa using n4)
  have hp1 := f01.keep hp (by simpa using n1)
  have haw1 : Aw m2 ab lb fst c2 aw (setB (w.alloc (.cells rcs.toArray 80)) m1 (.map #[] c1)) := by
    cases aw with
    | false => exact f01.keep haw (by simpa using hmm.symm)
    | true =>
      obtain ⟨b, awc, e1, e2, e3⟩ := haw
      exact ⟨b, awc, f01.keep e1 (by simpa using hmm.symm), f01.keep e2 (by simp; intro e; subst e; rw [hm] at e2; cases e2), e3⟩
  have hlog1 : Log lb (w.heap.size + 1) [] (setB (w.alloc (.cells rcs.toArray 80)) m1 (.map #[] c1)) :=
    ⟨_, f01.keep hlv (by simpa using n3), World.ownsRow_nil _ _ _ _, by have := f1.size; simp at this; omega⟩
  have cq : (setB (w.alloc (.cells rcs.toArray 80)) m1 (.map #[] c1)).cell? ⟨qb, 3, none⟩ = some (.func (.func 8) #[] #[.pointer (some ⟨lb, 0, none⟩)]) := by rw [cell_at hq1]; rfl
  have hlbx : w.heap.size ∉ [lb, rb] := by have := lt_of_block hlv; have := lt_of_block hr; simp; omega
  have H : Hid _ := And.intro hlook (And.intro hdel (And.intro f01 (And.intro hm1 (And.intro hq1 (And.intro hx1 (And.intro hr1 (And.intro hp1 (And.intro haw1 hlog1))))))))
  have hab : aw = true → ab ≠ lb ∧ ab ≠ m1 := fun e => by
    subst e
    obtain ⟨b, awc, e1, e2, e3⟩ := haw
    refine ⟨fun e => ?_, fun e => ?_⟩
    · subst e; rw [hlv] at e2; cases e2
    · subst e; rw [hm] at e2; cases e2
  have HN : Hid _ := And.intro hmm (And.intro hlbx (And.intro hp34 hab))
  clear hp hp33 hp34 hm haw hq hlv hr hmA hlook hdel f1 f01 hm1 hq1 hx1 hr1 hp1 haw1 hlog1 fA hmm hlbx hab
  go_enter Yba.func12, Yba.ntmps12
  go_wp2_with (first
    | (refine wpList_look 33 (.tmp 12) (.tmp 13) rfl rfl (.map (some m1)) (.int .u64 req) (.tuple #[.pointer (some ⟨qb, 0, none⟩), .bool true]) rfl rfl H.out.1 ?_)
    | (refine wpList_del 33 22 (.tmp 22) (.tmp 23) rfl rfl (.map (some m1)) (.int .u64 req) (setB (w.alloc (.cells rcs.toArray 80)) m1 (.map #[] c1)) rfl rfl H.out.2.1 ?_))
  obtain ⟨_, _, f01, hm1, hq1, hx1, hr1, hp1, haw1, hlog1⟩ := H.out
  generalize setB (w.alloc (.cells rcs.toArray 80)) m1 (.map #[] c1) = w1 at *
  refine (push8 lb (w.heap.size + 1) [] (by simp) w1 hlog1).mono ?_
  rintro e w2 ⟨rfl, hlog2, hf2⟩
  have hq2 := hf2.keepT hq1 (by simpa using n6) (by decide)
  have cq2 : w2.cell? ⟨qb, 4, none⟩ = some (.int .u64 fst) := by rw [cell_at hq2]; rfl
  have H2 : Hid _ := And.intro hlog2 (And.intro hf2 hq2)
  clear hlog2 hf2 hq2 cq f01 hm1 hq1 hx1 hr1 hp1 haw1 hlog1
  go_wp2_with fail
  obtain ⟨hlog2, hf2, hq2⟩ := H2.out
  obtain ⟨_, _, f01, hm1, hq1, hx1, hr1, hp1, haw1, hlog1⟩ := H.out
  obtain ⟨hmm, hlbx, hp34, hab⟩ := HN.out
  have haw2 : Aw m2 ab lb fst c2 aw w2 := haw1.f3 hf2 (by simpa using n9) (fun h => by simpa using (hab h).1)
  have hp2 := hf2.keepT hp1 (by simpa using n8) (by decide)
  have hx2 := hf2.keepT hx1 (by intro h; exact hlbx (by simp at h; simp [h])) (by decide)
  have hr2 := hf2.keepT hr1 (by simpa using n5.symm) (by decide)
  have hm2 := hf2.keepM hm1 (by simpa using n3.symm)
  refine (settle_any pb m2 ab lb (w.heap.size + 1) pcs [0] (by decide) fst c2 aw w2 hp2 hp34 haw2 hlog2).mono ?_
  rintro e w3 ⟨v3, rfl, hlog3, hmm3, hf3⟩
  have hq3 := hf3.keepT hq2 (by simp; exact ⟨n6, fun h => n11 h.symm⟩) (by decide)
  have hx3 := hf3.keepT hx2 (by
    have hlt : m2 < w2.heap.size := by cases aw with | false => exact lt_of_block haw2 | true => (obtain ⟨_, _, e1, _⟩ := haw2; exact lt_of_block e1)
    intro h
    rcases List.mem_cons.1 h with h | h
    · exact hlbx (by simp [h])
    · have h' : w.heap.size = m2 := by simpa using h
      subst h'
      cases aw with
      | false => (have hh : _ = _ := haw2; rw [hx2] at hh; cases hh)
      | true => (obtain ⟨_, _, e1, _⟩ := haw2; rw [hx2] at e1; cases e1)) (by decide)
  have hr3 := hf3.keepT hr2 (by simp; exact ⟨n5.symm, n10.symm⟩) (by decide)
  have hm3 := hf3.keepM hm2 (by simp; exact ⟨n3.symm, hmm⟩)
  have H3 : Hid _ := And.intro hlog3 (And.intro hmm3 (And.intro hf3 (And.intro hq3 (And.intro hx3 (And.intro hr3 (And.intro hm3 (And.intro hf2 f01)))))))
  clear hlog2 hf2 hq2 f01 hm1 hq1 hx1 hr1 hp1 haw1 hlog1 haw2 hp2 hx2 hr2 hm2 hlog3 hmm3 hf3 hq3 hx3 hr3 hm3 cq2 H2
  go_wp2_with fail
  obtain ⟨hlog3, hmm3, hf3, hq3, hx3, hr3, hm3, hf2, f01⟩ := H3.out
  refine finish_done qb w.heap.size lb rb (w.heap.size + 1) (reqL lb rb (endedV en lb) fst).toArray rfl rcs hl hone ([0] ++ two aw) (by cases aw <;> decide) (fun _ _ d _ _ h => by cases d <;> exact h) w3 hq3 hx3 hlog3 hr3 (by simp; exact ⟨n6, n7⟩) hlbx _ rfl rfl rfl ?_
  intro a4 w4 s4 d4 eold ⟨hlog4, hf4, g, cg, cur, hg1, hg2, hg3⟩
  have hf4' : F3 (w.heap.size + 1) [lb, rb] w3 w4 := ⟨hf4.os, hf4.tape, hf4.output, hf4.size, hf4.block⟩
  have hq4 := hf4'.keepT hq3 (by simp; exact ⟨n6, n7⟩) (by decide)
  have hm4 := hf4'.keepM hm3 (by simp; exact ⟨n3.symm, n4.symm⟩)
  have hmm4 := hf4'.keepM hmm3 (by simp; exact ⟨n9, n10⟩)
  go_step
  go_step
  refine finish_ended qb lb (w.heap.size + 1) (reqL lb rb (endedV en lb) fst).toArray en rfl ([0] ++ two aw ++ [1]) (by cases aw <;> decide) w4 hq4 hlog4 a4 s4 ((eold 6 (by decide)).trans rfl) ?_
  intro a5 w5 d5 hlog5 hf5
  refine bodyPost_end (results_none rfl _ _ _) (d5.trans d4) ⟨rfl, hlog5, hf5.keepM hm4 (by simpa using n3.symm), hf5.keepM hmm4 (by simpa using n9), ?_, g, cg, cur, hf5.keepT hg1 (fun h => ?_) (by decide), hg2, hf5.keepT hg3 (by simpa using n5.symm) (by decide)⟩
  · exact ((((F3.of_fr (f01.mono (by simp))).trans (hf2.mono (by simp))).trans (hf3.mono (by simp))).trans (hf4'.mono (by simp))).trans (hf5.mono (by simp))
  · obtain rfl : g = lb := by simpa using h
    obtain ⟨v, hv, _⟩ := hlog4
    rw [hg1] at hv; cases hv
end Go.Proofs.Ybulkaeqi
