import Derived.Test.YbulkaeqiPsend
namespace Go.Proofs.Ybulkaeqi
open Go.RowKit
theorem lt_of_cell {w : World} {a : Addr} {v : Value} (h : w.cell? a = some v) : a.block < w.heap.size := block_lt_of_cell h
set_option maxRecDepth 20000 in
set_option maxHeartbeats 400000 in
theorem clip_any (ao : Option Addr) (n c : Nat) (hn : n ≤ c) (hc : c ≤ maxLen) (hao : ao = none → n = 0 ∧ c = 0) (w : World) :
    Calls Yba.prog 14 #[.slice ao n c] w fun e w' => e = .returned (.slice ao n n) ∧ w' = w := by
  unfold maxLen at hc
  cases ao with
  | none =>
    obtain ⟨rfl, rfl⟩ := hao rfl
    go_enter Yba.func14, Yba.ntmps14
    go_wp2
    go_ret
    exact ⟨rfl, rfl⟩
  | some ad =>
    go_enter Yba.func14, Yba.ntmps14
    go_wp2
    go_ret
    exact ⟨rfl, rfl⟩
/-- What visit leaves: its result, a new array. -/
def Visited (w : World) (strs : List Value) (s : ByteArray) (v : Value) (w' : World) : Prop :=
  ∃ g cap cur, v = .slice (some ⟨g, 0, none⟩) (strs.length + 1) cap ∧ w.heap.size ≤ g ∧ w'.heap[g]? = some (.cells cur 9 (0, 0)) ∧ cur.toList.take (strs.length + 1) = strs ++ [.string s] ∧ strs.length + 1 ≤ cap ∧ Fr [] w w'
theorem visit_tail {Q : Exit → Act → World → Prop} {S : World → Prop} (hSf : ∀ w w', Fr [] w w' → S w → S w') (strs : List Value) (n : Nat) (hn : strs.length = n) (hn2 : n ≤ 1024) (s : ByteArray) (w0 : World)
    (hQ : ∀ a v w, a.defers = [] → a.eval (.tmp 4) = v → Visited w0 strs s v w → Q .normal a w)
    (ao : Option Addr) (hao : ao = none → n = 0) (a : Act) (ha : a.tmps.size = 14) (hd : a.defers = []) (h6 : a.eval (.tmp 6) = .slice ao n n) (w : World) (hS : S w) (bn : Nat) (h12 : a.eval (.tmp 12) = .slice (some ⟨bn, 0, none⟩) 1 1)
    (hbn : w.cell? ⟨bn, 0, none⟩ = some (.string s)) (hold : ∀ b, ao = some b → ∀ j u, strs[j]? = some u → w.cell? (b.add j) = some u) (hfr : Fr [] w0 w) :
    wpAnyH Yba.prog .any (opsOf Yba.f11 [1, 0]) Q S 2 #[true, true, true, true, true, true, true, true, false, false] a w := by
  obtain ⟨i0, hi, hz0, hz1, hz2⟩ := info_parts Yba.info9
  refine held_one (i := 8) (o := opAt Yba.f11 [1, 0] 8) (by kernel_rfl) rfl rfl ?_
  refine wp_append_grows rfl (.tmp 6) (.tmp 12) 23 rfl 9 i0 (.string ByteArray.empty) 1 16 Yba.underlying23 hi hz0 hz1 hz2 rfl (by decide) ao n n strs h6 (fun h => ⟨hao h, hao h⟩) (by omega) hold ⟨bn, 0, none⟩ 1 1 [.string s] h12 rfl ?_ ?_ (by omega) (by unfold maxLen; omega) (by omega) ?_
  · intro j u hj; match j, hj with | 0, hj => (simp at hj; subst hj; exact hbn)
  · intro u hu; simp at hu; subst hu; rfl
  intro v' w' hown hgrow
  have hf' : Fr [] w0 w' := hfr.grown hgrow (fun _ h => by cases h)
  have hS' : S w' := hSf w w' ((Fr.refl _ _).grown hgrow (fun _ h => by cases h)) hS
  refine ⟨hS', ?_⟩
  obtain ⟨g, cap, cur, hv, hg, hcur, htk, hcap⟩ := own_form hown
  refine held_one (i := 9) (o := opAt Yba.f11 [1, 0] 9) (by kernel_rfl) rfl rfl ?_
  refine wp_of_run (run_asg (.tmp 13) rfl v' (eval_same _ _ _ (by rw [ha]; decide)) w') ⟨hS', ?_⟩
  refine wpAnyH_done (by kernel_rfl) ?_ _
  refine hQ _ v' _ hd (eval_same _ _ _ (by rw [size_put, ha]; decide)) ⟨g, cap, cur, by rw [hn]; exact hv, Nat.le_trans hfr.size hg, hcur, by rw [hn]; simpa using htk, by omega, hf'⟩
set_option maxRecDepth 20000 in
set_option maxHeartbeats 400000 in
theorem visit_region {Q : Exit → Act → World → Prop} (pb : Nat) (pcs : Array Value) (s : ByteArray) (hp20 : pcs[20]? = some (.string s)) (strs : List Value) (n c : Nat) (hn : strs.length = n) (hn2 : n ≤ 1024) (hnc : n ≤ c) (hc : c ≤ maxLen) (w : World)
    (hQ : ∀ a v w', a.defers = [] → a.eval (.tmp 4) = v → Visited w strs s v w' → Q .normal a w')
    (hP : ∀ c a d v w, Q (.panic c) (a.put d v) w → Q (.panic c) a w)
    (ao : Option Addr) (hao : ao = none → n = 0 ∧ c = 0) (a : Act) (ha : a.tmps.size = 14) (hd : a.defers = []) (h0 : a.eval (.tmp 0) = .pointer (some ⟨pb, 0, none⟩)) (h1 : a.eval (.tmp 1) = .slice ao n c)
    (hp : w.heap[pb]? = some (.cells pcs 67 (0, 0))) (hold : ∀ b, ao = some b → ∀ j u, strs[j]? = some u → w.cell? (b.add j) = some u) :
    (Code.region 1 (opsOf Yba.f11 [1, 0]) true).wp Yba.prog Q a w := by
  obtain ⟨i0, hi, hz0, hz1, hz2⟩ := info_parts Yba.info9
  refine wp_region_held (S := fun W => W.heap[pb]? = some (.cells pcs 67 (0, 0))) (by kernel_rfl) ?_
  change wpAnyH _ _ _ _ _ 10 _ _ (World.drew _)
  have hS : w.drew.heap[pb]? = some (.cells pcs 67 (0, 0)) := hp
  have hSf : ∀ W W' : World, Fr [] W W' → W.heap[pb]? = some (.cells pcs 67 (0, 0)) → W'.heap[pb]? = some (.cells pcs 67 (0, 0)) := fun W W' f h => f.keep h (by simp)
  have hvis : ∀ v w', Visited w.drew strs s v w' → Visited w strs s v w' := fun v w' ⟨g, cap, cur, e1, e2, e3, e4, e5, e6⟩ => ⟨g, cap, cur, e1, e2, e3, e4, e5, ⟨e6.os, e6.tape, e6.output, e6.size, e6.block⟩⟩
  have hQ' : ∀ a v w', a.defers = [] → a.eval (.tmp 4) = v → Visited w.drew strs s v w' → Q .normal a w' := fun a v w' e1 e2 e3 => hQ a v w' e1 e2 (hvis v w' e3)
  have holdD : ∀ b, ao = some b → ∀ j u, strs[j]? = some u → w.drew.cell? (b.add j) = some u := hold
  generalize w.drew = w1 at *
  clear hQ hvis hold hp
  refine wpAnyH_take (i := 0) (oi := opAt Yba.f11 [1, 0] 0) (v := .slice ao n c) rfl (by kernel_rfl) (by kernel_rfl) (by kernel_rfl) (fun _ _ _ h => hP _ _ _ _ _ h) (Or.inl ⟨rfl, fun W hW => run_mv (.tmp 1) rfl _ h1 W⟩) hS ?_
  refine wpAnyH_take (i := 2) (oi := opAt Yba.f11 [1, 0] 2) (v := .pointer (some ⟨pb, 0, none⟩)) rfl (by kernel_rfl) (by kernel_rfl) (by kernel_rfl) (fun _ _ _ h => hP _ _ _ _ _ h) (Or.inl ⟨rfl, fun W hW => run_mv (.tmp 0) rfl _ ((eval_other _ _ _ _ (by decide)).trans (h0)) W⟩) hS ?_
  refine wpAnyH_take (i := 3) (oi := opAt Yba.f11 [1, 0] 3) (v := .pointer (some ⟨pb, 0, none⟩)) rfl (by kernel_rfl) (by kernel_rfl) (by kernel_rfl) (fun _ _ _ h => hP _ _ _ _ _ h) (Or.inl ⟨rfl, fun W hW => run_nilCheck (.tmp 7) rfl _ (eval_same _ _ _ (by rw [size_put, ha]; decide)) W⟩) hS ?_
  refine wpAnyH_take (i := 4) (oi := opAt Yba.f11 [1, 0] 4) (v := .pointer (some ⟨pb, 0, none⟩)) rfl (by kernel_rfl) (by kernel_rfl) (by kernel_rfl) (fun _ _ _ h => hP _ _ _ _ _ h) (Or.inl ⟨rfl, fun W hW => run_fieldAddr 67 (.tmp 8) 0 rfl ⟨pb, 0, none⟩ ⟨pb, 0, none⟩ (eval_same _ _ _ (by rw [size_put, size_put, ha]; decide)) W (by kernel_rfl)⟩) hS ?_
  refine wpAnyH_take (i := 5) (oi := opAt Yba.f11 [1, 0] 5) (v := .pointer (some ⟨pb, 20, none⟩)) rfl (by kernel_rfl) (by kernel_rfl) (by kernel_rfl) (fun _ _ _ h => hP _ _ _ _ _ h) (Or.inl ⟨rfl, fun W hW => run_fieldAddr 31 (.tmp 9) 1 rfl ⟨pb, 0, none⟩ ⟨pb, 20, none⟩ (eval_same _ _ _ (by rw [size_put, size_put, size_put, ha]; decide)) W (by kernel_rfl)⟩) hS ?_
  refine wpAnyH_take (i := 6) (oi := opAt Yba.f11 [1, 0] 6) (v := .string s) rfl (by kernel_rfl) (by kernel_rfl) (by kernel_rfl) (fun _ _ _ h => hP _ _ _ _ _ h) (Or.inl ⟨rfl, fun W hW => run_load_one 9 (.tmp 10) rfl ⟨pb, 20, none⟩ _ (eval_same _ _ _ (by rw [size_put, size_put, size_put, size_put, ha]; decide)) W (by rw [cell_at hW]; exact hp20) (by kernel_rfl)⟩) hS ?_
  generalize hA : Act.put (Act.put (Act.put (Act.put (Act.put (Act.put a _ _) _ _) _ _) _ _) _ _) _ _ = a2
  have s2 : a2.tmps.size = 14 := by rw [← hA, size_put, size_put, size_put, size_put, size_put, size_put, ha]
  have d2 : a2.defers = [] := by rw [← hA, defers_put, defers_put, defers_put, defers_put, defers_put, defers_put, hd]
  have k5 : a2.eval (.tmp 5) = .slice ao n c := by rw [← hA]; exact ((eval_other _ _ _ _ (by decide)).trans ((eval_other _ _ _ _ (by decide)).trans ((eval_other _ _ _ _ (by decide)).trans ((eval_other _ _ _ _ (by decide)).trans ((eval_other _ _ _ _ (by decide)).trans (eval_same _ _ _ (by rw [ha]; decide)))))))
  have k11 : a2.eval (.tmp 11) = .string s := by rw [← hA]; exact (eval_same _ _ _ (by rw [size_put, size_put, size_put, size_put, size_put, ha]; decide))
  clear hA h0 h1 ha hd
  have hcl : ∀ (W : World) (b : Act) (_ : b.eval (.tmp 5) = .slice ao n c), (execOp b.eval (opAt Yba.f11 [1, 0] 1)).run Yba.prog W = .ok (.enter 14 #[.slice ao n c]) W := fun W b hb =>
    run_callFn 14 #[.tmp 5] #[23] rfl rfl _ (by rw [List.map_toArray, List.map_cons, List.map_nil, hb]) W (by kernel_rfl)
  refine held_two (i := 1) (j := 7) (o := opAt Yba.f11 [1, 0] 1) (o' := opAt Yba.f11 [1, 0] 7) (by kernel_rfl) rfl rfl rfl rfl ?_ ?_
  · refine wp_enter (hcl _ _ k5) ?_
    refine (clip_any ao n c hnc hc hao w1).mono ?_
    rintro e w' ⟨rfl, rfl⟩
    refine ⟨_, rfl, hS, ?_⟩
    refine held_one (i := 7) (o := opAt Yba.f11 [1, 0] 7) (by kernel_rfl) rfl rfl ?_
    refine wp_buildSlice_one1 23 (.tmp 11) rfl 9 i0 (.string ByteArray.empty) (.string s) ((eval_other _ _ _ _ (by decide)).trans k11) rfl Yba.underlying23 hi hz0 hz1 ⟨hSf _ _ ((Fr.refl _ _).alloc _) hS, ?_⟩
    refine visit_tail hSf strs n hn hn2 s w' hQ' ao (fun h => (hao h).1) _ (by rw [size_put, size_put, s2]) (by rw [defers_put, defers_put, d2]) ((eval_other _ _ _ _ (by decide)).trans (eval_same _ _ _ (by rw [s2]; decide))) _ (hSf _ _ ((Fr.refl _ _).alloc _) hS) w'.heap.size (eval_same _ _ _ (by rw [size_put, s2]; decide)) (by simp) (fun b hb j u hj => ?_) ((Fr.refl _ _).alloc _)
    exact (((Fr.refl [] w').alloc _).cell (lt_of_cell (holdD b hb j u hj)) (by simp)).trans (holdD b hb j u hj)
  · refine wp_buildSlice_one1 23 (.tmp 11) rfl 9 i0 (.string ByteArray.empty) (.string s) k11 rfl Yba.underlying23 hi hz0 hz1 ⟨hSf _ _ ((Fr.refl _ _).alloc _) hS, ?_⟩
    refine held_one (i := 1) (o := opAt Yba.f11 [1, 0] 1) (by kernel_rfl) rfl rfl ?_
    refine wp_enter (hcl _ _ ((eval_other _ _ _ _ (by decide)).trans k5)) ?_
    refine (clip_any ao n c hnc hc hao _).mono ?_
    rintro e w' ⟨rfl, rfl⟩
    refine ⟨_, rfl, hSf _ _ ((Fr.refl _ _).alloc _) hS, ?_⟩
    refine visit_tail hSf strs n hn hn2 s w1 hQ' ao (fun h => (hao h).1) _ (by rw [size_put, size_put, s2]) (by rw [defers_put, defers_put, d2]) (eval_same _ _ _ (by rw [size_put, s2]; decide)) _ (hSf _ _ ((Fr.refl _ _).alloc _) hS) w1.heap.size ((eval_other _ _ _ _ (by decide)).trans (eval_same _ _ _ (by rw [s2]; decide))) (by simp) (fun b hb j u hj => ?_) ((Fr.refl _ _).alloc _)
    exact (((Fr.refl [] w1).alloc _).cell (lt_of_cell (holdD b hb j u hj)) (by simp)).trans (holdD b hb j u hj)
set_option maxRecDepth 20000 in
set_option maxHeartbeats 400000 in
theorem visit_any (pb : Nat) (pcs : Array Value) (s : ByteArray) (hp20 : pcs[20]? = some (.string s)) (strs : List Value) (n c : Nat) (hn : strs.length = n) (hn2 : n ≤ 1024) (hnc : n ≤ c) (hc : c ≤ maxLen) (w : World)
    (ao : Option Addr) (hao : ao = none → n = 0 ∧ c = 0) (hp : w.heap[pb]? = some (.cells pcs 67 (0, 0))) (hold : ∀ b, ao = some b → ∀ j u, strs[j]? = some u → w.cell? (b.add j) = some u) :
    Calls Yba.prog 11 #[.pointer (some ⟨pb, 0, none⟩), .slice ao n c] w fun e w' => ∃ v, e = .returned v ∧ Visited w strs s v w' := by
  have H : Hid _ := And.intro hn (And.intro hp20 (And.intro hp (And.intro hold hao)))
  clear hn hp20 hp hold hao
  go_enter Yba.func11, Yba.ntmps11
  go_wp2_with fail
  obtain ⟨hn, hp20, hp, hold, hao⟩ := H.out
  refine visit_region pb pcs s hp20 strs n c hn hn2 hnc hc w ?_ (fun _ _ d _ _ h => by cases d <;> exact h) ao hao _ rfl rfl rfl rfl hp hold
  intro a v w' hd hv hvis
  go_wp2
  refine bodyPost_ret (v := v) ?_ hd ⟨v, rfl, hvis⟩
  rw [results_tmp rfl]
  simpa [Act.eval] using hv
end Go.Proofs.Ybulkaeqi
