import Derived.Test.YbulkaeqiFinish
namespace Go.Proofs.Ybulkaeqi
open Go.RowKit
theorem build_res (found : Bool) (s : ByteArray) (hops : Int) (va : Option Addr) (vn vc : Nat) (w : World) : (Instr.build 80 #[(0, .bool found), (1, .agg (contactL 0 s).toArray), (2, .int .i64 hops), (3, .slice va vn vc)]).run Yba.prog w = .ok (.agg (resL found s hops (.slice va vn vc)).toArray) w := by kernel_rfl
theorem res_len (found : Bool) (s : ByteArray) (hops : Int) (va : Option Addr) (vn vc : Nat) : (resL found s hops (.slice va vn vc)).length = 24 := by kernel_rfl
theorem res_one (found : Bool) (s : ByteArray) (hops : Int) (va : Option Addr) (vn vc : Nat) : ∀ u ∈ (resL found s hops (.slice va vn vc)), u.oneCell' = true := by
  have : (resL found s hops (.slice va vn vc)).all (·.oneCell') = true := by kernel_rfl
  exact fun u hu => List.all_eq_true.1 this u hu
set_option maxRecDepth 20000 in
set_option maxHeartbeats 400000 in
theorem answer_fin {Q : Exit → Act → World → Prop} (pb mb : Nat) (pcs : Array Value) (s : ByteArray) (hself : pcs.toList.take 21 = contactL 0 s) (cs : List Value) (req hops : Int) (found : Bool) (va : Option Addr) (vn vc : Nat)
    (hc1 : cs[1]? = some (.int .u64 req)) (hc65 : cs[65]? = some (.int .i64 hops)) (hP : ∀ c a d v w, Q (.panic c) (a.put d v) w → Q (.panic c) a w) (w : World) (hS0 : AnsS pb mb pcs cs w)
    (Rr : World → Prop) (hRS : ∀ w', Rr w' → AnsS pb mb pcs cs w')
    (hcall : Calls Yba.prog 12 #[.pointer (some ⟨pb, 0, none⟩), .int .u64 req, .agg (resL found s hops (.slice va vn vc)).toArray] w.drew fun e w' => e = .returned (.tuple #[]) ∧ Rr w')
    (a : Act) (ha : a.tmps.size = 50) (h0 : a.eval (.tmp 0) = .pointer (some ⟨pb, 0, none⟩)) (h4 : a.eval (.tmp 4) = .pointer (some ⟨mb, 0, none⟩)) (h2 : a.eval (.tmp 2) = .bool found) (h6 : a.eval (.tmp 6) = .slice va vn vc)
    (hQ : ∀ a' w', a'.defers = a.defers → Rr w' → Q .normal a' w') :
    (Code.region 5 (opsOf Yba.f5 [1, 1, 1, 0, 1, 2, 0]) true).wp Yba.prog Q a w := by
  refine wp_region_held (S := AnsS pb mb pcs cs) (by kernel_rfl) ?_
  change wpAnyH _ _ _ _ _ 13 _ _ (World.drew _)
  have hS : AnsS pb mb pcs cs w.drew := hS0
  have hcell : ∀ (W : World) (j : Nat) (v : Value), AnsS pb mb pcs cs W → cs[j]? = some v → W.cell? ⟨mb, j, none⟩ = some v := fun W j v h hj => by rw [cell_at h.2]; simpa using hj
  refine wpAnyH_take (i := 0) (oi := opAt Yba.f5 [1, 1, 1, 0, 1, 2, 0] 0) (v := .pointer (some ⟨pb, 0, none⟩)) rfl (by kernel_rfl) (by kernel_rfl) (by kernel_rfl) (fun _ _ _ h => hP _ _ _ _ _ h) (Or.inl ⟨rfl, fun W hW => run_mv (.tmp 0) rfl _ h0 W⟩) hS ?_
  refine wpAnyH_take (i := 1) (oi := opAt Yba.f5 [1, 1, 1, 0, 1, 2, 0] 1) (v := .pointer (some ⟨mb, 1, none⟩)) rfl (by kernel_rfl) (by kernel_rfl) (by kernel_rfl) (fun _ _ _ h => hP _ _ _ _ _ h) (Or.inl ⟨rfl, fun W hW => run_fieldAddr 73 (.tmp 4) 1 rfl ⟨mb, 0, none⟩ ⟨mb, 1, none⟩ ((eval_other _ _ _ _ (by decide)).trans (h4)) W (by kernel_rfl)⟩) hS ?_
  refine wpAnyH_take (i := 2) (oi := opAt Yba.f5 [1, 1, 1, 0, 1, 2, 0] 2) (v := .int .u64 req) rfl (by kernel_rfl) (by kernel_rfl) (by kernel_rfl) (fun _ _ _ h => hP _ _ _ _ _ h) (Or.inl ⟨rfl, fun W hW => run_load_one 22 (.tmp 22) rfl ⟨mb, 1, none⟩ _ (eval_same _ _ _ (by rw [size_put, ha]; decide)) W (hcell W 1 _ hW hc1) (by kernel_rfl)⟩) hS ?_
  refine wpAnyH_take (i := 3) (oi := opAt Yba.f5 [1, 1, 1, 0, 1, 2, 0] 3) (v := .bool found) rfl (by kernel_rfl) (by kernel_rfl) (by kernel_rfl) (fun _ _ _ h => hP _ _ _ _ _ h) (Or.inl ⟨rfl, fun W hW => run_mv (.tmp 2) rfl _ ((eval_other _ _ _ _ (by decide)).trans ((eval_other _ _ _ _ (by decide)).trans ((eval_other _ _ _ _ (by decide)).trans (h2)))) W⟩) hS ?_
  refine wpAnyH_take (i := 4) (oi := opAt Yba.f5 [1, 1, 1, 0, 1, 2, 0] 4) (v := .pointer (some ⟨pb, 0, none⟩)) rfl (by kernel_rfl) (by kernel_rfl) (by kernel_rfl) (fun _ _ _ h => hP _ _ _ _ _ h) (Or.inl ⟨rfl, fun W hW => run_mv (.tmp 0) rfl _ ((eval_other _ _ _ _ (by decide)).trans ((eval_other _ _ _ _ (by decide)).trans ((eval_other _ _ _ _ (by decide)).trans ((eval_other _ _ _ _ (by decide)).trans (h0))))) W⟩) hS ?_
  refine wpAnyH_take (i := 5) (oi := opAt Yba.f5 [1, 1, 1, 0, 1, 2, 0] 5) (v := .pointer (some ⟨pb, 0, none⟩)) rfl (by kernel_rfl) (by kernel_rfl) (by kernel_rfl) (fun _ _ _ h => hP _ _ _ _ _ h) (Or.inl ⟨rfl, fun W hW => run_nilCheck (.tmp 25) rfl _ (eval_same _ _ _ (by rw [size_put, size_put, size_put, size_put, ha]; decide)) W⟩) hS ?_
  refine wpAnyH_take (i := 6) (oi := opAt Yba.f5 [1, 1, 1, 0, 1, 2, 0] 6) (v := .pointer (some ⟨pb, 0, none⟩)) rfl (by kernel_rfl) (by kernel_rfl) (by kernel_rfl) (fun _ _ _ h => hP _ _ _ _ _ h) (Or.inl ⟨rfl, fun W hW => run_fieldAddr 67 (.tmp 26) 0 rfl ⟨pb, 0, none⟩ ⟨pb, 0, none⟩ (eval_same _ _ _ (by rw [size_put, size_put, size_put, size_put, size_put, ha]; decide)) W (by kernel_rfl)⟩) hS ?_
  refine wpAnyH_take (i := 7) (oi := opAt Yba.f5 [1, 1, 1, 0, 1, 2, 0] 7) (v := .agg (contactL 0 s).toArray) rfl (by kernel_rfl) (by kernel_rfl) (by kernel_rfl) (fun _ _ _ h => hP _ _ _ _ _ h) (Or.inl ⟨rfl, fun W hW => run_load_row 31 (.tmp 27) rfl pb 0 (eval_same _ _ _ (by rw [size_put, size_put, size_put, size_put, size_put, size_put, ha]; decide)) (contactL 0 s) 21 rfl row31 W (hW.self _ hself)⟩) hS ?_
  refine wpAnyH_take (i := 8) (oi := opAt Yba.f5 [1, 1, 1, 0, 1, 2, 0] 8) (v := .pointer (some ⟨mb, 65, none⟩)) rfl (by kernel_rfl) (by kernel_rfl) (by kernel_rfl) (fun _ _ _ h => hP _ _ _ _ _ h) (Or.inl ⟨rfl, fun W hW => run_fieldAddr 73 (.tmp 4) 6 rfl ⟨mb, 0, none⟩ ⟨mb, 65, none⟩ ((eval_other _ _ _ _ (by decide)).trans ((eval_other _ _ _ _ (by decide)).trans ((eval_other _ _ _ _ (by decide)).trans ((eval_other _ _ _ _ (by decide)).trans ((eval_other _ _ _ _ (by decide)).trans ((eval_other _ _ _ _ (by decide)).trans ((eval_other _ _ _ _ (by decide)).trans ((eval_other _ _ _ _ (by decide)).trans (h4))))))))) W (by kernel_rfl)⟩) hS ?_
  refine wpAnyH_take (i := 9) (oi := opAt Yba.f5 [1, 1, 1, 0, 1, 2, 0] 9) (v := .int .i64 hops) rfl (by kernel_rfl) (by kernel_rfl) (by kernel_rfl) (fun _ _ _ h => hP _ _ _ _ _ h) (Or.inl ⟨rfl, fun W hW => run_load_one 3 (.tmp 29) rfl ⟨mb, 65, none⟩ _ (eval_same _ _ _ (by rw [size_put, size_put, size_put, size_put, size_put, size_put, size_put, size_put, ha]; decide)) W (hcell W 65 _ hW hc65) (by kernel_rfl)⟩) hS ?_
  refine wpAnyH_take (i := 10) (oi := opAt Yba.f5 [1, 1, 1, 0, 1, 2, 0] 10) (v := .slice va vn vc) rfl (by kernel_rfl) (by kernel_rfl) (by kernel_rfl) (fun _ _ _ h => hP _ _ _ _ _ h) (Or.inl ⟨rfl, fun W hW => run_mv (.tmp 6) rfl _ ((eval_other _ _ _ _ (by decide)).trans ((eval_other _ _ _ _ (by decide)).trans ((eval_other _ _ _ _ (by decide)).trans ((eval_other _ _ _ _ (by decide)).trans ((eval_other _ _ _ _ (by decide)).trans ((eval_other _ _ _ _ (by decide)).trans ((eval_other _ _ _ _ (by decide)).trans ((eval_other _ _ _ _ (by decide)).trans ((eval_other _ _ _ _ (by decide)).trans ((eval_other _ _ _ _ (by decide)).trans (h6))))))))))) W⟩) hS ?_
  generalize hA : Act.put (Act.put (Act.put (Act.put (Act.put (Act.put (Act.put (Act.put (Act.put (Act.put (Act.put a _ _) _ _) _ _) _ _) _ _) _ _) _ _) _ _) _ _) _ _) _ _ = a2
  have s2 : a2.tmps.size = 50 := by rw [← hA, size_put, size_put, size_put, size_put, size_put, size_put, size_put, size_put, size_put, size_put, size_put, ha]
  have d2 : a2.defers = a.defers := by rw [← hA, defers_put, defers_put, defers_put, defers_put, defers_put, defers_put, defers_put, defers_put, defers_put, defers_put, defers_put]
  have k21 : a2.eval (.tmp 21) = .pointer (some ⟨pb, 0, none⟩) := by rw [← hA]; exact ((eval_other _ _ _ _ (by decide)).trans ((eval_other _ _ _ _ (by decide)).trans ((eval_other _ _ _ _ (by decide)).trans ((eval_other _ _ _ _ (by decide)).trans ((eval_other _ _ _ _ (by decide)).trans ((eval_other _ _ _ _ (by decide)).trans ((eval_other _ _ _ _ (by decide)).trans ((eval_other _ _ _ _ (by decide)).trans ((eval_other _ _ _ _ (by decide)).trans ((eval_other _ _ _ _ (by decide)).trans (eval_same _ _ _ (by rw [ha]; decide))))))))))))
  have k23 : a2.eval (.tmp 23) = .int .u64 req := by rw [← hA]; exact ((eval_other _ _ _ _ (by decide)).trans ((eval_other _ _ _ _ (by decide)).trans ((eval_other _ _ _ _ (by decide)).trans ((eval_other _ _ _ _ (by decide)).trans ((eval_other _ _ _ _ (by decide)).trans ((eval_other _ _ _ _ (by decide)).trans ((eval_other _ _ _ _ (by decide)).trans ((eval_other _ _ _ _ (by decide)).trans (eval_same _ _ _ (by rw [size_put, size_put, ha]; decide))))))))))
  have k24 : a2.eval (.tmp 24) = .bool found := by rw [← hA]; exact ((eval_other _ _ _ _ (by decide)).trans ((eval_other _ _ _ _ (by decide)).trans ((eval_other _ _ _ _ (by decide)).trans ((eval_other _ _ _ _ (by decide)).trans ((eval_other _ _ _ _ (by decide)).trans ((eval_other _ _ _ _ (by decide)).trans ((eval_other _ _ _ _ (by decide)).trans (eval_same _ _ _ (by rw [size_put, size_put, size_put, ha]; decide)))))))))
  have k28 : a2.eval (.tmp 28) = .agg (contactL 0 s).toArray := by rw [← hA]; exact ((eval_other _ _ _ _ (by decide)).trans ((eval_other _ _ _ _ (by decide)).trans ((eval_other _ _ _ _ (by decide)).trans (eval_same _ _ _ (by rw [size_put, size_put, size_put, size_put, size_put, size_put, size_put, ha]; decide)))))
  have k30 : a2.eval (.tmp 30) = .int .i64 hops := by rw [← hA]; exact ((eval_other _ _ _ _ (by decide)).trans (eval_same _ _ _ (by rw [size_put, size_put, size_put, size_put, size_put, size_put, size_put, size_put, size_put, ha]; decide)))
  have k31 : a2.eval (.tmp 31) = .slice va vn vc := by rw [← hA]; exact (eval_same _ _ _ (by rw [size_put, size_put, size_put, size_put, size_put, size_put, size_put, size_put, size_put, size_put, ha]; decide))
  clear hA
  refine wpAnyH_take (i := 11) (oi := opAt Yba.f5 [1, 1, 1, 0, 1, 2, 0] 11) (v := .agg (resL found s hops (.slice va vn vc)).toArray) rfl (by kernel_rfl) (by kernel_rfl) (by kernel_rfl) (fun _ _ _ h => hP _ _ _ _ _ h) (Or.inl ⟨rfl, fun W hW => run_build 80 #[(0, .tmp 24), (1, .tmp 28), (2, .tmp 30), (3, .tmp 31)] rfl #[(0, .bool found), (1, .agg (contactL 0 s).toArray), (2, .int .i64 hops), (3, .slice va vn vc)] (parts4 k24 k28 k30 k31) _ W (build_res found s hops va vn vc W)⟩) hS ?_
  refine held_one (i := 12) (o := opAt Yba.f5 [1, 1, 1, 0, 1, 2, 0] 12) (by kernel_rfl) rfl rfl ?_
  refine wp_enter (run_callFn 12 #[.tmp 21, .tmp 23, .tmp 32] #[32, 22, 80] rfl rfl #[.pointer (some ⟨pb, 0, none⟩), .int .u64 req, .agg (resL found s hops (.slice va vn vc)).toArray] (args3 ((eval_other _ _ _ _ (by decide)).trans k21) ((eval_other _ _ _ _ (by decide)).trans k23) (eval_same _ _ _ (by rw [s2]; decide))) _ (by kernel_rfl)) ?_
  refine hcall.mono ?_
  rintro e w' ⟨rfl, hr⟩
  refine ⟨_, rfl, hRS _ hr, ?_⟩
  refine wpAnyH_done (by kernel_rfl) ?_ _
  exact hQ _ _ ((defers_put _ _ _).trans ((defers_put _ _ _).trans d2)) hr

/-- The world ahead of finish, seen from answer's start. -/
theorem Log.none {lb B : Nat} {w : World} (h : w.heap[lb]? = some (.cells #[.slice none 0 0] 76 (0, 0))) (hB : B ≤ w.heap.size) : Log lb B [] w := ⟨_, h, World.ownsRow_nil _ _ _ _, hB⟩

set_option maxRecDepth 20000 in
set_option maxHeartbeats 400000 in
/-- answer at the request's origin, a Locate: finish is called with the path that visit makes. -/
theorem answer_at_loc (pb : Nat) (pcs : Array Value) (s : ByteArray) (hself : pcs.toList.take 21 = contactL 0 s) (cs : List Value) (req hops : Int) (found : Bool) (ao : Option Addr) (n c : Nat) (strs : List Value)
    (hc0 : cs[0]? = some (.int .i64 4)) (hc1 : cs[1]? = some (.int .u64 req)) (hc65 : cs[65]? = some (.int .i64 hops)) (hc69 : cs[69]? = some (.slice ao n c)) (hor : (cs.drop 2).take 21 = contactL 0 s)
    (hn : strs.length = n) (hn2 : n ≤ 1024) (hnc : n ≤ c) (hc : c ≤ maxLen) (hao : ao = none → n = 0 ∧ c = 0) (w : World) (hold : ∀ b, ao = some b → ∀ j u, strs[j]? = some u → w.cell? (b.add j) = some u)
    (hp : w.heap[pb]? = some (.cells pcs 67 (0, 0))) (Rr : Value → World → Prop) (hRS : ∀ v w', Rr v w' → AnsS pb w.heap.size pcs cs w')
    (hcall : ∀ (w1 : World) (g cap : Nat) (cur : Array Value), Fr [] w w1 → w.heap.size < w1.heap.size → w1.heap[w.heap.size]? = some (.cells cs.toArray 73 (0, 0)) → w.heap.size < g → w1.heap[g]? = some (.cells cur 9 (0, 0)) → cur.toList.take (n + 1) = strs ++ [.string s] →
      Calls Yba.prog 12 #[.pointer (some ⟨pb, 0, none⟩), .int .u64 req, .agg (resL found s hops (.slice (some ⟨g, 0, none⟩) (n + 1) cap)).toArray] w1 fun e w' => e = .returned (.tuple #[]) ∧ Rr (.slice (some ⟨g, 0, none⟩) (n + 1) cap) w') :
    Calls Yba.prog 5 #[.pointer (some ⟨pb, 0, none⟩), .agg cs.toArray, .bool found] w fun e w' => e = .returned (.tuple #[]) ∧ ∃ v, Rr v w' := by
  have hp20 : pcs[20]? = some (.string s) := take_cell hself rfl
  have hpb : pb < w.heap.size := lt_of_block hp
  have H : Hid _ := And.intro hn (And.intro hp20 (And.intro hp (And.intro hold (And.intro hao (And.intro hself (And.intro hor (And.intro hc1 (And.intro hc65 (And.intro hRS hcall)))))))))
  clear hn hp20 hp hold hao hself hor hc1 hc65 hRS hcall
  go_enter Yba.func5, Yba.ntmps5
  go_wp2_with fail
  obtain ⟨hn, hp20, hp, hold, hao, hself, hor, hc1, hc65, hRS, hcall⟩ := H.out
  have fr := (Fr.refl [] w).alloc (.cells cs.toArray 73)
  refine (visit_any pb pcs s hp20 strs n c hn hn2 hnc hc _ ao hao (fr.keep hp (by simp)) (fun b hb j u hj => (fr.cell (lt_of_cell (hold b hb j u hj)) (by simp)).trans (hold b hb j u hj))).mono ?_
  rintro e w1 ⟨v, rfl, g, cap, cur, rfl, hg, hcur, htk, hcap, hf1⟩
  rw [hn] at htk ⊢
  have hmb : w1.heap[w.heap.size]? = some (.cells cs.toArray 73 (0, 0)) := hf1.keep (heap_alloc_new w _) (by simp)
  have hS1 : AnsS pb w.heap.size pcs cs w1 := ⟨hf1.keep (fr.keep hp (by simp)) (by simp), hmb⟩
  have hgl : w.heap.size < g := by simp at hg; omega
  have hsz : w.heap.size < w1.heap.size := by have := hf1.size; simp at this; omega
  have hcall1 := hcall w1.drew.drew g cap cur ((fr.trans hf1).drew.drew) hsz hmb hgl hcur htk
  have H2 : Hid _ := And.intro hS1 (And.intro hself (And.intro hor (And.intro hc1 (And.intro hc65 (And.intro hcall1 hRS)))))
  clear hS1 hself hor hc1 hc65 hcur htk hp hmb fr hf1 H hcall hcall1 hRS hn hp20 hold hao
  go_wp2_with fail
  obtain ⟨hS1, hself, hor, hc1, hc65, hcall1, hRS⟩ := H2.out
  refine answer_cmp pb w.heap.size pcs s hself cs (contactL 0 s) hor rfl true (eql_self s _ _) (fun _ _ d _ _ h => by cases d <;> exact h) w1 hS1 _ rfl rfl rfl ?_
  intro a1 sz1 d1 e20 eold
  go_step
  go_step
  refine wp_cond_true e20 ?_
  refine wp_seq ?_
  refine answer_fin pb w.heap.size pcs s hself cs req hops found (some ⟨g, 0, none⟩) (n + 1) cap hc1 hc65 (fun _ _ d _ _ h => by cases d <;> exact h) w1.drew hS1 (Rr (.slice (some ⟨g, 0, none⟩) (n + 1) cap)) (hRS _) hcall1 a1 sz1 ((eold 0 (by decide)).trans rfl) ((eold 4 (by decide)).trans rfl) ((eold 2 (by decide)).trans rfl) ((eold 6 (by decide)).trans rfl) ?_
  intro a2 w2 d2 hr
  go_wp2
  exact bodyPost_ret (results_none rfl _ _ _) (d2.trans d1) ⟨rfl, _, hr⟩
set_option maxRecDepth 20000 in
set_option maxHeartbeats 400000 in
/-- answer at the request's origin, no Locate: no path. -/
theorem answer_at_not (pb : Nat) (pcs : Array Value) (s : ByteArray) (hself : pcs.toList.take 21 = contactL 0 s) (cs : List Value) (req hops : Int) (found : Bool)
    (hc0 : cs[0]? = some (.int .i64 6)) (hc1 : cs[1]? = some (.int .u64 req)) (hc65 : cs[65]? = some (.int .i64 hops)) (hor : (cs.drop 2).take 21 = contactL 0 s) (w : World)
    (hp : w.heap[pb]? = some (.cells pcs 67 (0, 0))) (Rr : World → Prop) (hRS : ∀ w', Rr w' → AnsS pb w.heap.size pcs cs w')
    (hcall : ∀ (w1 : World), Fr [] w w1 → w.heap.size < w1.heap.size → w1.heap[w.heap.size]? = some (.cells cs.toArray 73 (0, 0)) →
      Calls Yba.prog 12 #[.pointer (some ⟨pb, 0, none⟩), .int .u64 req, .agg (resL found s hops (.slice none 0 0)).toArray] w1 fun e w' => e = .returned (.tuple #[]) ∧ Rr w') :
    Calls Yba.prog 5 #[.pointer (some ⟨pb, 0, none⟩), .agg cs.toArray, .bool found] w fun e w' => e = .returned (.tuple #[]) ∧ Rr w' := by
  have hpb : pb < w.heap.size := lt_of_block hp
  have H : Hid _ := And.intro hp (And.intro hself (And.intro hor (And.intro hc1 (And.intro hc65 (And.intro hRS hcall)))))
  clear hp hself hor hc1 hc65 hRS hcall
  go_enter Yba.func5, Yba.ntmps5
  go_wp2_with fail
  obtain ⟨hp, hself, hor, hc1, hc65, hRS, hcall⟩ := H.out
  have fr := (Fr.refl [] w).alloc (.cells cs.toArray 73)
  have hS1 : AnsS pb w.heap.size pcs cs (w.alloc (.cells cs.toArray 73)) := ⟨fr.keep hp (by simp), heap_alloc_new w _⟩
  have hcall1 := hcall (w.alloc (.cells cs.toArray 73)).drew.drew fr.drew.drew (by simp [World.drew]) (heap_alloc_new w _)
  refine answer_cmp pb w.heap.size pcs s hself cs (contactL 0 s) hor rfl true (eql_self s _ _) (fun _ _ d _ _ h => by cases d <;> exact h) _ hS1 _ rfl rfl rfl ?_
  intro a1 sz1 d1 e20 eold
  go_step
  go_step
  refine wp_cond_true e20 ?_
  refine wp_seq ?_
  refine answer_fin pb w.heap.size pcs s hself cs req hops found none 0 0 hc1 hc65 (fun _ _ d _ _ h => by cases d <;> exact h) (w.alloc (.cells cs.toArray 73)).drew hS1 Rr hRS hcall1 a1 sz1 ((eold 0 (by decide)).trans rfl) ((eold 4 (by decide)).trans rfl) ((eold 2 (by decide)).trans rfl) ((eold 6 (by decide)).trans rfl) ?_
  intro a2 w2 d2 hr
  go_wp2
  exact bodyPost_ret (results_none rfl _ _ _) (d2.trans d1) ⟨rfl, hr⟩
end Go.Proofs.Ybulkaeqi
