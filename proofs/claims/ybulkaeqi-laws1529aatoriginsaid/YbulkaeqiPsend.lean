import Derived.Test.YbulkaeqiSend
namespace Go.Proofs.Ybulkaeqi
open Go.RowKit
theorem set_same {l : List Value} {i : Nat} {v : Value} (h : l[i]? = some v) : l.set i v = l := by
  apply List.ext_getElem?
  intro j
  rw [List.getElem?_set]
  split
  · rename_i e; subst e
    split
    · exact h.symm
    · rename_i h'; exact absurd (List.getElem?_eq_some_iff.1 h).1 h'
  · rfl
theorem method_send (nb : Nat) (s : ByteArray) (cs : Array Value) (w : World) : (callMethod (.iface 24 (.pointer (some ⟨nb, 0, none⟩))) "Send" #[.string s, .agg cs]).run Yba.prog w = .ok (.enter 33 #[.pointer (some ⟨nb, 0, none⟩), .string s, .agg cs]) w := by kernel_rfl
set_option maxRecDepth 20000 in
set_option maxHeartbeats 400000 in
theorem psend_region {Q : Exit → Act → World → Prop} (pb nb b : Nat) (pcs : Array Value) (s : ByteArray) (cs : List Value) (hl : cs.length = 112) (hone : ∀ u ∈ cs, u.oneCell' = true) (w : World)
    (hQ : ∀ a w', a.defers = [] → Sent nb s cs w w' → Q .normal a w')
    (hP : ∀ c a d v w, Q (.panic c) (a.put d v) w → Q (.panic c) a w)
    (a : Act) (ha : a.tmps.size = 25) (hd : a.defers = []) (h0 : a.eval (.tmp 0) = .pointer (some ⟨pb, 0, none⟩)) (h1 : a.eval (.tmp 1) = .string s) (h5 : a.eval (.tmp 5) = .pointer (some ⟨b, 0, none⟩))
    (hp : w.heap[pb]? = some (.cells pcs 67 (0, 0))) (hp21 : pcs[21]? = some (.iface 24 (.pointer (some ⟨nb, 0, none⟩))))
    (hb : w.rangeAt b 0 cs) (hbs : b < w.heap.size) (hbn : b ≠ nb) (hpn : pb ≠ nb) (hnet : w.heap[nb]? = some (.cells #[.slice none 0 0, .slice none 0 0] 27 (0, 0))) :
    (Code.region 4 (opsOf Yba.f13 [1, 1, 1]) true).wp Yba.prog Q a w := by
  have hu73 := Yba.underlying73
  have hi73 : (Yba.prog.info? 73).map (·.size) = some cs.length := by rw [hl]; exact Yba.infoS73
  refine wp_region_held (S := fun W => W.heap[pb]? = some (.cells pcs 67 (0, 0)) ∧ W.rangeAt b 0 cs) (by kernel_rfl) ?_
  change wpAnyH _ _ _ _ _ 7 _ _ (World.drew _)
  have hS : w.drew.heap[pb]? = some (.cells pcs 67 (0, 0)) ∧ w.drew.rangeAt b 0 cs := ⟨hp, hb⟩
  have hsent : ∀ w', Sent nb s cs w.drew w' → Sent nb s cs w w' := fun w' ⟨g1, c1, cur1, g2, c2, cur2, e1, e2, e3, e4, e5, e6, e7, e8⟩ => ⟨g1, c1, cur1, g2, c2, cur2, e1, e2, e3, e4, e5, e6, e7, ⟨e8.os, e8.tape, e8.output, e8.size, e8.block⟩⟩
  have hnetD : w.drew.heap[nb]? = some (.cells #[.slice none 0 0, .slice none 0 0] 27 (0, 0)) := hnet
  have hbsD : b < w.drew.heap.size := hbs
  refine wpAnyH_take (i := 0) (oi := opAt Yba.f13 [1, 1, 1] 0) (v := .pointer (some ⟨pb, 0, none⟩)) rfl (by kernel_rfl) (by kernel_rfl) (by kernel_rfl) (fun _ _ _ h => hP _ _ _ _ _ h) (Or.inl ⟨rfl, fun W _ => (BigFrame.run_move (.tmp 0) rfl W).trans (by rw [h0])⟩) hS ?_
  refine wpAnyH_take (i := 1) (oi := opAt Yba.f13 [1, 1, 1] 1) (v := .pointer (some ⟨pb, 0, none⟩)) rfl (by kernel_rfl) (by kernel_rfl) (by kernel_rfl) (fun _ _ _ h => hP _ _ _ _ _ h) (Or.inl ⟨rfl, fun W _ => run_nilCheck (.tmp 18) rfl _ (eval_same _ _ _ (by rw [ha]; decide)) W⟩) hS ?_
  refine wpAnyH_take (i := 2) (oi := opAt Yba.f13 [1, 1, 1] 2) (v := .pointer (some ⟨pb, 21, none⟩)) rfl (by kernel_rfl) (by kernel_rfl) (by kernel_rfl) (fun _ _ _ h => hP _ _ _ _ _ h) (Or.inl ⟨rfl, fun W _ => run_fieldAddr 67 (.tmp 19) 1 rfl ⟨pb, 0, none⟩ ⟨pb, 21, none⟩ (eval_same _ _ _ (by rw [size_put, ha]; decide)) W (by kernel_rfl)⟩) hS ?_
  refine wpAnyH_take (i := 3) (oi := opAt Yba.f13 [1, 1, 1] 3) (v := .iface 24 (.pointer (some ⟨nb, 0, none⟩))) rfl (by kernel_rfl) (by kernel_rfl) (by kernel_rfl) (fun _ _ _ h => hP _ _ _ _ _ h) (Or.inl ⟨rfl, fun W hW => run_load_one 36 (.tmp 20) rfl ⟨pb, 21, none⟩ _ (eval_same _ _ _ (by rw [size_put, size_put, ha]; decide)) W (by rw [cell_at hW.1]; exact hp21) (by kernel_rfl)⟩) hS ?_
  generalize hA2 : Act.put (Act.put (Act.put (Act.put a _ _) _ _) _ _) _ _ = a2
  have s2 : a2.tmps.size = 25 := by rw [← hA2, size_put, size_put, size_put, size_put, ha]
  have d2 : a2.defers = [] := by rw [← hA2, defers_put, defers_put, defers_put, defers_put, hd]
  have k5 : a2.eval (.tmp 5) = .pointer (some ⟨b, 0, none⟩) := by rw [← hA2]; exact (eval_other _ _ _ _ (by decide)).trans ((eval_other _ _ _ _ (by decide)).trans ((eval_other _ _ _ _ (by decide)).trans ((eval_other _ _ _ _ (by decide)).trans h5)))
  have k1 : a2.eval (.tmp 1) = .string s := by rw [← hA2]; exact (eval_other _ _ _ _ (by decide)).trans ((eval_other _ _ _ _ (by decide)).trans ((eval_other _ _ _ _ (by decide)).trans ((eval_other _ _ _ _ (by decide)).trans h1)))
  have k21 : a2.eval (.tmp 21) = .iface 24 (.pointer (some ⟨nb, 0, none⟩)) := by rw [← hA2]; exact eval_same _ _ _ (by rw [size_put, size_put, size_put, ha]; decide)
  clear hA2 h0 h1 h5
  refine wpAnyH_take (i := 4) (oi := opAt Yba.f13 [1, 1, 1] 4) (v := .string s) rfl (by kernel_rfl) (by kernel_rfl) (by kernel_rfl) (fun _ _ _ h => hP _ _ _ _ _ h) (Or.inl ⟨rfl, fun W _ => (BigFrame.run_move (.tmp 1) rfl W).trans (by rw [k1])⟩) hS ?_
  refine wpAnyH_take (i := 5) (oi := opAt Yba.f13 [1, 1, 1] 5) (v := .agg cs.toArray) rfl (by kernel_rfl) (by kernel_rfl) (by kernel_rfl) (fun _ _ _ h => hP _ _ _ _ _ h) (Or.inl ⟨rfl, fun W hW => run_load_mid 73 (.tmp 5) rfl b 0 ((eval_other _ _ _ _ (by decide)).trans k5) cs _ W hW.2 hu73 rfl hi73⟩) hS ?_
  refine held_one (i := 6) (o := opAt Yba.f13 [1, 1, 1] 6) (by kernel_rfl) rfl rfl ?_
  refine wp_enter (run_invoke (.tmp 21) "Send" #[.tmp 22, .tmp 23] #[9, 73] rfl _ ((eval_other _ _ _ _ (by decide)).trans ((eval_other _ _ _ _ (by decide)).trans k21)) #[.string s, .agg cs.toArray] _ 33 ?_ _ (method_send nb s cs.toArray _)) ?_
  · have e22 : (Act.put (a2.put (some 22) (.string s)) (some 23) (.agg cs.toArray)).eval (.tmp 22) = .string s := (eval_other _ _ _ _ (by decide)).trans (eval_same _ _ _ (by rw [s2]; decide))
    have e23 : (Act.put (a2.put (some 22) (.string s)) (some 23) (.agg cs.toArray)).eval (.tmp 23) = .agg cs.toArray := eval_same _ _ _ (by rw [size_put, s2]; decide)
    rw [List.map_toArray, List.map_cons, List.map_cons, List.map_nil]
    exact congrArg List.toArray (by rw [e22, e23])
  refine (send_any nb s cs hl hone w.drew hnetD).mono ?_
  rintro e w' ⟨rfl, hs⟩
  refine ⟨_, rfl, ?_, ?_⟩
  · obtain ⟨g1, c1, cur1, g2, c2, cur2, e1, e2, e3, e4, e5, e6, e7, e8⟩ := hs
    exact ⟨e8.keep hS.1 (by simpa using hpn), e8.range hS.2 hbsD (by simpa using hbn)⟩
  · refine wpAnyH_done (by kernel_rfl) ?_ _
    exact hQ _ _ d2 (hsent _ hs)
set_option maxRecDepth 20000 in
set_option maxHeartbeats 400000 in
theorem psend_any (pb nb : Nat) (pcs : Array Value) (s : ByteArray) (cs : List Value) (hl : cs.length = 112) (hone : ∀ u ∈ cs, u.oneCell' = true)
    (h1 : cs[101]? = some (.int .i64 0)) (h2 : cs[102]? = some (.int .i64 0)) (h3 : cs[103]? = some (.int .i64 0)) (h4 : cs[104]? = some (.int .i64 0)) (w : World)
    (hp : w.heap[pb]? = some (.cells pcs 67 (0, 0))) (hp21 : pcs[21]? = some (.iface 24 (.pointer (some ⟨nb, 0, none⟩)))) (hp23 : pcs[23]? = some .nilFunc)
    (hpn : pb ≠ nb) (hnet : w.heap[nb]? = some (.cells #[.slice none 0 0, .slice none 0 0] 27 (0, 0))) :
    Calls Yba.prog 13 #[.pointer (some ⟨pb, 0, none⟩), .string s, .agg cs.toArray] w fun e w' => e = .returned (.tuple #[]) ∧ Sent nb s cs w w' := by
  have hpb : pb < w.heap.size := lt_of_block hp
  have hnb : nb < w.heap.size := lt_of_block hnet
  have cp : w.cell? ⟨pb, 23, none⟩ = some .nilFunc := by rw [cell_at hp]; exact hp23
  have H : Hid _ := And.intro hl (And.intro hp (And.intro hp21 (And.intro hp23 hnet)))
  clear hl hp hp21 hp23 hnet
  have hneq : ∀ w, (binOp .neq 39 .nilFunc .nilFunc).run Yba.prog w = .ok (.bool false) w := fun _ => by kernel_rfl
  go_enter Yba.func13, Yba.ntmps13
  go_wp2_with fail
  rw [set_same h1, set_same h2, set_same h3, set_same h4]
  obtain ⟨hl, hp, hp21, hp23, hnet⟩ := H.out
  have fr := (Fr.refl [] w).alloc (.cells cs.toArray 73)
  refine psend_region pb nb w.heap.size pcs s cs hl hone (w.alloc (.cells cs.toArray 73)) ?_ (fun _ _ d _ _ h => by cases d <;> exact h) _ rfl rfl rfl rfl rfl (fr.keep hp (by simp)) hp21 (range_at (t := 73) (fr := (0, 0)) (heap_alloc_new w _)) (by simp) (by omega) hpn (fr.keep hnet (by simp))
  intro a' w' hd hs
  refine bodyPost_end (results_none rfl _ _ _) hd ⟨rfl, ?_⟩
  obtain ⟨g1, c1, cur1, g2, c2, cur2, e1, e2, e3, e4, e5, e6, e7, e8⟩ := hs
  exact ⟨g1, c1, cur1, g2, c2, cur2, by have := fr.size; omega, by have := fr.size; omega, e3, e4, e5, e6, e7, (fr.mono (by simp)).trans e8⟩
end Go.Proofs.Ybulkaeqi
