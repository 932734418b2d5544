import Derived.Test.YbulkaeqiAnswer
namespace Go.Proofs.Ybulkaeqi
open Go.RowKit
set_option maxRecDepth 20000 in
set_option maxHeartbeats 400000 in
theorem answer_to_loc (pb nb : Nat) (pcs : Array Value) (s t : ByteArray) (hself : pcs.toList.take 21 = contactL 0 s) (hp21 : pcs[21]? = some (.iface 24 (.pointer (some ⟨nb, 0, none⟩)))) (hp23 : pcs[23]? = some .nilFunc) (hpn : pb ≠ nb)
    (cs : List Value) (req hops : Int) (found : Bool) (ao : Option Addr) (n c : Nat) (strs : List Value)
    (hc0 : cs[0]? = some (.int .i64 4)) (hc1 : cs[1]? = some (.int .u64 req)) (hc22 : cs[22]? = some (.string t)) (hc65 : cs[65]? = some (.int .i64 hops)) (hc69 : cs[69]? = some (.slice ao n c)) (hor : (cs.drop 2).take 21 = contactL 1 t)
    (hn : strs.length = n) (hn2 : n ≤ 1024) (hnc : n ≤ c) (hc : c ≤ maxLen) (hao : ao = none → n = 0 ∧ c = 0) (w : World) (hold : ∀ b, ao = some b → ∀ j u, strs[j]? = some u → w.cell? (b.add j) = some u)
    (hp : w.heap[pb]? = some (.cells pcs 67 (0, 0))) (hnet : w.heap[nb]? = some (.cells #[.slice none 0 0, .slice none 0 0] 27 (0, 0))) :
    Calls Yba.prog 5 #[.pointer (some ⟨pb, 0, none⟩), .agg cs.toArray, .bool found] w fun e w' => e = .returned (.tuple #[]) ∧
      ∃ g cap cur w1, w.heap.size ≤ g ∧ w'.heap[g]? = some (.cells cur 9 (0, 0)) ∧ cur.toList.take (n + 1) = strs ++ [.string s] ∧ Fr [] w w1 ∧ Sent nb t (msgL 6 req (contactL 0 ByteArray.empty) hops (.slice (some ⟨g, 0, none⟩) (n + 1) cap) found (contactL 0 s)) w1 w' := by
  have hp20 : pcs[20]? = some (.string s) := take_cell hself rfl
  have hpb : pb < w.heap.size := lt_of_block hp
  have hnb : nb < w.heap.size := lt_of_block hnet
  have H : Hid _ := And.intro hn (And.intro hp20 (And.intro hp (And.intro hold (And.intro hao (And.intro hself (And.intro hp21 (And.intro hp23 (And.intro hnet (And.intro hor (And.intro hc1 (And.intro hc22 hc65)))))))))))
  clear hn hp20 hp hold hao hself hp21 hp23 hnet hor hc1 hc22 hc65
  go_enter Yba.func5, Yba.ntmps5
  go_wp2_with fail
  obtain ⟨hn, hp20, hp, hold, hao, hself, hp21, hp23, hnet, hor, hc1, hc22, hc65⟩ := H.out
  have fr := (Fr.refl [] w).alloc (.cells cs.toArray 73)
  refine (visit_any pb pcs s hp20 strs n c hn hn2 hnc hc _ ao hao (fr.keep hp (by simp)) (fun b hb j u hj => (fr.cell (lt_of_cell (hold b hb j u hj)) (by simp)).trans (hold b hb j u hj))).mono ?_
  rintro e w1 ⟨v, rfl, g, cap, cur, rfl, hg, hcur, htk, hcap, hf1⟩
  rw [hn] at htk ⊢
  clear hn hp20 hold hao
  have hmb : w1.heap[w.heap.size]? = some (.cells cs.toArray 73 (0, 0)) := hf1.keep (heap_alloc_new w _) (by simp)
  have hS1 : AnsS pb w.heap.size pcs cs w1 := ⟨hf1.keep (fr.keep hp (by simp)) (by simp), hmb⟩
  have hnet1 := hf1.keep (fr.keep hnet (by simp)) (by simp)
  have H2 : Hid _ := And.intro hS1 (And.intro hself (And.intro hp21 (And.intro hp23 (And.intro hnet1 (And.intro hor (And.intro hc1 (And.intro hc22 (And.intro hc65 (And.intro hcur (And.intro htk (And.intro (fr.trans hf1) hf1)))))))))))
  clear hS1 hself hp21 hp23 hnet1 hor hc1 hc22 hc65 hcur htk hp hnet hmb fr hf1 H
  go_wp2_with fail
  obtain ⟨hS1, hself, hp21, hp23, hnet1, hor, hc1, hc22, hc65, hcur, htk, hfw, hf1⟩ := H2.out
  refine answer_cmp pb w.heap.size pcs s hself cs (contactL 1 t) hor rfl false (eql_origin s t _ _) (fun _ _ d _ _ h => by cases d <;> exact h) w1 hS1 _ rfl rfl rfl ?_
  intro a1 sz1 d1 e20 eold
  go_wp2_with fail
  refine wp_cond_false e20 ?_
  go_wp2_with fail
  refine answer_send pb w.heap.size nb pcs s t hself cs req hops found (some ⟨g, 0, none⟩) (n + 1) cap hc22 hc1 hc65 hp21 hp23 hpn (by omega) (fun _ _ d _ _ h => by cases d <;> exact h) w1.drew hS1 hnet1 a1 sz1 ((eold 0 (by decide)).trans rfl) ((eold 4 (by decide)).trans rfl) ((eold 2 (by decide)).trans rfl) ((eold 6 (by decide)).trans rfl) ?_
  intro a2 w2 d2 hs
  refine bodyPost_end (results_none rfl _ _ _) (d2.trans d1) ⟨rfl, g, cap, cur, w1.drew.drew, ?_, ?_, htk, hfw.drew.drew, hs⟩
  · simp at hg; omega
  · obtain ⟨g1, c1, cur1, g2, c2, cur2, e1, e2, e3, e4, e5, e6, e7, e8⟩ := hs
    exact e8.keep (k := g) hcur (by simp at hg ⊢; omega)
set_option maxRecDepth 20000 in
set_option maxHeartbeats 400000 in
theorem answer_to_not (pb nb : Nat) (pcs : Array Value) (s t : ByteArray) (hself : pcs.toList.take 21 = contactL 0 s) (hp21 : pcs[21]? = some (.iface 24 (.pointer (some ⟨nb, 0, none⟩)))) (hp23 : pcs[23]? = some .nilFunc) (hpn : pb ≠ nb)
    (cs : List Value) (req hops : Int) (found : Bool)
    (hc0 : cs[0]? = some (.int .i64 6)) (hc1 : cs[1]? = some (.int .u64 req)) (hc22 : cs[22]? = some (.string t)) (hc65 : cs[65]? = some (.int .i64 hops)) (hor : (cs.drop 2).take 21 = contactL 1 t) (w : World)
    (hp : w.heap[pb]? = some (.cells pcs 67 (0, 0))) (hnet : w.heap[nb]? = some (.cells #[.slice none 0 0, .slice none 0 0] 27 (0, 0))) :
    Calls Yba.prog 5 #[.pointer (some ⟨pb, 0, none⟩), .agg cs.toArray, .bool found] w fun e w' => e = .returned (.tuple #[]) ∧
      ∃ w1, Fr [] w w1 ∧ Sent nb t (msgL 6 req (contactL 0 ByteArray.empty) hops (.slice none 0 0) found (contactL 0 s)) w1 w' := by
  have hpb : pb < w.heap.size := lt_of_block hp
  have hnb : nb < w.heap.size := lt_of_block hnet
  have H : Hid _ := And.intro hp (And.intro hself (And.intro hp21 (And.intro hp23 (And.intro hnet (And.intro hor (And.intro hc1 (And.intro hc22 hc65)))))))
  clear hp hself hp21 hp23 hnet hor hc1 hc22 hc65
  go_enter Yba.func5, Yba.ntmps5
  go_wp2_with fail
  obtain ⟨hp, hself, hp21, hp23, hnet, hor, hc1, hc22, hc65⟩ := H.out
  have fr := (Fr.refl [] w).alloc (.cells cs.toArray 73)
  have hS1 : AnsS pb w.heap.size pcs cs (w.alloc (.cells cs.toArray 73)) := ⟨fr.keep hp (by simp), heap_alloc_new w _⟩
  have hnet1 := fr.keep hnet (by simp)
  refine answer_cmp pb w.heap.size pcs s hself cs (contactL 1 t) hor rfl false (eql_origin s t _ _) (fun _ _ d _ _ h => by cases d <;> exact h) _ hS1 _ rfl rfl rfl ?_
  intro a1 sz1 d1 e20 eold
  go_wp2_with fail
  refine wp_cond_false e20 ?_
  go_wp2_with fail
  refine answer_send pb w.heap.size nb pcs s t hself cs req hops found none 0 0 hc22 hc1 hc65 hp21 hp23 hpn (by omega) (fun _ _ d _ _ h => by cases d <;> exact h) (w.alloc (.cells cs.toArray 73)).drew hS1 hnet1 a1 sz1 ((eold 0 (by decide)).trans rfl) ((eold 4 (by decide)).trans rfl) ((eold 2 (by decide)).trans rfl) ((eold 6 (by decide)).trans rfl) ?_
  intro a2 w2 d2 hs
  exact bodyPost_end (results_none rfl _ _ _) (d2.trans d1) ⟨rfl, _, fr.drew.drew, hs⟩
end Go.Proofs.Ybulkaeqi
