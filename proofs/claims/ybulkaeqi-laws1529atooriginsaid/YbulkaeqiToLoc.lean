import Derived.Test.YbulkaeqiPeer
namespace Go.Proofs.Ybulkaeqi
open Go.RowKit
set_option maxRecDepth 20000 in
set_option maxHeartbeats 6000000 in
theorem law_loc (s t : ByteArray) (req hops : Int) (found : Bool) (ao : Option Addr) (n c : Nat) (strs : List Value) (hl : strs.length = n) (hn : n ≤ 1024) (hnc : n ≤ c) (hc : c ≤ maxLen) (hao : ao = none → n = 0 ∧ c = 0) (hstr : ∀ u ∈ strs, ∃ t, u = .string t)
    (w : World) (hold : ∀ b, ao = some b → ∀ j u, strs[j]? = some u → w.cell? (b.add j) = some u) :
    Calls Yba.prog 3 #[.string s, .string t, .int .u64 req, .int .i64 hops, .bool found, .bool true, .slice ao n c] w fun e w' => e = .returned (.bool true) ∧ Fr [] w w' := by
  have H : Hid _ := And.intro hl (And.intro hao (And.intro hstr hold))
  clear hl hao hstr hold
  have hmm := @run_makeMap Yba.prog
  have e1 : ∀ x s, (contactL x s)[20]? = some (.string s) := fun _ _ => rfl
  have e2 : ∀ x s t, (contactL x s).set 20 (.string t) = contactL x t := fun _ _ _ => rfl
  have e3 : ∀ x s, (contactL x s)[0]? = some (.int .u8 x) := fun _ _ => rfl
  have e4 : ∀ x s y, (contactL x s).set 0 (.int .u8 y) = contactL y s := fun _ _ _ => rfl
  have hdec : decide ((1024 : Int) < (n : Int)) = false := decide_eq_false (by omega)
  go_enter Yba.func3, Yba.ntmps3
  go_wp2_with (first
    | (refine wpList_want_alloc 31 rfl rfl (contactL 0 ByteArray.empty).toArray (by kernel_rfl) ?_)
    | (refine wpList_want_load 31 (.tmp 16) rfl rfl (w.heap.size + 1) 0 rfl (contactL 0 s) 21 rfl row31 (range_at (t := 31) (fr := (0, 0)) (by simp only [heap_get, size_al]; repeat (first | rw [if_pos trivial] | rw [if_pos rfl] | rw [if_neg (by omega)]))) ?_)
    | (refine wpList_want_build 67 #[(0, .tmp 32), (1, .tmp 34), (7, .tmp 35), (8, .tmp 36)] rfl rfl #[(0, .agg (contactL 0 s).toArray), (1, .iface 24 (.pointer (some ⟨w.heap.size, 0, none⟩))), (7, .map (some (w.heap.size + 1 + 1 + 1))), (8, .map (some (w.heap.size + 1 + 1 + 1 + 1)))] (parts4 rfl rfl rfl rfl) _ (build_peer s w.heap.size (w.heap.size + 1 + 1 + 1) (w.heap.size + 1 + 1 + 1 + 1) _) ?_)
    | (refine wpList_want_load 31 (.tmp 17) rfl rfl (w.heap.size + 1 + 1) 0 rfl (contactL 1 t) 21 rfl row31 (range_at (t := 31) (fr := (0, 0)) (by simp only [heap_get, size_al]; repeat (first | rw [if_pos trivial] | rw [if_pos rfl] | rw [if_neg (by omega)]))) ?_)
    | (refine wpList_want_build 73 #[(0, .tmp 41), (1, .tmp 42), (2, .tmp 43), (6, .tmp 44), (10, .tmp 45)] rfl rfl #[(0, .int .i64 4), (1, .int .u64 req), (2, .agg (contactL 1 t).toArray), (6, .int .i64 hops), (10, .slice ao n c)] (parts5 rfl rfl rfl rfl rfl) _ (build_msg 4 req hops 1 t ao n c _) ?_))
  obtain ⟨hl, hao, hstr, hold⟩ := H.out
  have hF : Fr [] w ((((((w.alloc (.cells #[.slice none 0 0, .slice none 0 0] 27)).alloc (.cells (contactL 0 s).toArray 31)).alloc (.cells (contactL 1 t).toArray 31)).alloc (.map #[] 0)).alloc (.map #[] 0)).alloc (.cells (peerL s w.heap.size (w.heap.size + 1 + 1 + 1) (w.heap.size + 1 + 1 + 1 + 1)).toArray 67)) :=
    ((((((Fr.refl [] w).alloc _).alloc _).alloc _).alloc _).alloc _).alloc _
  have hPe : ((((((w.alloc (.cells #[.slice none 0 0, .slice none 0 0] 27)).alloc (.cells (contactL 0 s).toArray 31)).alloc (.cells (contactL 1 t).toArray 31)).alloc (.map #[] 0)).alloc (.map #[] 0)).alloc (.cells (peerL s w.heap.size (w.heap.size + 1 + 1 + 1) (w.heap.size + 1 + 1 + 1 + 1)).toArray 67)).heap[w.heap.size + 1 + 1 + 1 + 1 + 1]? = some (.cells (peerL s w.heap.size (w.heap.size + 1 + 1 + 1) (w.heap.size + 1 + 1 + 1 + 1)).toArray 67 (0, 0)) := by
    simp only [heap_get, size_al]; repeat (first | rw [if_pos trivial] | rw [if_pos rfl] | rw [if_neg (by omega)])
  have hNe : ((((((w.alloc (.cells #[.slice none 0 0, .slice none 0 0] 27)).alloc (.cells (contactL 0 s).toArray 31)).alloc (.cells (contactL 1 t).toArray 31)).alloc (.map #[] 0)).alloc (.map #[] 0)).alloc (.cells (peerL s w.heap.size (w.heap.size + 1 + 1 + 1) (w.heap.size + 1 + 1 + 1 + 1)).toArray 67)).heap[w.heap.size]? = some (.cells #[.slice none 0 0, .slice none 0 0] 27 (0, 0)) := by
    simp only [heap_get, size_al]; repeat (first | rw [if_pos trivial] | rw [if_pos rfl] | rw [if_neg (by omega)])
  have hSe : ((((((w.alloc (.cells #[.slice none 0 0, .slice none 0 0] 27)).alloc (.cells (contactL 0 s).toArray 31)).alloc (.cells (contactL 1 t).toArray 31)).alloc (.map #[] 0)).alloc (.map #[] 0)).alloc (.cells (peerL s w.heap.size (w.heap.size + 1 + 1 + 1) (w.heap.size + 1 + 1 + 1 + 1)).toArray 67)).heap[w.heap.size + 1]? = some (.cells (contactL 0 s).toArray 31 (0, 0)) := by
    simp only [heap_get, size_al]; repeat (first | rw [if_pos trivial] | rw [if_pos rfl] | rw [if_neg (by omega)])
  generalize ((((((w.alloc (.cells #[.slice none 0 0, .slice none 0 0] 27)).alloc (.cells (contactL 0 s).toArray 31)).alloc (.cells (contactL 1 t).toArray 31)).alloc (.map #[] 0)).alloc (.map #[] 0)).alloc (.cells (peerL s w.heap.size (w.heap.size + 1 + 1 + 1) (w.heap.size + 1 + 1 + 1 + 1)).toArray 67)) = W at hF hPe hNe hSe ⊢
  refine (answer_to_loc (w.heap.size + 1 + 1 + 1 + 1 + 1) w.heap.size (peerL s w.heap.size (w.heap.size + 1 + 1 + 1) (w.heap.size + 1 + 1 + 1 + 1)).toArray s t rfl rfl rfl (by omega) (msgL 4 req (contactL 1 t) hops (.slice ao n c) false (contactL 0 ByteArray.empty)) req hops found ao n c strs rfl rfl rfl rfl rfl rfl hl hn hnc hc hao W
    (fun b hb j u hj => (hF.cell (lt_of_cell (hold b hb j u hj)) (by simp)).trans (hold b hb j u hj)) hPe hNe).mono ?_
  rintro e w1 ⟨rfl, g, cap, cur, w0, hg, hcur, htk, hf0, g1, c1, cur1, g2, c2, cur2, q1, q2, q3, q4, q5, q6, q7, q8⟩
  have hFr : Fr [w.heap.size] w w1 := ((hF.trans hf0).mono (by simp)).trans q8
  have hn0 : w1.cell? ⟨w.heap.size, 0, none⟩ = some (.slice (some ⟨g1, 0, none⟩) 1 c1) := by rw [cell_at q7]; rfl
  have hn1 : w1.cell? ⟨w.heap.size, 1, none⟩ = some (.slice (some ⟨g2, 0, none⟩) 1 c2) := by rw [cell_at q7]; rfl
  have hg1 : w1.cell? ⟨g1, 0, none⟩ = some (.string t) := by rw [cell_at q3]; exact q4
  have hself1 : w1.heap[w.heap.size + 1]? = some (.cells (contactL 0 s).toArray 31 (0, 0)) := q8.keep (hf0.keep hSe (by simp)) (by simp)
  have hr1 : w1.rangeAt g2 0 (msgL 6 req (contactL 0 ByteArray.empty) hops (.slice (some ⟨g, 0, none⟩) (n + 1) cap) found (contactL 0 s)) := take_range q5 q6
  have m0 : (msgL 6 req (contactL 0 ByteArray.empty) hops (.slice (some ⟨g, 0, none⟩) (n + 1) cap) found (contactL 0 s))[0]? = some (.int .i64 6) := rfl
  have m1 : (msgL 6 req (contactL 0 ByteArray.empty) hops (.slice (some ⟨g, 0, none⟩) (n + 1) cap) found (contactL 0 s))[1]? = some (.int .u64 req) := rfl
  have m65 : (msgL 6 req (contactL 0 ByteArray.empty) hops (.slice (some ⟨g, 0, none⟩) (n + 1) cap) found (contactL 0 s))[65]? = some (.int .i64 hops) := rfl
  have m69 : (msgL 6 req (contactL 0 ByteArray.empty) hops (.slice (some ⟨g, 0, none⟩) (n + 1) cap) found (contactL 0 s))[69]? = some (.slice (some ⟨g, 0, none⟩) (n + 1) cap) := rfl
  have m70 : (msgL 6 req (contactL 0 ByteArray.empty) hops (.slice (some ⟨g, 0, none⟩) (n + 1) cap) found (contactL 0 s))[70]? = some (.bool found) := rfl
  have m101 : (msgL 6 req (contactL 0 ByteArray.empty) hops (.slice (some ⟨g, 0, none⟩) (n + 1) cap) found (contactL 0 s))[101]? = some (.int .i64 0) := rfl
  have m102 : (msgL 6 req (contactL 0 ByteArray.empty) hops (.slice (some ⟨g, 0, none⟩) (n + 1) cap) found (contactL 0 s))[102]? = some (.int .i64 0) := rfl
  have m103 : (msgL 6 req (contactL 0 ByteArray.empty) hops (.slice (some ⟨g, 0, none⟩) (n + 1) cap) found (contactL 0 s))[103]? = some (.int .i64 0) := rfl
  have m104 : (msgL 6 req (contactL 0 ByteArray.empty) hops (.slice (some ⟨g, 0, none⟩) (n + 1) cap) found (contactL 0 s))[104]? = some (.int .i64 0) := rfl
  have mp : ((msgL 6 req (contactL 0 ByteArray.empty) hops (.slice (some ⟨g, 0, none⟩) (n + 1) cap) found (contactL 0 s)).drop 71).take 21 = contactL 0 s := rfl
  have ml := msg_len 6 req hops 0 0 ByteArray.empty s (some ⟨g, 0, none⟩) (n + 1) cap found
  have mo := msg_one 6 req hops 0 0 ByteArray.empty s (some ⟨g, 0, none⟩) (n + 1) cap found
  generalize msgL 6 req (contactL 0 ByteArray.empty) hops (.slice (some ⟨g, 0, none⟩) (n + 1) cap) found (contactL 0 s) = M at *
  have H1 : Hid _ := And.intro hFr (And.intro hr1 (And.intro ml (And.intro mo (And.intro mp (And.intro hself1 (And.intro hcur (And.intro htk (And.intro hl (And.intro hao (And.intro hstr hold))))))))))
  clear hFr hr1 ml mo mp hself1 hcur htk hl hao hstr hold H hF hPe hNe hSe hf0 q1 q2 q3 q4 q5 q6 q7 q8 e1 e2 e3 e4 hmm hdec
  have hM : M.length = 112 := H1.out.2.2.1
  have hi73' : (Yba.prog.info? 73).map (·.size) = some M.toArray.size := by rw [List.size_toArray, hM]; exact Yba.infoS73
  have hone : M.toArray.all (·.oneCell') = true := all_oneCell_toArray H1.out.2.2.2.1
  have hzc : (msgL 0 0 (contactL 0 ByteArray.empty) 0 nilS false (contactL 0 ByteArray.empty)).toArray.size = M.toArray.size := by rw [List.size_toArray, List.size_toArray, hM]; rfl
  have hR1 : (w1.alloc (.cells M.toArray 73)).rangeAt w1.heap.size 71 (contactL 0 s) := by
    have := range_drop (range_at (t := 73) (fr := (0, 0)) (heap_alloc_new w1 (.cells M.toArray 73))) 71 21
    rw [H1.out.2.2.2.2.1, Nat.zero_add] at this; exact this
  have hR2 : (w1.alloc (.cells M.toArray 73)).rangeAt (w.heap.size + 1) 0 (contactL 0 s) := range_at (t := 31) (fr := (0, 0)) (((Fr.refl [] w1).alloc _).keep H1.out.2.2.2.2.2.1 (by simp))
  have HH : Hid _ := And.intro hi73' (And.intro hone (And.intro hzc (And.intro hR1 hR2)))
  have HM : Hid _ := hM
  clear hi73' hone hzc hR1 hR2 hM
  go_upto_region 18 with fail
  go_upto_region 19 with (first
    | (refine wpList_want_load 73 (.tmp 75) rfl rfl g2 0 rfl M 112 HM.out row73 H1.out.2.1 ?_)
    | (refine wpList_want_alloc 73 rfl rfl (msgL 0 0 (contactL 0 ByteArray.empty) 0 nilS false (contactL 0 ByteArray.empty)).toArray (by kernel_rfl) ?_)
    | (refine wpList_store_new rfl 73 (.tmp 20) (.tmp 76) rfl _ M.toArray rfl rfl HH.out.1 HH.out.2.2.1 HH.out.2.1 ?_))
  go_upto_region 21 with (show wpList _ _ _ _ _ _; first
    | (refine wpList_want_load 31 (.tmp 93) rfl (by kernel_rfl) w1.heap.size 71 rfl (contactL 0 s) 21 rfl row31 HH.out.2.2.2.1 ?_)
    | (refine wpList_want_load 31 (.tmp 16) rfl (by kernel_rfl) (w.heap.size + 1) 0 rfl (contactL 0 s) 21 rfl row31 HH.out.2.2.2.2 ?_)
    | (refine wpList_neq_self s rfl (by kernel_rfl) rfl rfl ?_))
  go_wp2_with fail
  obtain ⟨hFr, hr1, ml, mo, mp, hself1, hcur, htk, hl, hao, hstr, hold⟩ := H1.out
  have fA := (Fr.refl [] w1).alloc (.cells M.toArray 73)
  refine (patheq_any g cap n c ao strs s hl hn hstr _ cur (fA.keep hcur (by simp)) htk (fun h => (hao h).1) (fun b hb j u hj => ?_)).mono ?_
  · have hc0 := hold b hb j u hj
    have hlt := lt_of_cell hc0
    have h1 : w1.cell? (b.add j) = some u := (hFr.cell hlt (by simp; omega)).trans hc0
    exact (fA.cell (lt_of_cell h1) (by simp)).trans h1
  rintro e w2 ⟨rfl, hf2⟩
  go_wp2
  go_ret
  exact ⟨rfl, (hFr.fresh (by simp)).trans (fA.trans hf2)⟩
end Go.Proofs.Ybulkaeqi
