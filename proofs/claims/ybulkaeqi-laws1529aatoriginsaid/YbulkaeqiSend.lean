import Derived.Test.YbulkaeqiRows
import Derived.Test.YbulkaeqiAux
namespace Go.Proofs.Ybulkaeqi
open Go.RowKit
def idL (x : Int) : List Value := .int .u8 x :: List.replicate 19 (.int .u8 0)
def contactL (x : Int) (s : ByteArray) : List Value := idL x ++ [.string s]
def nilS : Value := .slice none 0 0
def msgL (kind req : Int) (origin : List Value) (hops : Int) (path : Value) (found : Bool) (peer : List Value) : List Value :=
  [.int .i64 kind, .int .u64 req] ++ origin ++ [.int .u64 0] ++ contactL 0 ByteArray.empty ++ idL 0 ++ [.int .i64 hops, .bool false, .bool false, .int .i64 0, path, .bool found] ++ peer ++
    [nilS, nilS, nilS, nilS, .bool false, .int .i64 0, .int .i64 0, .bool false, .string ByteArray.empty, .int .i64 0, .int .i64 0, .int .i64 0, .int .i64 0, .int .i64 0, .bool false, nilS, nilS, .bool false, .bool false, .int .i64 0]
def zeroMsg : Value := .agg (msgL 0 0 (contactL 0 ByteArray.empty) 0 nilS false (contactL 0 ByteArray.empty)).toArray
theorem Yba.info9 : (Yba.prog.info? 9).map (fun i => (i.zero, i.size, i.bytes)) = some (some (.string ByteArray.empty), 1, 16) := by kernel_rfl
theorem Yba.info73 : (Yba.prog.info? 73).map (fun i => (i.zero, i.size, i.bytes)) = some (some zeroMsg, 112, 480) := by kernel_rfl
theorem zeroMsg_cells : zeroMsg.cells.size = 112 := by kernel_rfl
theorem Yba.infoS73 : (Yba.prog.info? 73).map (·.size) = some 112 := by kernel_rfl
/-- What the second statement leaves. -/
def SentMsg (nb : Nat) (v0 : Value) (cs : List Value) (w w' : World) : Prop :=
  ∃ g cap cur, w.heap.size ≤ g ∧ w'.heap[g]? = some (.cells cur 73 (0, 0)) ∧ cur.toList.take 112 = cs ∧ w'.heap[nb]? = some (.cells #[v0, .slice (some ⟨g, 0, none⟩) 1 cap] 27 (0, 0)) ∧ Fr [nb] w w'
theorem send_tail {Q : Exit → Act → World → Prop} (nb : Nat) (v0 : Value) (cs : List Value) (hl : cs.length = 112) (hone : ∀ u ∈ cs, u.oneCell' = true) (w0 : World)
    (hQ : ∀ a w, a.defers = [] → SentMsg nb v0 cs w0 w → Q .normal a w)
    (hP : ∀ c a d v w, Q (.panic c) (a.put d v) w → Q (.panic c) a w)
    (a : Act) (ha : a.tmps.size = 26) (hd : a.defers = []) (w : World) (h16 : a.eval (.tmp 16) = .pointer (some ⟨nb, 0, none⟩)) (h20 : a.eval (.tmp 20) = .slice none 0 0)
    (bn : Nat) (h22 : a.eval (.tmp 22) = .slice (some ⟨bn, 0, none⟩) 1 1) (hbn : w.rangeAt bn 0 cs) (hnet : w.heap[nb]? = some (.cells #[v0, .slice none 0 0] 27 (0, 0))) (hfr : Fr [nb] w0 w) :
    wpAny Yba.prog .any (opsOf Yba.f33 [1, 1]) Q 4 #[true, true, true, true, true, true, true, false, false, false, false] a w := by
  obtain ⟨i0, hi, hz0, hz1, hz2⟩ := info_parts Yba.info73
  refine wpAny_ready (rs := [7]) (by kernel_rfl) (by simp) ?_
  refine AllReady.cons (o := opAt Yba.f33 [1, 1] 7) rfl (fun K hK => ?_) AllReady.nil
  refine step_append_grows rfl (.tmp 20) (.tmp 22) 25 rfl 73 i0 zeroMsg 112 480 Yba.underlying25 hi hz0 hz1 hz2 zeroMsg_cells (by decide) none 0 0 [] h20 (fun _ => ⟨rfl, rfl⟩) rfl (fun _ h => by cases h) ⟨bn, 0, none⟩ 1 1 cs h22 (by simp [hl]) ?_ hone (by decide) (by decide) (by decide) ?_
  · intro j u hj; rw [Addr.add_mid]; exact hbn j u hj
  intro v' w' hown hgrow
  refine hK _ _ ?_
  obtain ⟨g, cap, cur, hv, hg, hcur, htk, hcap⟩ := own_form hown
  subst hv
  have hnet' : w'.heap[nb]? = some (.cells #[v0, .slice none 0 0] 27 (0, 0)) := (hgrow.block nb (lt_of_block hnet) (by simp)).trans hnet
  clear hown
  have hgn : g ≠ nb := fun e => by subst e; have := lt_of_block hnet; omega
  have a1 : (a.put (some 23) (.slice (some ⟨g, 0, none⟩) (0 + 1) cap)).eval (.tmp 16) = .pointer (some ⟨nb, 0, none⟩) := (eval_other _ _ _ _ (by decide)).trans h16
  refine wpAny_take (i := 8) (oi := opAt Yba.f33 [1, 1] 8) (v := .pointer (some ⟨nb, 0, none⟩)) rfl (by kernel_rfl) (by kernel_rfl) (by kernel_rfl) (fun _ _ _ h => hP _ _ _ _ _ h) (Or.inl ⟨rfl, fun W => run_nilCheck (.tmp 16) rfl _ a1 W⟩) ?_
  refine wpAny_take (i := 9) (oi := opAt Yba.f33 [1, 1] 9) (v := .pointer (some ⟨nb, 1, none⟩)) rfl (by kernel_rfl) (by kernel_rfl) (by kernel_rfl) (fun _ _ _ h => hP _ _ _ _ _ h) (Or.inl ⟨rfl, fun W => run_fieldAddr 27 (.tmp 24) 1 rfl ⟨nb, 0, none⟩ ⟨nb, 1, none⟩ (eval_same _ _ _ (by rw [size_put, ha]; decide)) W (by kernel_rfl)⟩) ?_
  refine wpAny_ready (rs := [10]) (by kernel_rfl) (by simp) ?_
  refine AllReady.cons (o := opAt Yba.f33 [1, 1] 10) rfl (fun K hK => step_of_wp rfl ?_) AllReady.nil
  refine wp_store_one 25 (.tmp 25) (.tmp 23) rfl ⟨nb, 1, none⟩ (.slice (some ⟨g, 0, none⟩) (0 + 1) cap) (eval_same _ _ _ (by rw [size_put, size_put, ha]; decide)) ?_ (fun _ => by kernel_rfl) rfl rfl (.slice none 0 0) (by rw [cell_at hnet']; rfl) (free_at hnet' _) ?_
  · exact (eval_other _ _ _ _ (by decide)).trans ((eval_other _ _ _ _ (by decide)).trans (eval_same _ _ _ (by rw [ha]; decide)))
  refine hK _ _ ?_
  refine wpAny_done (by kernel_rfl) ?_ _
  refine hQ _ _ hd ⟨g, cap, cur, Nat.le_trans hfr.size hg, ?_, by simpa using htk, ?_, ?_⟩
  · rw [heap_setCell_other _ _ _ _ hgn]; exact hcur
  · rw [heap_setCell_same _ _ _ _ _ _ hnet']; rfl
  · exact (hfr.grown hgrow (fun _ h => by cases h)).setCell _ (.inl (by simp)) _
set_option maxRecDepth 20000 in
set_option maxHeartbeats 400000 in
theorem send_region {Q : Exit → Act → World → Prop} (nb b : Nat) (v0 : Value) (cs : List Value) (hl : cs.length = 112) (hone : ∀ u ∈ cs, u.oneCell' = true) (w0 w : World)
    (hQ : ∀ a w, a.defers = [] → SentMsg nb v0 cs w0 w → Q .normal a w)
    (hP : ∀ c a d v w, Q (.panic c) (a.put d v) w → Q (.panic c) a w)
    (a : Act) (ha : a.tmps.size = 26) (hd : a.defers = []) (h0 : a.eval (.tmp 0) = .pointer (some ⟨nb, 0, none⟩)) (h5 : a.eval (.tmp 5) = .pointer (some ⟨b, 0, none⟩))
    (hb : w.rangeAt b 0 cs) (hnet : w.heap[nb]? = some (.cells #[v0, .slice none 0 0] 27 (0, 0))) (hfr : Fr [nb] w0 w) :
    (Code.region 2 (opsOf Yba.f33 [1, 1]) true).wp Yba.prog Q a w := by
  obtain ⟨i0, hi, hz0, hz1, hz2⟩ := info_parts Yba.info73
  have hu73 := Yba.underlying73
  refine wp_region_any (by kernel_rfl) ?_
  change wpAny _ _ _ _ 11 _ _ (World.drew _)
  refine wpAny_take (i := 0) (oi := opAt Yba.f33 [1, 1] 0) (v := .pointer (some ⟨nb, 0, none⟩)) rfl (by kernel_rfl) (by kernel_rfl) (by kernel_rfl) (fun _ _ _ h => hP _ _ _ _ _ h) (Or.inl ⟨rfl, fun W => (BigFrame.run_move (.tmp 0) rfl W).trans (by rw [h0])⟩) ?_
  generalize hA1 : a.put (opAt Yba.f33 [1, 1] 0).dst (.pointer (some ⟨nb, 0, none⟩)) = a1
  have s1 : a1.tmps.size = 26 := by rw [← hA1, size_put, ha]
  have d1 : a1.defers = [] := by rw [← hA1, defers_put, hd]
  have g0 : a1.eval (.tmp 0) = .pointer (some ⟨nb, 0, none⟩) := by rw [← hA1]; exact (eval_other _ _ _ _ (by decide)).trans h0
  have g5 : a1.eval (.tmp 5) = .pointer (some ⟨b, 0, none⟩) := by rw [← hA1]; exact (eval_other _ _ _ _ (by decide)).trans h5
  have g16 : a1.eval (.tmp 16) = .pointer (some ⟨nb, 0, none⟩) := by rw [← hA1]; exact eval_same _ _ _ (by rw [ha]; decide)
  clear hA1
  refine wpAny_take (i := 1) (oi := opAt Yba.f33 [1, 1] 1) (v := .pointer (some ⟨nb, 0, none⟩)) rfl (by kernel_rfl) (by kernel_rfl) (by kernel_rfl) (fun _ _ _ h => hP _ _ _ _ _ h) (Or.inl ⟨rfl, fun W => (BigFrame.run_move (.tmp 0) rfl W).trans (by rw [g0])⟩) ?_
  refine wpAny_take (i := 2) (oi := opAt Yba.f33 [1, 1] 2) (v := .pointer (some ⟨nb, 0, none⟩)) rfl (by kernel_rfl) (by kernel_rfl) (by kernel_rfl) (fun _ _ _ h => hP _ _ _ _ _ h) (Or.inl ⟨rfl, fun W => run_nilCheck (.tmp 17) rfl _ (eval_same _ _ _ (by rw [s1]; decide)) W⟩) ?_
  refine wpAny_take (i := 3) (oi := opAt Yba.f33 [1, 1] 3) (v := .pointer (some ⟨nb, 1, none⟩)) rfl (by kernel_rfl) (by kernel_rfl) (by kernel_rfl) (fun _ _ _ h => hP _ _ _ _ _ h) (Or.inl ⟨rfl, fun W => run_fieldAddr 27 (.tmp 18) 1 rfl ⟨nb, 0, none⟩ ⟨nb, 1, none⟩ (eval_same _ _ _ (by rw [size_put, s1]; decide)) W (by kernel_rfl)⟩) ?_
  generalize hA2 : Act.put (Act.put (Act.put a1 _ _) _ _) _ _ = a2
  have s2 : a2.tmps.size = 26 := by rw [← hA2, size_put, size_put, size_put, s1]
  have d2 : a2.defers = [] := by rw [← hA2, defers_put, defers_put, defers_put, d1]
  have k5 : a2.eval (.tmp 5) = .pointer (some ⟨b, 0, none⟩) := by rw [← hA2]; exact (eval_other _ _ _ _ (by decide)).trans ((eval_other _ _ _ _ (by decide)).trans ((eval_other _ _ _ _ (by decide)).trans g5))
  have k16 : a2.eval (.tmp 16) = .pointer (some ⟨nb, 0, none⟩) := by rw [← hA2]; exact (eval_other _ _ _ _ (by decide)).trans ((eval_other _ _ _ _ (by decide)).trans ((eval_other _ _ _ _ (by decide)).trans g16))
  have k19 : a2.eval (.tmp 19) = .pointer (some ⟨nb, 1, none⟩) := by rw [← hA2]; exact eval_same _ _ _ (by rw [size_put, size_put, s1]; decide)
  clear hA2 g0 g5 g16 d1 s1 a1 h0 h5 ha hd
  have hcell : ∀ W : World, W.heap[nb]? = some (.cells #[v0, .slice none 0 0] 27 (0, 0)) → W.cell? ⟨nb, 1, none⟩ = some (.slice none 0 0) := fun W h => by rw [cell_at h]; rfl
  have hnetD : w.drew.heap[nb]? = some (.cells #[v0, .slice none 0 0] 27 (0, 0)) := hnet
  have hbD : w.drew.rangeAt b 0 cs := hb
  have hfrD : Fr [nb] w0 w.drew := hfr.drew
  generalize w.drew = W at hnetD hbD hfrD
  clear hnet hb hfr w a
  have hsz : i0.size = cs.toArray.size := by rw [hz1]; simp [hl]
  have hzsz : zeroMsg.cells.size = cs.toArray.size := by rw [zeroMsg_cells]; simp [hl]
  have hi73 : (Yba.prog.info? 73).map (·.size) = some cs.length := by rw [hl]; exact Yba.infoS73
  have hnetA : (W.alloc (.cells cs.toArray 73)).heap[nb]? = some (.cells #[v0, .slice none 0 0] 27 (0, 0)) := (Below.heap_alloc W _ nb (lt_of_block hnetD)).trans hnetD
  have hrA : (W.alloc (.cells cs.toArray 73)).rangeAt W.heap.size 0 cs := range_at (t := 73) (fr := (0, 0)) (heap_alloc_new W _)
  have hfrA : Fr [nb] w0 (W.alloc (.cells cs.toArray 73)) := hfrD.alloc _
  refine wpAny_ready (rs := [4, 5]) (by kernel_rfl) (by simp) ?_
  refine AllReady.cons (o := opAt Yba.f33 [1, 1] 4) rfl (fun K hK => step_of_wp rfl (wp_of_run (run_load_one 25 (.tmp 19) rfl _ _ k19 W (hcell W hnetD) (by kernel_rfl)) (hK _ _ ?_))) ?_
  · refine wpAny_ready (rs := [5]) (by kernel_rfl) (by simp) ?_
    refine AllReady.cons (o := opAt Yba.f33 [1, 1] 5) rfl (fun K hK => step_of_wp rfl (wp_of_run (run_load_mid 73 (.tmp 5) rfl b 0 ((eval_other _ _ _ _ (by decide)).trans k5) cs _ W hbD hu73 rfl hi73) (hK _ _ ?_))) AllReady.nil
    refine wpAny_ready (rs := [6]) (by kernel_rfl) (by simp) ?_
    refine AllReady.cons (o := opAt Yba.f33 [1, 1] 6) rfl (fun K hK => step_of_wp rfl (wp_buildSlice_one 25 (.tmp 21) rfl 73 i0 zeroMsg cs.toArray (eval_same _ _ _ (by rw [size_put, s2]; decide)) Yba.underlying25 hi hz0 hsz hzsz (by simp [hl]) (by simp [hl]) (hK _ _ ?_))) AllReady.nil
    refine send_tail nb v0 cs hl hone w0 hQ hP _ ((size_put _ _ _).trans ((size_put _ _ _).trans ((size_put _ _ _).trans s2))) ((defers_put _ _ _).trans ((defers_put _ _ _).trans ((defers_put _ _ _).trans d2))) _ ?_ ?_ W.heap.size ?_ hrA hnetA hfrA
    · exact (eval_other _ _ _ _ (by decide)).trans ((eval_other _ _ _ _ (by decide)).trans ((eval_other _ _ _ _ (by decide)).trans k16))
    · exact (eval_other _ _ _ _ (by decide)).trans ((eval_other _ _ _ _ (by decide)).trans (eval_same _ _ _ (by rw [s2]; decide)))
    · exact eval_same _ _ _ (by rw [size_put, size_put, s2]; decide)
  refine AllReady.cons (o := opAt Yba.f33 [1, 1] 5) rfl (fun K hK => step_of_wp rfl (wp_of_run (run_load_mid 73 (.tmp 5) rfl b 0 k5 cs _ W hbD hu73 rfl hi73) (hK _ _ ?_))) AllReady.nil
  refine wpAny_ready (rs := [4, 6]) (by kernel_rfl) (by simp) ?_
  refine AllReady.cons (o := opAt Yba.f33 [1, 1] 4) rfl (fun K hK => step_of_wp rfl (wp_of_run (run_load_one 25 (.tmp 19) rfl _ _ ((eval_other _ _ _ _ (by decide)).trans k19) W (hcell W hnetD) (by kernel_rfl)) (hK _ _ ?_))) ?_
  · refine wpAny_ready (rs := [6]) (by kernel_rfl) (by simp) ?_
    refine AllReady.cons (o := opAt Yba.f33 [1, 1] 6) rfl (fun K hK => step_of_wp rfl (wp_buildSlice_one 25 (.tmp 21) rfl 73 i0 zeroMsg cs.toArray ((eval_other _ _ _ _ (by decide)).trans (eval_same _ _ _ (by rw [s2]; decide))) Yba.underlying25 hi hz0 hsz hzsz (by simp [hl]) (by simp [hl]) (hK _ _ ?_))) AllReady.nil
    refine send_tail nb v0 cs hl hone w0 hQ hP _ ((size_put _ _ _).trans ((size_put _ _ _).trans ((size_put _ _ _).trans s2))) ((defers_put _ _ _).trans ((defers_put _ _ _).trans ((defers_put _ _ _).trans d2))) _ ?_ ?_ W.heap.size ?_ hrA hnetA hfrA
    · exact (eval_other _ _ _ _ (by decide)).trans ((eval_other _ _ _ _ (by decide)).trans ((eval_other _ _ _ _ (by decide)).trans k16))
    · exact (eval_other _ _ _ _ (by decide)).trans (eval_same _ _ _ (by rw [size_put, s2]; decide))
    · exact eval_same _ _ _ (by rw [size_put, size_put, s2]; decide)
  refine AllReady.cons (o := opAt Yba.f33 [1, 1] 6) rfl (fun K hK => step_of_wp rfl (wp_buildSlice_one 25 (.tmp 21) rfl 73 i0 zeroMsg cs.toArray (eval_same _ _ _ (by rw [s2]; decide)) Yba.underlying25 hi hz0 hsz hzsz (by simp [hl]) (by simp [hl]) (hK _ _ ?_))) AllReady.nil
  refine wpAny_ready (rs := [4]) (by kernel_rfl) (by simp) ?_
  refine AllReady.cons (o := opAt Yba.f33 [1, 1] 4) rfl (fun K hK => step_of_wp rfl (wp_of_run (run_load_one 25 (.tmp 19) rfl _ _ ((eval_other _ _ _ _ (by decide)).trans ((eval_other _ _ _ _ (by decide)).trans k19)) _ (hcell _ hnetA) (by kernel_rfl)) (hK _ _ ?_))) AllReady.nil
  refine send_tail nb v0 cs hl hone w0 hQ hP _ ((size_put _ _ _).trans ((size_put _ _ _).trans ((size_put _ _ _).trans s2))) ((defers_put _ _ _).trans ((defers_put _ _ _).trans ((defers_put _ _ _).trans d2))) _ ?_ ?_ W.heap.size ?_ hrA hnetA hfrA
  · exact (eval_other _ _ _ _ (by decide)).trans ((eval_other _ _ _ _ (by decide)).trans ((eval_other _ _ _ _ (by decide)).trans k16))
  · exact eval_same _ _ _ (by rw [size_put, size_put, s2]; decide)
  · exact (eval_other _ _ _ _ (by decide)).trans (eval_same _ _ _ (by rw [size_put, s2]; decide))
/-- What Send leaves. -/
def Sent (nb : Nat) (s : ByteArray) (cs : List Value) (w w' : World) : Prop :=
  ∃ g1 c1 cur1 g2 c2 cur2, w.heap.size ≤ g1 ∧ w.heap.size ≤ g2 ∧ w'.heap[g1]? = some (.cells cur1 9 (0, 0)) ∧ cur1[0]? = some (.string s) ∧ w'.heap[g2]? = some (.cells cur2 73 (0, 0)) ∧ cur2.toList.take 112 = cs ∧
    w'.heap[nb]? = some (.cells #[.slice (some ⟨g1, 0, none⟩) 1 c1, .slice (some ⟨g2, 0, none⟩) 1 c2] 27 (0, 0)) ∧ Fr [nb] w w'
set_option maxRecDepth 20000 in
set_option maxHeartbeats 400000 in
theorem send_any (nb : Nat) (s : ByteArray) (cs : List Value) (hl : cs.length = 112) (hone : ∀ u ∈ cs, u.oneCell' = true) (w : World) (hnet : w.heap[nb]? = some (.cells #[.slice none 0 0, .slice none 0 0] 27 (0, 0))) :
    Calls Yba.prog 33 #[.pointer (some ⟨nb, 0, none⟩), .string s, .agg cs.toArray] w fun e w' => e = .returned (.tuple #[]) ∧ Sent nb s cs w w' := by
  obtain ⟨i0, hi, hz0, hz1, hz2⟩ := info_parts Yba.info9
  have hnb : nb < w.heap.size := lt_of_block hnet
  have h0 : w.cell? ⟨nb, 0, none⟩ = some (.slice none 0 0) := by rw [cell_at hnet]; rfl
  have HN : Hid (w.heap[nb]? = some (.cells #[.slice none 0 0, .slice none 0 0] 27 (0, 0))) := hnet
  have HL : Hid (cs.length = 112) := hl
  clear hnet hl
  go_enter Yba.func33, Yba.ntmps33
  go_wp2_with (first | (at_builtin; refine wpList_append_own _ rfl (.tmp 10) (.tmp 12) 23 rfl (w.heap.size + 2) 9 i0 (.string ByteArray.empty) 1 16 Yba.underlying23 hi hz0 hz1 hz2 rfl (by decide) (.slice none 0 0) 0 [] rfl (World.ownsRow_nil _ _ _ _) ⟨w.heap.size + 1, 0, none⟩ 1 1 [.string s] rfl rfl ?c1 ?c2 ?c3 ?c4 ?c5 ?_))
  case c1 => intro j u hj; match j, hj with | 0, hj => (simp at hj; subst hj; simp [Addr.add])
  case c2 => intro u hu; simp at hu; subst hu; rfl
  case c3 => decide
  case c4 => decide
  case c5 => simp
  intro v' w1 hown hgrow _
  obtain ⟨g, cap, cur, hv, hg, hcur, htk, hcap⟩ := own_form hown
  have hf1 : Fr [] w w1 := ((((Fr.refl _ w).alloc _).alloc _).grown hgrow (fun _ h => by cases h))
  have hn1 : w1.heap[nb]? = some (.cells #[.slice none 0 0, .slice none 0 0] 27 (0, 0)) := hf1.keep HN.out (by simp)
  have hb1 : w1.heap[w.heap.size]? = some (.cells cs.toArray 73 (0, 0)) := (hgrow.block w.heap.size (by simp; omega) (by intro h; cases h)).trans (heap_alloc2_old w _ _)
  have c0 : w1.cell? ⟨nb, 0, none⟩ = some (.slice none 0 0) := by rw [cell_at hn1]; rfl
  have e0 : w1.frozen? ⟨nb, 0, none⟩ = false := free_at hn1 0
  clear hown hgrow h0
  have H1 := And.intro hf1 (And.intro hn1 (And.intro hb1 (And.intro hcur htk)))
  have HH : Hid _ := H1
  clear hf1 hn1 hb1 hcur htk H1
  rw [hv]
  go_wp2_with fail
  obtain ⟨hf1, hn1, hb1, hcur, htk⟩ := HH.out
  have hgn : g ≠ nb := by omega
  have hn2 : (w1.setCell ⟨nb, 0, none⟩ (.slice (some ⟨g, 0, none⟩) 1 cap)).heap[nb]? = some (.cells #[.slice (some ⟨g, 0, none⟩) 1 cap, .slice none 0 0] 27 (0, 0)) := by rw [heap_setCell_same _ _ _ _ _ _ hn1]; rfl
  refine send_region nb w.heap.size (.slice (some ⟨g, 0, none⟩) 1 cap) cs HL.out hone (w1.setCell ⟨nb, 0, none⟩ (.slice (some ⟨g, 0, none⟩) 1 cap)) _ ?_ (fun _ _ d _ _ h => by cases d <;> exact h) _ rfl rfl rfl rfl ?_ hn2 (Fr.refl _ _)
  · intro a' w2 hd hs
    refine bodyPost_end (results_none rfl _ _ _) hd ⟨rfl, ?_⟩
    obtain ⟨g2, c2, cur2, hg2, hh2, ht2, hnet2, hf2⟩ := hs
    have hsz2 : w1.heap.size ≤ g2 := by simpa using hg2
    refine ⟨g, cap, cur, g2, c2, cur2, by omega, by have := hf1.size; omega, ?_, ?_, hh2, ht2, hnet2, ?_⟩
    · exact hf2.keep (by rw [heap_setCell_other _ _ _ _ hgn]; exact hcur) (by simp [hgn])
    · exact take_cell htk rfl
    · exact ((hf1.mono (by simp)).setCell _ (.inl (by simp)) _).trans hf2
  · have hne : w.heap.size ≠ nb := by omega
    exact range_at (t := 73) (fr := (0, 0)) (by rw [heap_setCell_other _ _ _ _ hne]; exact hb1)
end Go.Proofs.Ybulkaeqi
