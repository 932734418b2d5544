import Derived.Test.YbulkaeqiAtG
import Derived.Test.YbulkaeqiPatheq
namespace Go.Proofs.Ybulkaeqi
open Go.RowKit
def SubA : List (Nat × Value) → Act → Prop
  | [], _ => True
  | (j, v) :: K, a => a.eval (.tmp j) = v ∧ SubA K a
theorem Fm.of {n : Nat} {K : List (Nat × Value)} {a : Act} (h1 : a.tmps.size = n) (h2 : a.defers = []) (h : SubA K a) : Fm n K a := by
  refine ⟨h1, h2, fun i v hi => ?_⟩
  induction K with
  | nil => cases hi
  | cons p K ih =>
    obtain ⟨j, u⟩ := p
    cases hb : Nat.beq j i with
    | true =>
      have hj : j = i := Nat.eq_of_beq_eq_true hb
      have hu : u = v := by simpa [look, hb] using hi
      subst hj; subst hu; exact h.1
    | false => exact ih h.2 (by simpa [look, hb] using hi)
/-- What the answer leaves where the request was pending. -/
def After (N : Nat) (ah we : Bool) (rcs : List Value) (w W' : World) : Prop :=
  Fr [N + 5, N + 6, N + 2, N + 3] w W' ∧ (∃ B, Log (N + 5) B ([0] ++ two ah ++ [1] ++ three we) W') ∧ (∃ c1, W'.heap[N + 2]? = some (.map #[] c1)) ∧ (∃ c2, W'.heap[N + 3]? = some (.map #[] c2)) ∧
    ∃ g c cur, W'.heap[g]? = some (.cells cur 80 (0, 0)) ∧ cur.toList.take 24 = rcs ∧ W'.heap[N + 6]? = some (.cells #[.slice (some ⟨g, 0, none⟩) 1 c] 77 (0, 0))
theorem After.of {N c1 c2 : Nat} {ah we : Bool} {rcs : List Value} {w w1 W' : World} (hf : Fr [] w w1) (h : Fin (N + 5) (N + 6) (N + 2) (N + 3) c1 c2 ah we rcs (w1.heap.size + 1) w1 W') : After N ah we rcs w W' := by
  obtain ⟨h1, h2, h3, h4, h5⟩ := h
  have h6 : F3 (w1.heap.size + 1) [N + 5, N + 6, N + 2, N + 3] w W' := ((F3.of_fr hf).mono (by simp)).trans h4
  exact ⟨h6.fr (by have := hf.size; omega), ⟨_, h1⟩, ⟨_, h2⟩, ⟨_, h3⟩, h5⟩
/-- The path that the answer hands on. -/
def PathV (loc : Bool) (strs : List Value) (s : ByteArray) (va : Option Addr) (vn vc : Nat) (W : World) : Prop :=
  match loc with
  | false => va = none ∧ vn = 0 ∧ vc = 0
  | true => ∃ g cur, va = some ⟨g, 0, none⟩ ∧ vn = strs.length + 1 ∧ W.heap[g]? = some (.cells cur 9 (0, 0)) ∧ cur.toList.take (strs.length + 1) = strs ++ [.string s]
set_option maxRecDepth 20000 in
/-- Everything behind the answer, the request pending. -/
theorem at_yes {Q : Exit → Act → World → Prop} (s : ByteArray) (req fst hops : Int) (found loc ah we : Bool) (ao : Option Addr) (n c : Nat) (strs : List Value) (hl : strs.length = n) (hn : n ≤ 1024) (hao : ao = none → n = 0 ∧ c = 0) (hstr : ∀ u ∈ strs, ∃ t, u = .string t) (a : Act) (N : Nat) (w W2 : World)
    (hP : ∀ c a d v w, Q (.panic c) (Act.put a d v) w → Q (.panic c) a w) (hK : Fm 184 (K1 N s req fst hops found loc true ah we (.slice ao n c)) a) (va : Option Addr) (vn vc : Nat) (hA : After N ah we (resL found s hops (.slice va vn vc)) w W2) (hV : PathV loc strs s va vn vc W2)
    (hp : w.heap[N + 4]? = some (.cells (peerL s (N + 0) (N + 2) (N + 3)).toArray 67 (0, 0))) (hself : w.heap[N + 1]? = some (.cells (contactL 0 s).toArray 31 (0, 0)))
    (hold : ∀ W, Fr [] W2 W → ∀ b, ao = some b → ∀ j u, strs[j]? = some u → W.cell? (b.add j) = some u)
    (h : ∀ a W, Fm 184 [(20, .bool true)] a → Fr [] W2 W → Q .ret a W) :
    Code.wp Yba.prog (codeOf Yba.f4 [1, 1, 1, 1, 1, 1, 1, 1, 1, 1, 1, 1, 1, 1, 1, 1]) Q a W2 := by
  obtain ⟨hF, ⟨B, hlog⟩, ⟨c1, hm1⟩, ⟨c2, hm2⟩, rg, rc, rcur, hrow, htk, hres⟩ := hA
  have hp2 := hF.keep hp (by simp)
  have hself2 := hF.keep hself (by simp)
  have hLlen : ([0] ++ two ah ++ [1] ++ three we).length ≤ 10 := by cases ah <;> cases we <;> decide
  have hLpos : ∃ m, ([0] ++ two ah ++ [1] ++ three we).length = m + 1 := ⟨([0] ++ two ah ++ [1] ++ three we).length - 1, by simp⟩
  refine at_g s req fst hops found loc ah we _ a N W2 hK fun a v w3 hK hW => ?_
  refine at_h s req fst hops found loc ah we _ a N W2 w3 v [0] (by decide) hK hW fun a v w4 hK hW => ?_
  refine at_i s req fst hops found loc ah we _ a N W2 w4 v _ (by cases ah <;> decide) hK hW fun a v w5 hK hW => ?_
  refine at_j s req fst hops found loc ah we _ a N W2 w5 v _ (by cases ah <;> decide) hK hW fun a v w6 hK hW => ?_
  generalize [0] ++ two ah ++ [1] ++ three we = L at *
  obtain ⟨hown, hF6⟩ := hW
  obtain ⟨lv, hlv, hlown, _⟩ := hlog
  obtain ⟨m, hm⟩ := hLpos
  have hown' := hown
  have hlown' := hlown
  rw [hm] at hown' hlown'
  obtain ⟨g, cap, cur, hlveq, _, hgrow, hgtk, _⟩ := own_form hlown'
  obtain ⟨g', cap', cur', hveq, _, hgrow', hgtk', _⟩ := own_form hown'
  rw [← hm] at hlveq hveq
  subst hlveq; subst hveq
  have hg6 := hF6.keep hgrow (by simp)
  have hlog6 := hF6.keep hlv (by simp)
  have o1 : onesAt L g w6 := fun j u hj => (cell_at hg6 j).trans (take_cell hgtk hj)
  have o2 : onesAt L g' w6 := fun j u hj => (cell_at hgrow' j).trans (take_cell hgtk' hj)
  refine at_k s req fst hops found loc ah we _ a N w6 L g g' cap cap' hK hlog6 fun a hK => ?_
  refine at_l s req fst hops found loc ah we _ a N w6 L hLlen g g' cap cap' hP hK hlog6 o1 o2 (lt_of_block hg6) (lt_of_block hgrow') fun a w7 hK hF7 => ?_
  have hF27 := hF6.trans hF7
  refine at_m s req fst hops found loc ah we _ a N w7 c1 c2 rg rc hK (hF27.keep hp2 (by simp)) (hF27.keep hm1 (by simp)) (hF27.keep hm2 (by simp)) (hF27.keep hres (by simp)) fun a hK => ?_
  refine at_n s req fst hops found loc ah we _ a N w7 rg rc rcur va vn vc hK (hF27.keep hres (by simp)) (hF27.keep hrow (by simp)) htk fun a hK => ?_
  have hF28 := hF27.alloc (.cells (resL found s hops (.slice va vn vc)).toArray 80)
  refine at_o s req fst hops found loc ah we _ a N _ w7.heap.size va vn vc hK (hF28.keep hself2 (by simp)) (heap_alloc_new _ _) ?_ fun a W hK hFW => h a W hK (hF28.trans hFW)
  cases loc with
  | false =>
    obtain ⟨rfl, rfl, rfl⟩ := hV
    exact patheq_no _ s _ none 0
  | true =>
    obtain ⟨pg, pcur, rfl, rfl, hpg, hptk⟩ := hV
    subst hl
    exact patheq_any pg vc _ c ao strs s rfl hn hstr _ pcur (hF28.keep hpg (by simp)) hptk (fun e => (hao e).1) (hold _ hF28)

theorem peer_self (s : ByteArray) (nb m1 m2 : Nat) : (peerL s nb m1 m2).toArray.toList.take 21 = contactL 0 s := by kernel_rfl
theorem peer33 (s : ByteArray) (nb m1 m2 : Nat) : (peerL s nb m1 m2).toArray[33]? = some (.map (some m1)) := by kernel_rfl
theorem peer34 (s : ByteArray) (nb m1 m2 : Nat) : (peerL s nb m1 m2).toArray[34]? = some (.map (some m2)) := by kernel_rfl
set_option maxRecDepth 20000 in
/-- Everything from the answer on. -/
theorem at_call {Q : Exit → Act → World → Prop} (s : ByteArray) (req fst hops : Int) (found loc ph ah we : Bool) (ao : Option Addr) (n c : Nat) (strs : List Value) (hl : strs.length = n) (hn : n ≤ 1024) (hnc : n ≤ c) (hc : c ≤ maxLen) (hao : ao = none → n = 0 ∧ c = 0) (hstr : ∀ u ∈ strs, ∃ t, u = .string t) (a : Act) (w0 w : World)
    (hold : ∀ b, ao = some b → ∀ j u, strs[j]? = some u → w0.cell? (b.add j) = some u)
    (hP : ∀ c a d v w, Q (.panic c) (Act.put a d v) w → Q (.panic c) a w) (hK : Fm 184 (K1 w0.heap.size s req fst hops found loc ph ah we (.slice ao n c)) a)
    (hW : Wd w0 (awS ah) (awB ah w0.heap.size ++ B2 w0.heap.size s req fst ph we (awM ah w0.heap.size fst)) w)
    (h : ∀ a W, Fm 184 [(20, .bool true)] a → Fr [] w0 W → Q .ret a W) :
    Code.wp Yba.prog (codeOf Yba.f4 [1, 1, 1, 1, 1, 1, 1, 1, 1, 1, 1, 1]) Q a w := by
  generalize hN : w0.heap.size = N at *
  have hB : ∀ k o, lookB (B2 N s req fst ph we (awM ah N fst)) k = some o → k ≠ 8 → w.heap[N + k]? = some o := fun k o hk h8 => by
    have := hW.get k o
    rw [hN] at this
    refine this ?_
    cases ah with
    | false => exact hk
    | true =>
      show (match Nat.beq 8 k with | true => _ | false => _) = _
      rw [show Nat.beq 8 k = false from by rw [← Bool.not_eq_true, Nat.beq_eq]; omega]
      exact hk
  have q0 := hB 0 _ rfl (by decide)
  have q1 := hB 1 _ rfl (by decide)
  have q2 := hB 2 _ rfl (by decide)
  have q3 := hB 3 _ rfl (by decide)
  have q4 := hB 4 _ rfl (by decide)
  have q5 := hB 5 _ rfl (by decide)
  have q6 := hB 6 _ rfl (by decide)
  have q7 := hB 7 _ rfl (by decide)
  have hfr : Fr [] w0 w := hW.fr
  have haw : Aw (N + 3) (N + 8) (N + 5) fst (if ah then 1 else 0) ah w := by
    cases ah with
    | false => exact q3
    | true =>
      refine ⟨0, (awaitL (N + 5)).toArray, q3, ?_, by kernel_rfl⟩
      have := hW.get 8 _ rfl
      rwa [hN] at this
  -- strings stand in w as they stood
  have hcellw0 : ∀ b, ao = some b → ∀ j u, strs[j]? = some u → (b.add j).block < w0.heap.size := fun b hb j u hj => by
    have := hold b hb j u hj
    unfold World.cell? at this
    cases hx : w0.heap[(b.add j).block]? with
    | none => simp [hx] at this
    | some o => exact lt_of_block hx
  have hold' : ∀ W, Fr [] w0 W → ∀ b, ao = some b → ∀ j u, strs[j]? = some u → W.cell? (b.add j) = some u := fun W hF b hb j u hj => (hF.cell (hcellw0 b hb j u hj) (by simp)).trans (hold b hb j u hj)
  generalize hcs : msgL (kindOf loc) req (contactL 0 s) hops (.slice ao n c) false (contactL 0 ByteArray.empty) = cs at *
  have e0 : cs[0]? = some (.int .i64 (kindOf loc)) := by rw [← hcs]; kernel_rfl
  have e1 : cs[1]? = some (.int .u64 req) := by rw [← hcs]; kernel_rfl
  have e65 : cs[65]? = some (.int .i64 hops) := by rw [← hcs]; kernel_rfl
  have e69 : cs[69]? = some (.slice ao n c) := by rw [← hcs]; kernel_rfl
  have eor : (cs.drop 2).take 21 = contactL 0 s := by rw [← hcs]; kernel_rfl
  have hsz8 : N + 8 ≤ w.heap.size := by
    rw [hW.size, hN]; cases ah <;> simp [awS]
  cases ph with
  | false =>
    have hfin : ∀ (w1 : World) (rcs : List Value), Fr [] w w1 → w1.heap[w.heap.size]? = some (.cells cs.toArray 73 (0, 0)) → Calls Yba.prog 12 #[.pointer (some ⟨N + 4, 0, none⟩), .int .u64 req, .agg rcs.toArray] w1 fun e w' => e = .returned (.tuple #[]) ∧ (AnsS (N + 4) w.heap.size (peerL s (N + 0) (N + 2) (N + 3)).toArray cs w' ∧ Fr [] w w') := by
      intro w1 rcs hf hmsg
      refine (finish_none (N + 4) (N + 2) _ req 0 rcs w1 (hf.keep q4 (by simp)) (peer33 _ _ _ _) (hf.keep q2 (by simp))).mono ?_
      rintro e w' ⟨he, hf'⟩
      exact ⟨he, ⟨(hf.trans hf').keep q4 (by simp), hf'.keep hmsg (by simp)⟩, hf.trans hf'⟩
    refine at_e s req fst hops found loc false ah we ao n c a N w hK q1 (fun w' => AnsS (N + 4) w.heap.size (peerL s (N + 0) (N + 2) (N + 3)).toArray cs w' ∧ Fr [] w w') ?_ fun a W2 hR hK => ?_
    · rw [hcs]
      cases loc with
      | true =>
        refine (answer_at_loc (N + 4) _ s (peer_self _ _ _ _) cs req hops found ao n c strs e0 e1 e65 e69 eor hl hn hnc hc hao w (hold' w hfr) q4 (fun _ w' => AnsS (N + 4) w.heap.size (peerL s (N + 0) (N + 2) (N + 3)).toArray cs w' ∧ Fr [] w w') (fun _ _ h => h.1) ?_).mono fun e w' ⟨he, _, hr⟩ => ⟨he, hr⟩
        intro w1 g cap cur hf _ hmsg _ _ _
        exact hfin w1 _ hf hmsg
      | false =>
        refine answer_at_not (N + 4) _ s (peer_self _ _ _ _) cs req hops found e0 e1 e65 eor w q4 _ (fun _ h => h.1) ?_
        intro w1 hf _ hmsg
        exact hfin w1 _ hf hmsg
    · have hF := hR.2
      refine at_f s req fst hops found loc false ah we _ a N W2 hK (hF.keep q0 (by simp)) fun a hK => ?_
      exact at_no s req fst hops found loc ah we _ a N W2 hK (hF.keep q5 (by simp)) (hF.keep q6 (by simp)) (hF.keep q4 (by simp)) (hF.keep q3 (by simp)) fun a hK => h a W2 hK (hfr.trans hF)
  | true =>
    have hfin : ∀ (w1 : World) (va : Option Addr) (vn vc : Nat), Fr [] w w1 → w1.heap[w.heap.size]? = some (.cells cs.toArray 73 (0, 0)) → (∀ w', (∀ k cur, w.heap.size < k → w1.heap[k]? = some (.cells cur 9 (0, 0)) → w'.heap[k]? = some (.cells cur 9 (0, 0))) → PathV loc strs s va vn vc w') →
        Calls Yba.prog 12 #[.pointer (some ⟨N + 4, 0, none⟩), .int .u64 req, .agg (resL found s hops (.slice va vn vc)).toArray] w1 fun e w' => e = .returned (.tuple #[]) ∧ (AnsS (N + 4) w.heap.size (peerL s (N + 0) (N + 2) (N + 3)).toArray cs w' ∧ ∃ va vn vc, After N ah we (resL found s hops (.slice va vn vc)) w w' ∧ PathV loc strs s va vn vc w') := by
      intro w1 va vn vc hf hmsg hpv
      refine (finish_has (N + 4) (N + 2) (N + 3) (N + 7) (N + 8) (N + 5) (N + 6) _ req fst 0 1 (if ah then 1 else 0) ah we (resL found s hops (.slice va vn vc)) (res_len _ _ _ _ _ _) (res_one _ _ _ _ _ _) w1 (hf.keep q4 (by simp)) (peer33 _ _ _ _) (peer34 _ _ _ _) (hf.keep q2 (by simp)) (haw.f3 (B := 0) (F3.of_fr hf) (by simp) (by simp)) (hf.keep q7 (by simp)) (hf.keep q5 (by simp)) (hf.keep q6 (by simp)) (by omega)).mono ?_
      rintro e w' ⟨he, hfin⟩
      have hA := After.of hf hfin
      have h3 := hfin.2.2.2.1
      refine ⟨he, ⟨hA.1.keep q4 (by simp), h3.keepT hmsg (by simp; omega) (by decide)⟩, va, vn, vc, hA, hpv w' fun k cur hk hcur => h3.keepT hcur (by simp; omega) (by decide)⟩
    refine at_e s req fst hops found loc true ah we ao n c a N w hK q1 (fun w' => AnsS (N + 4) w.heap.size (peerL s (N + 0) (N + 2) (N + 3)).toArray cs w' ∧ ∃ va vn vc, After N ah we (resL found s hops (.slice va vn vc)) w w' ∧ PathV loc strs s va vn vc w') ?_ fun a W2 hR hK => ?_
    · rw [hcs]
      cases loc with
      | true =>
        refine (answer_at_loc (N + 4) _ s (peer_self _ _ _ _) cs req hops found ao n c strs e0 e1 e65 e69 eor hl hn hnc hc hao w (hold' w hfr) q4 (fun _ w' => AnsS (N + 4) w.heap.size (peerL s (N + 0) (N + 2) (N + 3)).toArray cs w' ∧ ∃ va vn vc, After N ah we (resL found s hops (.slice va vn vc)) w w' ∧ PathV true strs s va vn vc w') (fun _ _ h => h.1) ?_).mono fun e w' ⟨he, _, hr⟩ => ⟨he, hr⟩
        intro w1 g cap cur hf _ hmsg hg hcur htk
        refine hfin w1 _ _ _ hf hmsg fun w' hk => ⟨g, cur, rfl, by rw [hl], hk g cur hg hcur, by rw [hl]; exact htk⟩
      | false =>
        refine answer_at_not (N + 4) _ s (peer_self _ _ _ _) cs req hops found e0 e1 e65 eor w q4 _ (fun _ h => h.1) ?_
        intro w1 hf _ hmsg
        exact hfin w1 none 0 0 hf hmsg fun w' _ => ⟨rfl, rfl, rfl⟩
    · obtain ⟨_, va, vn, vc, hA, hV⟩ := hR
      have hF0 : Fr [] w0 W2 := hfr.andThen hA.1 (fun i hi => .inr (by simp at hi; omega))
      refine at_f s req fst hops found loc true ah we _ a N W2 hK (hA.1.keep q0 (by simp)) fun a hK => ?_
      exact at_yes s req fst hops found loc ah we ao n c strs hl hn hao hstr a N w W2 hP hK va vn vc hA hV q4 q1 (fun W hFW => hold' W (hF0.trans hFW)) fun a W hK hFW => h a W hK (hF0.trans hFW)
theorem law_result {a : Act} (hK : Fm 184 [(20, .bool true)] a) (W : World) : (results Yba.f4 a.tmps).run Yba.prog W = .ok (.bool true) W := by
  have h20 : a.tmps[20]? = some (.bool true) := by
    have h1 := hK.get 20 _ rfl
    have h2 : 20 < a.tmps.size := by rw [hK.size]; decide
    simp [Act.eval, h2] at h1
    rw [Array.getElem?_eq_getElem h2, h1]
  simp [results, Yba.f4, h20]
set_option maxRecDepth 20000 in
theorem law_at_short (s : ByteArray) (req fst hops : Int) (found loc ph ah we : Bool) (ao : Option Addr) (n c : Nat) (strs : List Value) (hl : strs.length = n) (hn : n ≤ 1024) (hnc : n ≤ c) (hc : c ≤ maxLen) (hao : ao = none → n = 0 ∧ c = 0) (hstr : ∀ u ∈ strs, ∃ t, u = .string t) (w : World)
    (hold : ∀ b, ao = some b → ∀ j u, strs[j]? = some u → w.cell? (b.add j) = some u) :
    Calls Yba.prog 4 #[.string s, .int .u64 req, .int .u64 fst, .int .i64 hops, .bool found, .bool loc, .bool ph, .bool ah, .bool we, .slice ao n c] w fun e w' => e = .returned (.bool true) ∧ Fr [] w w' := by
  go_enter Yba.func4, Yba.ntmps4
  show Code.wp _ (codeOf Yba.f4 []) _ _ _
  refine at_a s req fst hops found loc ph ah we ao n c hn _ w (Fm.of rfl rfl (by repeat (first | exact trivial | refine ⟨rfl, ?_⟩))) fun a w1 hK hW => ?_
  refine at_b s req fst hops found loc ph ah we _ a w w1 hK hW fun a w2 hK hW => ?_
  refine at_c s req fst hops found loc ph ah we _ a w w2 hK hW fun a w3 hK hW => ?_
  refine at_d s req fst hops found loc ph ah we _ a w w3 hK hW fun a w4 hK hW => ?_
  refine at_call s req fst hops found loc ph ah we ao n c strs hl hn hnc hc hao hstr a w w4 hold (fun _ _ d _ _ h => by cases d <;> exact h) hK hW fun a W hK hF => ?_
  exact bodyPost_ret (law_result hK W) hK.defers ⟨rfl, hF⟩
end Go.Proofs.Ybulkaeqi
