import Derived.Test.YbulkaesmRole
namespace Go.Proofs.Ybulkaesm
open Go.RowKit
/-! ### the plain law -/
def cnt (f : Nat → Bool) : Nat → Nat
  | 0 => 0
  | i + 1 => cnt f i + (if f i then 1 else 0)
def lst (f : Nat → Bool) : Nat → Int
  | 0 => -1
  | i + 1 => if f i then (i : Int) else lst f i
def sole (f : Nat → Bool) (n : Nat) : Int := if cnt f n = 1 then lst f n else -1
theorem cnt_mono (f : Nat → Bool) (i d : Nat) : cnt f i ≤ cnt f (i + d) := by
  induction d with
  | zero => exact Nat.le_refl _
  | succ d ih => exact Nat.le_trans ih (Nat.le_add_right _ _)
theorem lst_none (f : Nat → Bool) (i : Nat) (h : cnt f i = 0) : lst f i = -1 := by
  induction i with
  | zero => rfl
  | succ i ih =>
    unfold cnt at h
    have hf : f i = false := by cases hf : f i with | false => rfl | true => simp [hf] at h
    unfold lst; rw [hf]; exact ih (by omega)
theorem lst_some (f : Nat → Bool) (i : Nat) (h : 0 < cnt f i) : 0 ≤ lst f i := by
  induction i with
  | zero => simp [cnt] at h
  | succ i ih =>
    unfold lst
    cases hf : f i with
    | true => simp
    | false => simp; exact ih (by unfold cnt at h; simpa [hf] using h)
theorem lst_lt (f : Nat → Bool) (i : Nat) : lst f i < i ∧ -1 ≤ lst f i := by
  induction i with
  | zero => simp [lst]
  | succ i ih => unfold lst; cases f i <;> simp <;> omega
theorem cnt_le (f : Nat → Bool) (i : Nat) : cnt f i ≤ i := by
  induction i with
  | zero => exact Nat.le_refl _
  | succ i ih => unfold cnt; cases f i <;> simp <;> omega
/-! ### the row of nodes -/
/-- n nodes, the first i of them laid: U: up; R: the role. -/
structure Nd (n i : Nat) (U : Nat → Bool) (R : Nat → Int) (mb : Nat) (cs : Array Value) : Prop where
  size : cs.size = n * 17
  one : ∀ v ∈ cs.toList, v.oneCell' = true
  m : ∀ j, j < n → cs[j * 17 + 8]? = some (if j < i ∧ U j = true then ptr mb else .pointer none)
  r : ∀ j, j < i → cs[j * 17 + 11]? = some (.int .u8 (R j))
def chunk (cs : Array Value) (j : Nat) : List Value := (cs.toList.drop (j * 17)).take 17
theorem Nd.len {n i : Nat} {U : Nat → Bool} {R : Nat → Int} {mb : Nat} {cs : Array Value} (h : Nd n i U R mb cs) {j : Nat} (hj : j < n) : (chunk cs j).length = 17 := by
  have := h.size
  simp [chunk]; omega
theorem Nd.oneC {n i : Nat} {U : Nat → Bool} {R : Nat → Int} {mb : Nat} {cs : Array Value} (h : Nd n i U R mb cs) (j : Nat) : ∀ v ∈ chunk cs j, v.oneCell' = true := fun v hv => h.one v (List.mem_of_mem_drop (List.mem_of_mem_take hv))
theorem chunk_get (cs : Array Value) (j k : Nat) (hk : k < 17) : (chunk cs j)[k]? = cs[j * 17 + k]? := by
  unfold chunk
  rw [List.getElem?_take, if_pos hk, List.getElem?_drop, Array.getElem?_toList]
theorem row51 : RowType Yba.prog 51 17 := .mk' Yba.underlying51 rfl (by kernel_rfl)
def lead (U : Nat → Bool) (R : Nat → Int) (j : Nat) : Bool := U j && decide (R j = 2)
theorem run_idx17 {ρ : Operand → Value} {o : Oper} (x ix : Operand) (ho : o.op = .indexAddr 45 x ix) (b n c : Nat) (hx : ρ x = .slice (some ⟨b, 0, none⟩) n c) (i : Nat) (hix : ρ ix = .int .i64 i) (hi : i < n) (w : World) : (execOp ρ o).run Yba.prog w = .ok (.value (.pointer (some ⟨b, i * 17, none⟩))) w := by
  have := run_idxS (P := Yba.prog) 45 51 x ix ho Yba.underlying45 b 0 n c hx i hix hi 17 (fun w => by kernel_rfl) w
  rwa [Nat.zero_add] at this

def zeroN : Array Value := #[.string ByteArray.empty, .slice none 0 0, .int .i64 0, .int .i64 0, .int .i64 0, .float .f64 0, .pointer none, .float .f64 0, .pointer none, .int .u64 0, .string ByteArray.empty, .int .u8 0, .int .u64 0, .string ByteArray.empty, .int .i64 0, .map none, .int .i64 0]
set_option maxRecDepth 20000 in
set_option maxHeartbeats 400000 in
theorem sole_leader (wb nb mb n : Nat) (hn : n ≤ 1024) (U : Nat → Bool) (R : Nat → Int) (cs : Array Value) (hN : Nd n n U R mb cs) (w : World) (hnb : w.heap[nb]? = some (.cells cs 51 (0, 0))) (hwc : w.cell? ⟨wb, 0, none⟩ = some (.slice (some ⟨nb, 0, none⟩) n n)) :
    Calls Yba.prog 5 #[ptr wb] w fun e w' => e = .returned (.int .i64 (sole (lead U R) n)) ∧ Fr [] w w' := by
  go_enter Yba.func5, Yba.ntmps5
  show Code.wp _ (codeOf Yba.f5 []) _ _ _
  refine Fm.begin 30 [(0, ptr wb)] rfl rfl ⟨rfl, trivial⟩ fun a hK => ?_
  show Code.wp _ (.seq (.region _ (opsOf Yba.f5 [0]) false) (codeOf Yba.f5 [1])) _ _ _
  refine srg ?_
  show wpList _ (opsOf Yba.f5 [0]) _ [opAt Yba.f5 [0] 0] _ _
  refine stAs hK (wn rfl) rfl rfl rfl (by decide) fun a hK => ?_
  show Code.wp _ (codeOf Yba.f5 [1]) _ _ _
  show Code.wp _ (.seq (.region _ (opsOf Yba.f5 [1, 0]) false) (codeOf Yba.f5 [1, 1])) _ _ _
  refine srg ?_
  show wpList _ (opsOf Yba.f5 [1, 0]) _ [opAt Yba.f5 [1, 0] 0] _ _
  refine stAs hK (wn rfl) rfl rfl rfl (by decide) fun a hK => ?_
  show Code.wp _ (codeOf Yba.f5 [1, 1]) _ _ _
  show Code.wp _ (.seq (.seq (.region _ (opsOf Yba.f5 [1, 1, 0, 0]) false) (.block 0 (.loop (codeOf Yba.f5 [1, 1, 0, 1, 5, 4])))) (codeOf Yba.f5 [1, 1, 1])) _ _ _
  refine wp_seq (srg ?_)
  show wpList _ (opsOf Yba.f5 [1, 1, 0, 0]) _ [opAt Yba.f5 [1, 1, 0, 0] 0, opAt Yba.f5 [1, 1, 0, 0] 1, opAt Yba.f5 [1, 1, 0, 0] 2, opAt Yba.f5 [1, 1, 0, 0] 3, opAt Yba.f5 [1, 1, 0, 0] 4, opAt Yba.f5 [1, 1, 0, 0] 5] _ _
  refine stMv hK (wn rfl) rfl rfl rfl (by decide) fun a hK => ?_
  refine stNil hK (wn rfl) rfl rfl rfl (by decide) fun a hK => ?_
  refine stFa hK (wn rfl) rfl rfl 0 (fun b w => by kernel_rfl) rfl (by decide) fun a hK => ?_
  refine stLd hK (wn rfl) rfl rfl (hwc) (fun w => by kernel_rfl) rfl (by decide) fun a hK => ?_
  refine stLenS hK (wn rfl) rfl Yba.underlying45 rfl rfl (by decide) fun a hK => ?_
  refine stMv hK (wn rfl) rfl rfl rfl (by decide) fun a hK => ?_
  show Code.wp _ (.block 0 (.loop (codeOf Yba.f5 [1, 1, 0, 1, 5, 4]))) _ _ _
  refine wp_block (wp_loop (fun a W => ∃ i : Nat, i ≤ n ∧ cnt (lead U R) i ≤ 1 ∧ Fm 30 [(11, .int .i64 i), (3, .int .i64 (sole (lead U R) i)), (9, .slice (some ⟨nb, 0, none⟩) n n), (10, .int .i64 n)] a ∧ Fr [] w W) (fun a _ => n - (intOf (a.eval (.tmp 11))).toNat) ⟨0, Nat.zero_le _, by simp [cnt], hK.sub _ (by repeat (first | exact trivial | refine ⟨rfl, ?_⟩)), Fr.refl _ _⟩ ?_)
  rintro a W ⟨i, hi, hc1, hK, hF⟩
  have him : (intOf (a.eval (.tmp 11))).toNat = i := by rw [hK.get 11 (.int .i64 i) rfl]; simp [intOf]
  show Code.wp _ (.seq (.region _ (opsOf Yba.f5 [1, 1, 0, 1, 5, 4, 0]) false) (.seq (.cond (.tmp 12) .skip (.exit 0)) (.seq (.block 1 (codeOf Yba.f5 [1, 1, 0, 1, 5, 4, 1, 1, 0, 5])) (.region _ (opsOf Yba.f5 [1, 1, 0, 1, 5, 4, 1, 1, 1]) false)))) _ _ _
  refine srg ?_
  show wpList _ (opsOf Yba.f5 [1, 1, 0, 1, 5, 4, 0]) _ [opAt Yba.f5 [1, 1, 0, 1, 5, 4, 0] 0] _ _
  refine stBin hK (wn rfl) rfl rfl rfl (int_lss) rfl (by decide) fun a hK => ?_
  by_cases hlt : i < n
  · refine wp_seq (wp_cond_true ((hK.op rfl).trans (by rw [decide_eq_true (by omega)])) (wp_skip ?_))
    refine wp_seq (wp_block ?_)
    have h9 : ∀ a W, cnt (lead U R) (i + 1) ≤ 1 → Fm 30 [(11, .int .i64 i), (3, .int .i64 (sole (lead U R) (i + 1))), (9, .slice (some ⟨nb, 0, none⟩) n n), (10, .int .i64 n)] a → Fr [] w W → Code.wp Yba.prog (.region 9 (opsOf Yba.f5 [1, 1, 0, 1, 5, 4, 1, 1, 1]) false) (Exit.then (fun a' w' => (∃ i : Nat, i ≤ n ∧ cnt (lead U R) i ≤ 1 ∧ Fm 30 [(11, .int .i64 i), (3, .int .i64 (sole (lead U R) i)), (9, .slice (some ⟨nb, 0, none⟩) n n), (10, .int .i64 n)] a' ∧ Fr [] w w') ∧ n - (intOf (a'.eval (.tmp 11))).toNat < n - i) (Exit.inBlock 0 (Exit.then (Code.wp Yba.prog (codeOf Yba.f5 [1, 1, 1]) (bodyPost Yba.prog Yba.f5 fun e w' => e = .returned (.int .i64 (sole (lead U R) n)) ∧ Fr [] w w')) (bodyPost Yba.prog Yba.f5 fun e w' => e = .returned (.int .i64 (sole (lead U R) n)) ∧ Fr [] w w')))) a W := by
      intro a W hc hK hF
      refine wp_region_list ?_
      show wpList _ (opsOf Yba.f5 [1, 1, 0, 1, 5, 4, 1, 1, 1]) _ [opAt Yba.f5 [1, 1, 0, 1, 5, 4, 1, 1, 1] 0, opAt Yba.f5 [1, 1, 0, 1, 5, 4, 1, 1, 1] 1] _ _
      refine stBin hK (wn rfl) rfl rfl rfl (int_add (y := ((i + 1 : Nat) : Int)) (by omega) (by omega) (by omega)) rfl (by decide) fun a hK => ?_
      refine stMv hK (wn rfl) rfl rfl rfl (by decide) fun a hK => ?_
      refine ⟨⟨i + 1, hlt, hc, hK.sub _ (by repeat (first | exact trivial | refine ⟨rfl, ?_⟩)), hF⟩, ?_⟩
      show n - (intOf (a.eval (.tmp 11))).toNat < _
      rw [hK.get 11 (.int .i64 ((i + 1 : Nat) : Int)) rfl]
      simp only [intOf, Int.toNat_natCast]; omega
    rw [him]
    show Code.wp _ (.seq (.region _ (opsOf Yba.f5 [1, 1, 0, 1, 5, 4, 1, 1, 0, 5, 0]) false) (.seq (.region _ (opsOf Yba.f5 [1, 1, 0, 1, 5, 4, 1, 1, 0, 5, 1, 0]) false) (.cond (.tmp 24) (.seq (.seq (.region _ (opsOf Yba.f5 [1, 1, 0, 1, 5, 4, 1, 1, 0, 5, 1, 1, 2, 0, 0]) false) (.cond (.tmp 26) (.seq (.region _ (opsOf Yba.f5 [1, 1, 0, 1, 5, 4, 1, 1, 0, 5, 1, 1, 2, 0, 1, 2, 0]) false) .ret) .skip)) (.region _ (opsOf Yba.f5 [1, 1, 0, 1, 5, 4, 1, 1, 0, 5, 1, 1, 2, 1]) false)) .skip))) _ _ _
    have hrow := hF.keep hnb (by simp)
    have hrg : W.rangeAt nb (i * 17) (chunk cs i) := by have h := range_drop (range_at (cs := cs.toList) (by simpa using hrow)) (i * 17) 17; rwa [Nat.zero_add] at h
    refine srg ?_
    show wpList _ (opsOf Yba.f5 [1, 1, 0, 1, 5, 4, 1, 1, 0, 5, 0]) _ [opAt Yba.f5 [1, 1, 0, 1, 5, 4, 1, 1, 0, 5, 0] 0, opAt Yba.f5 [1, 1, 0, 1, 5, 4, 1, 1, 0, 5, 0] 1, opAt Yba.f5 [1, 1, 0, 1, 5, 4, 1, 1, 0, 5, 0] 2, opAt Yba.f5 [1, 1, 0, 1, 5, 4, 1, 1, 0, 5, 0] 3, opAt Yba.f5 [1, 1, 0, 1, 5, 4, 1, 1, 0, 5, 0] 4, opAt Yba.f5 [1, 1, 0, 1, 5, 4, 1, 1, 0, 5, 0] 5] _ _
    refine stMv hK (wn rfl) rfl rfl rfl (by decide) fun a hK => ?_
    refine st hK (wn rfl) (run_idx17 _ _ rfl nb n n (hK.op rfl) i (hK.op rfl) hlt _) rfl (by decide) fun a hK => ?_
    refine stLr hK (wn rfl) rfl rfl (hN.len hlt) row51 hrg rfl (by decide) fun a hK => ?_
    refine st hK (wn rfl) (run_allocOp 51 rfl zeroN _ (by kernel_rfl)) rfl (by decide) fun a hK => ?_
    refine stAs hK (wn rfl) rfl rfl rfl (by decide) fun a hK => ?_
    refine wpList_store_new rfl 51 _ _ rfl zeroN (chunk cs i).toArray (hK.op rfl) (hK.op rfl) (by simp only [List.size_toArray, hN.len hlt]; kernel_rfl) (by simp only [List.size_toArray, hN.len hlt]; rfl) (all_oneCell_toArray (hN.oneC i)) ?_
    have hF1 := hF.alloc (.cells (chunk cs i).toArray 51)
    have hcp : (W.alloc (.cells (chunk cs i).toArray 51)).heap[W.heap.size]? = some (.cells (chunk cs i).toArray 51 (0, 0)) := heap_alloc_new _ _
    have h8 : (chunk cs i).toArray[8]? = some (if U i = true then ptr mb else .pointer none) := by rw [List.getElem?_toArray, chunk_get _ _ _ (by decide), hN.m i hlt]; simp [hlt]
    have h11 : (chunk cs i).toArray[11]? = some (.int .u8 (R i)) := by rw [List.getElem?_toArray, chunk_get _ _ _ (by decide), hN.r i hlt]
    generalize W.alloc (.cells (chunk cs i).toArray 51) = W1 at *
    generalize W.heap.size = tb at *
    show Code.wp _ (.seq (.region _ (opsOf Yba.f5 [1, 1, 0, 1, 5, 4, 1, 1, 0, 5, 1, 0]) false) (.cond (.tmp 24) (.seq (.seq (.region _ (opsOf Yba.f5 [1, 1, 0, 1, 5, 4, 1, 1, 0, 5, 1, 1, 2, 0, 0]) false) (.cond (.tmp 26) (.seq (.region _ (opsOf Yba.f5 [1, 1, 0, 1, 5, 4, 1, 1, 0, 5, 1, 1, 2, 0, 1, 2, 0]) false) .ret) .skip)) (.region _ (opsOf Yba.f5 [1, 1, 0, 1, 5, 4, 1, 1, 0, 5, 1, 1, 2, 1]) false)) .skip)) _ _ _
    refine srg ?_
    show wpList _ (opsOf Yba.f5 [1, 1, 0, 1, 5, 4, 1, 1, 0, 5, 1, 0]) _ [opAt Yba.f5 [1, 1, 0, 1, 5, 4, 1, 1, 0, 5, 1, 0] 0, opAt Yba.f5 [1, 1, 0, 1, 5, 4, 1, 1, 0, 5, 1, 0] 1, opAt Yba.f5 [1, 1, 0, 1, 5, 4, 1, 1, 0, 5, 1, 0] 2, opAt Yba.f5 [1, 1, 0, 1, 5, 4, 1, 1, 0, 5, 1, 0] 3, opAt Yba.f5 [1, 1, 0, 1, 5, 4, 1, 1, 0, 5, 1, 0] 4, opAt Yba.f5 [1, 1, 0, 1, 5, 4, 1, 1, 0, 5, 1, 0] 5, opAt Yba.f5 [1, 1, 0, 1, 5, 4, 1, 1, 0, 5, 1, 0] 6, opAt Yba.f5 [1, 1, 0, 1, 5, 4, 1, 1, 0, 5, 1, 0] 7, opAt Yba.f5 [1, 1, 0, 1, 5, 4, 1, 1, 0, 5, 1, 0] 8] _ _
    cases hU : U i with
    | false =>
      refine stFa hK (wn rfl) rfl rfl 8 (fun b w => by kernel_rfl) rfl (by decide) fun a hK => ?_
      refine stLd hK (wn rfl) rfl rfl ((cell_at hcp 8).trans (h8.trans (by rw [hU]; rfl : _ = some (Value.pointer none)))) (fun w => by kernel_rfl) rfl (by decide) fun a hK => ?_
      refine stBin hK (wn rfl) rfl rfl rfl ((by kernel_rfl : _ = Result.ok (Value.bool false) _)) rfl (by decide) fun a hK => ?_
      refine stMv hK (wn rfl) rfl rfl rfl (by decide) fun a hK => ?_
      refine stSkip hK (hK.wno rfl rfl rfl (by decide)) rfl (by decide) fun a hK => ?_
      refine stSkip hK (hK.wno rfl rfl rfl (by decide)) rfl (by decide) fun a hK => ?_
      refine stSkip hK (hK.wno rfl rfl rfl (by decide)) rfl (by decide) fun a hK => ?_
      refine stSkip hK (hK.wno rfl rfl rfl (by decide)) rfl (by decide) fun a hK => ?_
      refine stPick hK (wn rfl) rfl rfl rfl rfl rfl (by decide) fun a hK => ?_
      refine wp_cond_false (hK.op rfl) (wp_skip ?_)
      have hl : lead U R i = false := by simp [lead, hU]
      have e1 : cnt (lead U R) (i + 1) = cnt (lead U R) i := by simp [cnt, hl]
      have e2 : sole (lead U R) (i + 1) = sole (lead U R) i := by simp [sole, e1, lst, hl]
      exact h9 _ _ (by omega) (by rw [e2]; exact hK.sub _ (by repeat (first | exact trivial | refine ⟨rfl, ?_⟩))) hF1
    | true =>
      refine stFa hK (wn rfl) rfl rfl 8 (fun b w => by kernel_rfl) rfl (by decide) fun a hK => ?_
      refine stLd hK (wn rfl) rfl rfl ((cell_at hcp 8).trans (h8.trans (by rw [hU]; rfl : _ = some (ptr mb)))) (fun w => by kernel_rfl) rfl (by decide) fun a hK => ?_
      refine stBin hK (wn rfl) rfl rfl rfl ((by kernel_rfl : _ = Result.ok (Value.bool true) _)) rfl (by decide) fun a hK => ?_
      refine stMv hK (wn rfl) rfl rfl rfl (by decide) fun a hK => ?_
      refine stFa hK (hK.wy rfl rfl rfl (by decide)) rfl rfl 11 (fun b w => by kernel_rfl) rfl (by decide) fun a hK => ?_
      refine st hK (hK.wy rfl rfl rfl (by decide)) (run_fieldAddr 37 _ 0 rfl ⟨tb, 11, none⟩ ⟨tb, 11, none⟩ (hK.op rfl) _ (by kernel_rfl)) rfl (by decide) fun a hK => ?_
      refine stLd hK (hK.wy rfl rfl rfl (by decide)) rfl rfl ((cell_at hcp 11).trans h11) (fun w => by kernel_rfl) rfl (by decide) fun a hK => ?_
      refine stBin hK (hK.wy rfl rfl rfl (by decide)) rfl rfl rfl (u8_eql (.inr rfl)) rfl (by decide) fun a hK => ?_
      refine stPick hK (wn rfl) rfl rfl rfl rfl rfl (by decide) fun a hK => ?_
      by_cases h2 : R i = 2
      · have hl : lead U R i = true := by simp [lead, hU, h2]
        have e1 : cnt (lead U R) (i + 1) = cnt (lead U R) i + 1 := by simp [cnt, hl]
        refine wp_cond_true ((hK.op rfl).trans (by rw [decide_eq_true h2]; rfl)) (wp_seq (wp_seq (wp_region_list ?_)))
        show wpList _ (opsOf Yba.f5 [1, 1, 0, 1, 5, 4, 1, 1, 0, 5, 1, 1, 2, 0, 0]) _ [opAt Yba.f5 [1, 1, 0, 1, 5, 4, 1, 1, 0, 5, 1, 1, 2, 0, 0] 0, opAt Yba.f5 [1, 1, 0, 1, 5, 4, 1, 1, 0, 5, 1, 1, 2, 0, 0] 1] _ _
        refine stMv hK (wn rfl) rfl rfl rfl (by decide) fun a hK => ?_
        refine stBin hK (wn rfl) rfl rfl rfl (int_geq) rfl (by decide) fun a hK => ?_
        by_cases h0 : cnt (lead U R) i = 1
        · have hs0 : sole (lead U R) i ≥ 0 := by unfold sole; rw [if_pos h0]; exact lst_some _ _ (by omega)
          refine wp_cond_true ((hK.op rfl).trans (by rw [decide_eq_true hs0])) (srg ?_)
          show wpList _ (opsOf Yba.f5 [1, 1, 0, 1, 5, 4, 1, 1, 0, 5, 1, 1, 2, 0, 1, 2, 0]) _ [opAt Yba.f5 [1, 1, 0, 1, 5, 4, 1, 1, 0, 5, 1, 1, 2, 0, 1, 2, 0] 0] _ _
          refine stAs hK (wn rfl) rfl rfl rfl (by decide) fun a hK => ?_
          have hm := cnt_mono (lead U R) (i + 1) (n - (i + 1))
          rw [show i + 1 + (n - (i + 1)) = n by omega] at hm
          have hsn : sole (lead U R) n = -1 := by unfold sole; rw [if_neg (by omega)]
          refine wp_ret ?_
          try dsimp only [Exit.then, Exit.inBlock]
          exact bodyPost_ret (result_of hK rfl rfl _) hK.defers ⟨by rw [hsn], hF1⟩
        · have hz : cnt (lead U R) i = 0 := by omega
          have hs0 : ¬ sole (lead U R) i ≥ 0 := by unfold sole; rw [if_neg (by omega)]; decide
          refine wp_cond_false ((hK.op rfl).trans (by rw [decide_eq_false hs0])) (wp_skip ?_)
          show Code.wp _ (.region _ (opsOf Yba.f5 [1, 1, 0, 1, 5, 4, 1, 1, 0, 5, 1, 1, 2, 1]) false) _ _ _
          refine wp_region_list ?_
          show wpList _ (opsOf Yba.f5 [1, 1, 0, 1, 5, 4, 1, 1, 0, 5, 1, 1, 2, 1]) _ [opAt Yba.f5 [1, 1, 0, 1, 5, 4, 1, 1, 0, 5, 1, 1, 2, 1] 0, opAt Yba.f5 [1, 1, 0, 1, 5, 4, 1, 1, 0, 5, 1, 1, 2, 1] 1] _ _
          refine stMv hK (wn rfl) rfl rfl rfl (by decide) fun a hK => ?_
          refine stAs hK (wn rfl) rfl rfl rfl (by decide) fun a hK => ?_
          have e2 : sole (lead U R) (i + 1) = (i : Int) := by unfold sole; rw [if_pos (by omega)]; simp [lst, hl]
          exact h9 _ _ (by omega) (by rw [e2]; exact hK.sub _ (by repeat (first | exact trivial | refine ⟨rfl, ?_⟩))) hF1
      · have hl : lead U R i = false := by simp [lead, h2]
        have e1 : cnt (lead U R) (i + 1) = cnt (lead U R) i := by simp [cnt, hl]
        have e2 : sole (lead U R) (i + 1) = sole (lead U R) i := by simp [sole, e1, lst, hl]
        refine wp_cond_false ((hK.op rfl).trans (by rw [decide_eq_false h2]; rfl)) (wp_skip ?_)
        exact h9 _ _ (by omega) (by rw [e2]; exact hK.sub _ (by repeat (first | exact trivial | refine ⟨rfl, ?_⟩))) hF1
  · refine wp_seq (wp_cond_false ((hK.op rfl).trans (by rw [decide_eq_false (by omega)])) (wp_exit ?_))
    show Code.wp _ (.seq (.region _ (opsOf Yba.f5 [1, 1, 1, 0]) false) .ret) _ _ _
    refine srg ?_
    show wpList _ (opsOf Yba.f5 [1, 1, 1, 0]) _ [opAt Yba.f5 [1, 1, 1, 0] 0, opAt Yba.f5 [1, 1, 1, 0] 1] _ _
    refine stMv hK (wn rfl) rfl rfl rfl (by decide) fun a hK => ?_
    refine stAs hK (wn rfl) rfl rfl rfl (by decide) fun a hK => ?_
    have hin : i = n := by omega
    subst hin
    exact wp_ret (bodyPost_ret (result_of hK rfl rfl _) hK.defers ⟨rfl, hF⟩)

end Go.Proofs.Ybulkaesm
