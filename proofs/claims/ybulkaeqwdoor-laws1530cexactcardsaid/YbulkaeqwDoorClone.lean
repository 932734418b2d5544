import Derived.Test.YbulkaeqwDoorNext
namespace Go.Proofs.YbulkaeqwDoor
open Go.RowKit
theorem info5 : (Ybad.prog.info? 5).map (fun i => (i.zero, i.size, i.bytes)) = some (some (.int .u8 0), 1, 1) := by kernel_rfl
def cellsOf (xs : List UInt8) : List Value := xs.map fun x => Value.int .u8 (x.toNat : Int)
theorem Bs.of_own {v : Value} {xs : List UInt8} {w : World} {B : Nat} (h : w.ownsRow B 5 1 v xs.length (cellsOf xs)) : Bs v xs w := by
  obtain ⟨hl, ⟨rfl, h0⟩ | ⟨g, cap, cur, rfl, _, hg, hc, _, _, htk⟩⟩ := h
  · have hx : xs = [] := List.eq_nil_of_length_eq_zero h0
    subst hx; exact Bs.nil w
  · refine ⟨_, _, rfl, hc, (fun e => by cases e), fun ad e i x hx => ?_⟩
    cases e
    have hi : (cellsOf xs)[i]? = some (.int .u8 (x.toNat : Int)) := by unfold cellsOf; rw [List.getElem?_map, hx]; rfl
    have := take_cell htk hi
    unfold Addr.add
    by_cases h0 : i = 0
    · subst h0; rw [if_pos rfl, cell_at hg]; exact this
    · rw [if_neg h0]
      show w.cell? ⟨g, 0 + i, none⟩ = _
      rw [Nat.zero_add, cell_at hg]; exact this
theorem run_mt {ρ : Operand → Value} {o : Oper} (ho : o.op = .buildSlice 22 0 #[]) (w : World) : (execOp ρ o).run Ybad.prog w = .ok (.value (.slice (some ⟨w.heap.size, 0, none⟩) 0 0)) (w.alloc (.cells #[] 5)) := by
  unfold execOp; rw [ho]; kernel_rfl

set_option maxRecDepth 20000 in
theorem clone {v : Value} {xs : List UInt8} {w : World} (hv : Bs v xs w) (hn : xs.length ≤ 1024) : Calls Ybad.prog 5 #[v] w fun e w' => ∃ v', e = .returned v' ∧ Bs v' xs w' ∧ Fr [] w w' := by
  obtain ⟨a0, c0, rfl, h2, h3, h4⟩ := id hv
  obtain ⟨i0, hi, hz0, hz1, hz2⟩ := info_parts info5
  go_enter Ybad.func5, Ybad.ntmps5
  show Code.wp _ (codeOf Ybad.f5 []) _ _ _
  refine Fm.begin 8 [(0, .slice a0 xs.length c0)] rfl rfl ⟨rfl, trivial⟩ fun a hK => ?_
  show Code.wp _ (.seq (.region _ (opsOf Ybad.f5 [0]) false) (codeOf Ybad.f5 [1])) _ _ _
  refine srg ?_
  show wpList _ (opsOf Ybad.f5 [0]) _ [opAt Ybad.f5 [0] 0] _ _
  refine stAs hK (wn rfl) rfl rfl rfl (by decide) fun a hK => ?_
  show Code.wp _ (codeOf Ybad.f5 [1]) _ _ _
  show Code.wp _ (.seq (.seq (.region _ (opsOf Ybad.f5 [1, 0, 0]) false) (codeOf Ybad.f5 [1, 0, 1])) (codeOf Ybad.f5 [1, 1])) _ _ _
  refine wp_seq (srg ?_)
  show wpList _ (opsOf Ybad.f5 [1, 0, 0]) _ [opAt Ybad.f5 [1, 0, 0] 0, opAt Ybad.f5 [1, 0, 0] 1] _ _
  refine stMv hK (wn rfl) rfl rfl rfl (by decide) fun a hK => ?_
  cases a0 with
  | none =>
    refine stBin hK (wn rfl) rfl rfl rfl ((by kernel_rfl : _ = Result.ok (Value.bool true) _)) rfl (by decide) fun a hK => ?_
    show Code.wp _ (.cond (.tmp 4) (codeOf Ybad.f5 [1, 0, 1, 2]) .skip) _ _ _
    refine wp_cond_true (hK.op rfl) ?_
    show Code.wp _ (.seq (.region _ (opsOf Ybad.f5 [1, 0, 1, 2, 0]) false) .ret) _ _ _
    refine srg ?_
    show wpList _ (opsOf Ybad.f5 [1, 0, 1, 2, 0]) _ [opAt Ybad.f5 [1, 0, 1, 2, 0] 0] _ _
    refine stAs hK (wn rfl) rfl rfl rfl (by decide) fun a hK => ?_
    have hx : xs = [] := List.eq_nil_of_length_eq_zero (h3 rfl)
    subst hx
    refine wp_ret ?_
    try dsimp only [Exit.then]
    exact bodyPost_ret (result_of hK rfl rfl _) hK.defers ⟨_, rfl, Bs.nil _, Fr.refl _ _⟩
  | some ad =>
    refine stBin hK (wn rfl) rfl rfl rfl ((by kernel_rfl : _ = Result.ok (Value.bool false) _)) rfl (by decide) fun a hK => ?_
    show Code.wp _ (.cond (.tmp 4) (codeOf Ybad.f5 [1, 0, 1, 2]) .skip) _ _ _
    refine wp_cond_false (hK.op rfl) (wp_skip ?_)
    show Code.wp _ (codeOf Ybad.f5 [1, 1]) _ _ _
    show Code.wp _ (.seq (.region _ (opsOf Ybad.f5 [1, 1, 0]) false) .ret) _ _ _
    refine srg ?_
    show wpList _ (opsOf Ybad.f5 [1, 1, 0]) _ [opAt Ybad.f5 [1, 1, 0] 0, opAt Ybad.f5 [1, 1, 0] 1, opAt Ybad.f5 [1, 1, 0] 2, opAt Ybad.f5 [1, 1, 0] 3] _ _
    refine st hK (wn rfl) (run_mt rfl _) rfl (by decide) fun a hK => ?_
    refine stMv hK (wn rfl) rfl rfl rfl (by decide) fun a hK => ?_
    have hc4 : ∀ j u, (cellsOf xs)[j]? = some u → (w.alloc (.cells #[] 5)).cell? (ad.add j) = some u := fun j u hj => by
      unfold cellsOf at hj; rw [List.getElem?_map] at hj
      obtain ⟨x, hx, rfl⟩ := Option.map_eq_some_iff.1 hj
      exact (((Fr.refl [] w).alloc _).cell (cell_block (h4 ad rfl j x hx)) (by simp)).trans (h4 ad rfl j x hx)
    refine wpList_append_own _ rfl _ _ 22 rfl w.heap.size 5 i0 (.int .u8 0) 1 1 Ybad.underlying22 hi hz0 hz1 hz2 rfl (by decide) _ 0 [] (hK.op rfl) (World.ownsRow_lit w #[] 0 (Nat.le_refl _) (by decide) rfl) ad xs.length c0 (cellsOf xs) (hK.op rfl) (by simp [cellsOf]) hc4 (fun u hu => by unfold cellsOf at hu; obtain ⟨x, _, rfl⟩ := List.mem_map.1 hu; rfl) (by unfold maxLen; omega) (by omega) (by simp) ?_
    intro v' w' hown hgrow _
    show wpList _ _ _ _ (a.put (some 7) v') _
    have hK := hK.put (d := 7) (by decide) v'
    generalize a.put (some 7) v' = a at hK ⊢
    refine stAs hK (wn rfl) rfl rfl rfl (by decide) fun a hK => ?_
    have hF : Fr [] w w' := ((Fr.refl [] w).alloc _).grown hgrow (fun k hk => .inr (by simp [Value.ownBlock] at hk; omega))
    refine wp_ret ?_
    try dsimp only [Exit.then]
    exact bodyPost_ret (result_of hK rfl rfl _) hK.defers ⟨_, rfl, Bs.of_own (by simpa using hown), hF⟩

end Go.Proofs.YbulkaeqwDoor
