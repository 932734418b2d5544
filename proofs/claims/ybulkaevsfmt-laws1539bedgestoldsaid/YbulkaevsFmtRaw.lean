import Derived.Test.YbulkaevsFmtAgrees
namespace Go.Proofs.YbulkaevsFmt
open Go.RowKit Go.Extern.Stop Go.Stop Go.Extern
theorem cell_block {w : World} {p : Addr} {v : Value} (h : w.cell? p = some v) : p.block < w.heap.size := by
  unfold World.cell? at h
  cases hx : w.heap[p.block]? with
  | none => simp [hx] at h
  | some o => exact lt_of_block hx
/-- zzs1539bagrees at whatever slice. -/
theorem agrees_any (F : Interp) (q : Addr) (s : ByteArray) (ao : Option Addr) (n c : Nat) (hn2 : n ≤ 4194304) (w : World) (hF : F.answers w.tape) (hE : w.cell? ⟨0, 0, none⟩ = some (errV q)) (hq : w.cell? q = some (.string s))
    (hao : 0 < n → ∃ ad b, ao = some ad ∧ 0 ≤ b ∧ w.cell? ad = some (.int .u8 b)) : Calls Ybaf.prog 5 #[.slice ao n c] w fun e w' => e = .returned (.bool true) ∧ Fr [] w w' := by
  have hE' : ∀ W, Fr [] w W → W.cell? ⟨0, 0, none⟩ = some (errV q) := fun W f => (f.cell (cell_block hE) (by simp)).trans hE
  have hqA : ∀ o, (w.alloc o).cell? q = some (.string s) := fun o => (((Fr.refl [] w).alloc o).cell (cell_block hq) (by simp)).trans hq
  rcases Nat.eq_zero_or_pos n with h | h
  · subst h
    refine agrees q _ false w hE' (fun W _ => ok_zero ao c W) ?_
    exact (check_zero F q s ao c w hF hE hqA).mono fun e w' ⟨v, he, hw⟩ => ⟨v, he, hw⟩
  · obtain ⟨ad, b, rfl, h0, hb⟩ := hao h
    exact agrees q _ (okP n b) w hE' (fun W f => ok_some ad n c h hn2 b W ((f.cell (cell_block hb) (by simp)).trans hb)) (check F q s ad n c h hn2 b h0 w hF hE hqA hb)

set_option maxRecDepth 20000 in
theorem raw_law (F : Interp) (q : Addr) (s : ByteArray) (ao : Option Addr) (n c : Nat) (w : World) (hF : F.answers w.tape) (hE : w.cell? ⟨0, 0, none⟩ = some (errV q)) (hq : w.cell? q = some (.string s))
    (hao : 0 < n → ∃ ad b, ao = some ad ∧ 0 ≤ b ∧ w.cell? ad = some (.int .u8 b)) : Calls Ybaf.prog 3 #[.slice ao n c] w fun e w' => e = .returned (.bool true) ∧ Fr [] w w' := by
  go_enter Ybaf.func3, Ybaf.ntmps3
  show Code.wp _ (codeOf Ybaf.f3 []) _ _ _
  refine Fm.begin 8 [(0, .slice ao n c)] rfl rfl ⟨rfl, trivial⟩ fun a hK => ?_
  show Code.wp _ (.seq (.region _ (opsOf Ybaf.f3 [0]) false) (codeOf Ybaf.f3 [1])) _ _ _
  refine srg ?_
  show wpList _ (opsOf Ybaf.f3 [0]) _ [opAt Ybaf.f3 [0] 0] _ _
  refine stAs hK (wn rfl) rfl rfl rfl (by decide) fun a hK => ?_
  show Code.wp _ (codeOf Ybaf.f3 [1]) _ _ _
  show Code.wp _ (.seq (.seq (.region _ (opsOf Ybaf.f3 [1, 0, 0]) false) (codeOf Ybaf.f3 [1, 0, 1])) (codeOf Ybaf.f3 [1, 1])) _ _ _
  refine wp_seq (srg ?_)
  show wpList _ (opsOf Ybaf.f3 [1, 0, 0]) _ [opAt Ybaf.f3 [1, 0, 0] 0, opAt Ybaf.f3 [1, 0, 0] 1, opAt Ybaf.f3 [1, 0, 0] 2] _ _
  refine stMv hK (wn rfl) rfl rfl rfl (by decide) fun a hK => ?_
  refine stLenS hK (wn rfl) rfl Ybaf.underlying22 rfl rfl (by decide) fun a hK => ?_
  by_cases hn : 4194304 < n
  · refine stBin hK (wn rfl) rfl rfl rfl (int_gt (r := true) (decide_eq_true (by omega))) rfl (by decide) fun a hK => ?_
    show Code.wp _ (.cond (.tmp 5) (.seq (.region _ (opsOf Ybaf.f3 [1, 0, 1, 2, 0]) false) .ret) .skip) _ _ _
    refine wp_cond_true (hK.op rfl) (srg ?_)
    show wpList _ (opsOf Ybaf.f3 [1, 0, 1, 2, 0]) _ [opAt Ybaf.f3 [1, 0, 1, 2, 0] 0] _ _
    refine stAs hK (wn rfl) rfl rfl rfl (by decide) fun a hK => ?_
    refine wp_ret ?_
    try dsimp only [Exit.then, Exit.inBlock]
    exact bodyPost_ret (result_of hK rfl rfl _) hK.defers ⟨rfl, Fr.refl _ _⟩
  refine stBin hK (wn rfl) rfl rfl rfl (int_gt (r := false) (decide_eq_false (by omega))) rfl (by decide) fun a hK => ?_
  show Code.wp _ (.cond (.tmp 5) (codeOf Ybaf.f3 [1, 0, 1, 2]) .skip) _ _ _
  refine wp_cond_false (hK.op rfl) (wp_skip ?_)
  show Code.wp _ (codeOf Ybaf.f3 [1, 1]) _ _ _
  show Code.wp _ (.seq (.region _ (opsOf Ybaf.f3 [1, 1, 0]) false) .ret) _ _ _
  refine srg ?_
  show wpList _ (opsOf Ybaf.f3 [1, 1, 0]) _ [opAt Ybaf.f3 [1, 1, 0] 0, opAt Ybaf.f3 [1, 1, 0] 1, opAt Ybaf.f3 [1, 1, 0] 2] _ _
  refine stMv hK (wn rfl) rfl rfl rfl (by decide) fun a hK => ?_
  refine stCall hK rfl rfl rfl (R := fun v w' => v = .bool true ∧ Fr [] w w') (fun w => by kernel_rfl) ((agrees_any F q s ao n c (by omega) w hF hE hq hao).mono fun _ _ h => ⟨_, h.1, rfl, h.2⟩) rfl (by decide) fun v a w1 hR hK => ?_
  obtain ⟨rfl, hF1⟩ := hR
  refine stAs hK (wn rfl) rfl rfl rfl (by decide) fun a hK => ?_
  refine wp_ret ?_
  try dsimp only [Exit.then, Exit.inBlock]
  exact bodyPost_ret (result_of hK rfl rfl _) hK.defers ⟨rfl, hF1⟩

end Go.Proofs.YbulkaevsFmt
