import Derived.Test.YbulkaesmBody
namespace Go.Proofs.Ybulkaesm
open Go.RowKit
def machC : Array Value := #[.string ByteArray.empty, .slice none 0 0, .int .i64 0, .int .i64 0, .int .i64 0, .float .f64 0, .pointer none, .int .i64 0, .int .u8 0, .int .u64 0, .string ByteArray.empty, .string ByteArray.empty, .int .i64 0, .int .u8 0, .map none, .int .i64 0, .int .u64 0, .string ByteArray.empty, .map none, .int .i64 0, .int .i64 0, .int .i64 0, .int .i64 0, .int .i64 0, .int .i64 0, .bool false, .map none, .slice none 0 0, .int .i64 0, .slice none 0 0]
def worldC (v : Value) : Array Value := #[v, .slice none 0 0, .map none, .int .i64 0, .slice none 0 0, .int .u64 0, .pointer none, .int .i64 0, .float .f64 0, .float .f64 0, .int .i64 0, .pointer none, .slice none 0 0, .slice none 0 0, .int .i64 0, .map none, .int .i64 0, .int .i64 0, .int .i64 0, .int .i64 0, .int .i64 0, .int .i64 0, .int .i64 0, .int .i64 0, .int .i64 0, .int .i64 0, .int .i64 0, .int .i64 0, .int .i64 0, .int .i64 0, .int .i64 0, .int .i64 0, .int .i64 0, .int .i64 0, .int .i64 0, .int .i64 0, .slice none 0 0, .slice none 0 0, .pointer none, .nilFunc, .int .i64 0]
theorem info51 : (Yba.prog.info? 51).map (fun i => (i.zero, i.size, i.bytes)) = some (some (.agg zeroN), 17, 176) := by kernel_rfl
theorem run_mk {ρ : Operand → Value} {o : Oper} (x y : Operand) (ho : o.op = .makeSlice 45 x y) (n : Nat) (hn : n ≤ 1024) (hx : ρ x = .int .i64 n) (hy : ρ y = .int .i64 n) (w : World) :
    (execOp ρ o).run Yba.prog w = .ok (.value (.slice (some ⟨w.heap.size, 0, none⟩) n n)) (w.alloc (.cells (madeCells zeroN (n * 17)) 51)) := by
  obtain ⟨i0, hi, hz0, hz1, hz2⟩ := info_parts info51
  have h := run_make (P := Yba.prog) w 45 51 i0 _ Yba.underlying45 hi hz0 .i64 .i64 n n (by omega) (Int.le_refl _) (by rw [hz2]; omega) (by omega)
  rw [hz1] at h
  unfold execOp; rw [ho]; dsimp only; rw [hx, hy, Sem.run_bind, h]
  simp only [Result.andThen_ok, Int.toNat_natCast]
  rfl
theorem made_get (n k : Nat) (hk : k < n * 17) : (madeCells zeroN (n * 17))[k]? = some (zeroN[k % 17]!) := by
  unfold madeCells
  rw [Array.getElem?_map, Array.getElem?_range, if_pos hk]
  rfl
theorem zero_one : ∀ r, r < 17 → (zeroN[r]!).oneCell' = true := by decide
theorem made_nd (n : Nat) (U : Nat → Bool) (R : Nat → Int) (mb : Nat) : NdP n 0 0 U R mb (madeCells zeroN (n * 17)) := by
  refine ⟨size_madeCells _ _, fun k v hv => ?_, fun j hj => ?_, fun j hj => by omega⟩
  · have hk : k < n * 17 := by
      have := (Array.getElem?_eq_some_iff.1 hv).1
      rwa [size_madeCells] at this
    rw [made_get n k hk] at hv
    cases hv
    exact zero_one _ (Nat.mod_lt _ (by decide))
  · rw [made_get n _ (by omega), if_neg (by omega), show (j * 17 + 8) % 17 = 8 by omega]
    rfl
theorem gtrT {x z : Int} {a b : Operand} {w : World} (h : x > z) : (do eqGuard .gtr 3 a b (.int .i64 x) (.int .i64 z); binOp .gtr 3 (.int .i64 x) (.int .i64 z) : Sem Value).run Yba.prog w = .ok (.bool true) w := by rw [int_gtr, decide_eq_true h]
theorem gtrF {x z : Int} {a b : Operand} {w : World} (h : ¬ x > z) : (do eqGuard .gtr 3 a b (.int .i64 x) (.int .i64 z); binOp .gtr 3 (.int .i64 x) (.int .i64 z) : Sem Value).run Yba.prog w = .ok (.bool false) w := by rw [int_gtr, decide_eq_false h]

set_option maxRecDepth 20000 in
theorem law_loop {Q : Exit → Act → World → Prop} (w0 : World) (nb mb : Nat) (hnb : w0.heap.size ≤ nb) (us : List Bool) (rs ts : List Int) (hn : rs.length ≤ 1024) (hr0 : ∀ (i : Nat) x, rs[i]? = some x → 0 ≤ x) (ua ra ta : Option Addr) (uc rc tc : Nat) (hu : boolsAt ua us w0) (hr : cellsAt .u8 ra rs w0) (ht : cellsAt .u64 ta ts w0) (a : Act) (W : World) (hK : Fm 92 [(9, .int .i64 0), (10, .int .i64 (-1)), (0, .slice ua us.length uc), (1, .slice ra rs.length rc), (2, .slice ta ts.length tc), (7, ptr mb), (8, .slice (some ⟨nb, 0, none⟩) rs.length rs.length)] a) (hL : Lw w0 nb rs.length 0 (upAt us) (roleAt rs) mb W)
    (hx : ∀ a W, Fm 92 [(9, .int .i64 (cnt (lead (upAt us) (roleAt rs)) rs.length)), (10, .int .i64 (lst (lead (upAt us) (roleAt rs)) rs.length)), (0, .slice ua us.length uc), (1, .slice ra rs.length rc), (2, .slice ta ts.length tc), (7, ptr mb), (8, .slice (some ⟨nb, 0, none⟩) rs.length rs.length)] a → Lw w0 nb rs.length rs.length (upAt us) (roleAt rs) mb W → Code.wp Yba.prog (codeOf Yba.f3 [1, 1, 1, 1, 1, 1, 1]) Q a W) :
    Code.wp Yba.prog (codeOf Yba.f3 [1, 1, 1, 1, 1, 1]) Q a W := by
  show Code.wp _ (.seq (.seq (.region _ (opsOf Yba.f3 [1, 1, 1, 1, 1, 1, 0, 0]) false) (.block 0 (.loop (codeOf Yba.f3 [1, 1, 1, 1, 1, 1, 0, 1, 5, 4])))) (codeOf Yba.f3 [1, 1, 1, 1, 1, 1, 1])) _ _ _
  refine wp_seq (srg ?_)
  show wpList _ (opsOf Yba.f3 [1, 1, 1, 1, 1, 1, 0, 0]) _ [opAt Yba.f3 [1, 1, 1, 1, 1, 1, 0, 0] 0] _ _
  refine stAs hK (wn rfl) rfl rfl rfl (by decide) fun a hK => ?_
  show Code.wp _ (.block 0 (.loop (codeOf Yba.f3 [1, 1, 1, 1, 1, 1, 0, 1, 5, 4]))) _ _ _
  refine wp_block (wp_loop (fun a W => ∃ i : Nat, i ≤ rs.length ∧ Fm 92 [(11, .int .i64 i), (9, .int .i64 (cnt (lead (upAt us) (roleAt rs)) i)), (10, .int .i64 (lst (lead (upAt us) (roleAt rs)) i)), (0, .slice ua us.length uc), (1, .slice ra rs.length rc), (2, .slice ta ts.length tc), (7, ptr mb), (8, .slice (some ⟨nb, 0, none⟩) rs.length rs.length)] a ∧ Lw w0 nb rs.length i (upAt us) (roleAt rs) mb W) (fun a _ => rs.length - (intOf (a.eval (.tmp 11))).toNat) ⟨0, Nat.zero_le _, hK.sub _ (by repeat (first | exact trivial | refine ⟨rfl, ?_⟩)), hL⟩ ?_)
  rintro a W ⟨i, hi, hK, hL⟩
  have him : (intOf (a.eval (.tmp 11))).toNat = i := by rw [hK.get 11 (.int .i64 i) rfl]; simp [intOf]
  show Code.wp _ (.seq (.seq (.region _ (opsOf Yba.f3 [1, 1, 1, 1, 1, 1, 0, 1, 5, 4, 0, 0]) false) (.cond (.tmp 29) .skip (.exit 0))) (.seq (.block 1 (codeOf Yba.f3 [1, 1, 1, 1, 1, 1, 0, 1, 5, 4, 1, 0, 5])) (.region _ (opsOf Yba.f3 [1, 1, 1, 1, 1, 1, 0, 1, 5, 4, 1, 1]) false))) _ _ _
  refine wp_seq (srg ?_)
  show wpList _ (opsOf Yba.f3 [1, 1, 1, 1, 1, 1, 0, 1, 5, 4, 0, 0]) _ [opAt Yba.f3 [1, 1, 1, 1, 1, 1, 0, 1, 5, 4, 0, 0] 0, opAt Yba.f3 [1, 1, 1, 1, 1, 1, 0, 1, 5, 4, 0, 0] 1, opAt Yba.f3 [1, 1, 1, 1, 1, 1, 0, 1, 5, 4, 0, 0] 2, opAt Yba.f3 [1, 1, 1, 1, 1, 1, 0, 1, 5, 4, 0, 0] 3] _ _
  refine stMv hK (wn rfl) rfl rfl rfl (by decide) fun a hK => ?_
  refine stMv hK (wn rfl) rfl rfl rfl (by decide) fun a hK => ?_
  refine stLenS hK (wn rfl) rfl Yba.underlying23 rfl rfl (by decide) fun a hK => ?_
  refine stBin hK (wn rfl) rfl rfl rfl (int_lss) rfl (by decide) fun a hK => ?_
  by_cases hlt : i < rs.length
  · refine wp_cond_true ((hK.op rfl).trans (by rw [decide_eq_true (by omega)])) (wp_skip ?_)
    refine wp_seq (wp_block ?_)
    rw [him]
    refine b_up w0 nb mb hnb us rs ts hn hr0 ua ra ta uc rc tc hu hr ht a W i hlt (hK.sub _ (by repeat (first | exact trivial | refine ⟨rfl, ?_⟩))) hL fun a hK => ?_
    refine b_role w0 nb mb hnb us rs ts hn hr0 ua ra ta uc rc tc hu hr ht a W i hlt hK hL fun a t hK => ?_
    refine b_rest w0 nb mb hnb us rs ts hn hr0 ua ra ta uc rc tc hu hr ht a W i hlt t hK hL fun a W hK hL => ?_
    show Code.wp _ (.region _ (opsOf Yba.f3 [1, 1, 1, 1, 1, 1, 0, 1, 5, 4, 1, 1]) false) _ _ _
    refine wp_region_list ?_
    show wpList _ (opsOf Yba.f3 [1, 1, 1, 1, 1, 1, 0, 1, 5, 4, 1, 1]) _ [opAt Yba.f3 [1, 1, 1, 1, 1, 1, 0, 1, 5, 4, 1, 1] 0, opAt Yba.f3 [1, 1, 1, 1, 1, 1, 0, 1, 5, 4, 1, 1] 1, opAt Yba.f3 [1, 1, 1, 1, 1, 1, 0, 1, 5, 4, 1, 1] 2] _ _
    refine stMv hK (wn rfl) rfl rfl rfl (by decide) fun a hK => ?_
    refine stBin hK (wn rfl) rfl rfl rfl (int_add (y := ((i + 1 : Nat) : Int)) (by omega) (by omega) (by omega)) rfl (by decide) fun a hK => ?_
    refine stAs hK (wn rfl) rfl rfl rfl (by decide) fun a hK => ?_
    refine ⟨⟨i + 1, hlt, hK.sub _ (by repeat (first | exact trivial | refine ⟨rfl, ?_⟩)), hL⟩, ?_⟩
    show rs.length - (intOf (a.eval (.tmp 11))).toNat < _
    rw [hK.get 11 (.int .i64 ((i + 1 : Nat) : Int)) rfl]
    simp only [intOf, Int.toNat_natCast]; omega
  · refine wp_cond_false ((hK.op rfl).trans (by rw [decide_eq_false (by omega)])) (wp_exit ?_)
    have hin : i = rs.length := by omega
    subst hin
    exact hx a W (hK.sub _ (by repeat (first | exact trivial | refine ⟨rfl, ?_⟩))) hL

set_option maxRecDepth 20000 in
theorem law_end {Q : Exit → Act → World → Prop} (w0 : World) (nb mb : Nat) (us : List Bool) (rs ts : List Int) (hn : rs.length ≤ 1024) (ua ra ta : Option Addr) (uc rc tc : Nat) (a : Act) (W : World) (hK : Fm 92 [(9, .int .i64 (cnt (lead (upAt us) (roleAt rs)) rs.length)), (10, .int .i64 (lst (lead (upAt us) (roleAt rs)) rs.length)), (0, .slice ua us.length uc), (1, .slice ra rs.length rc), (2, .slice ta ts.length tc), (7, ptr mb), (8, .slice (some ⟨nb, 0, none⟩) rs.length rs.length)] a) (hL : Lw w0 nb rs.length rs.length (upAt us) (roleAt rs) mb W)
    (hx : ∀ a W, Fm 92 [(6, .bool true)] a → Fr [] w0 W → Q .ret a W) :
    Code.wp Yba.prog (codeOf Yba.f3 [1, 1, 1, 1, 1, 1, 1]) Q a W := by
  obtain ⟨hF, cs, hcs, hnd⟩ := hL
  show Code.wp _ (.seq (.region _ (opsOf Yba.f3 [1, 1, 1, 1, 1, 1, 1, 0]) false) (codeOf Yba.f3 [1, 1, 1, 1, 1, 1, 1, 1])) _ _ _
  refine srg ?_
  show wpList _ (opsOf Yba.f3 [1, 1, 1, 1, 1, 1, 1, 0]) _ [opAt Yba.f3 [1, 1, 1, 1, 1, 1, 1, 0] 0, opAt Yba.f3 [1, 1, 1, 1, 1, 1, 1, 0] 1, opAt Yba.f3 [1, 1, 1, 1, 1, 1, 1, 0] 2, opAt Yba.f3 [1, 1, 1, 1, 1, 1, 1, 0] 3] _ _
  refine stMv hK (wn rfl) rfl rfl rfl (by decide) fun a hK => ?_
  refine stBuild hK (wn rfl) rfl rfl ((by kernel_rfl : _ = Result.ok (Value.agg (worldC (.slice (some ⟨nb, 0, none⟩) rs.length rs.length))) _)) rfl (by decide) fun a hK => ?_
  refine st hK (wn rfl) (run_boxOp 68 _ rfl _ (hK.op rfl) _) rfl (by decide) fun a hK => ?_
  refine stAs hK (wn rfl) rfl rfl rfl (by decide) fun a hK => ?_
  show Code.wp _ (codeOf Yba.f3 [1, 1, 1, 1, 1, 1, 1, 1]) _ _ _
  have hF1 := hF.alloc (.cells (worldC (.slice (some ⟨nb, 0, none⟩) rs.length rs.length)) 68)
  have hcs1 := ((Fr.refl [] W).alloc (.cells (worldC (.slice (some ⟨nb, 0, none⟩) rs.length rs.length)) 68)).keep hcs (by simp)
  have hwb : (W.alloc (.cells (worldC (.slice (some ⟨nb, 0, none⟩) rs.length rs.length)) 68)).cell? ⟨W.heap.size, 0, none⟩ = some (.slice (some ⟨nb, 0, none⟩) rs.length rs.length) := (cell_at (heap_alloc_new _ _) 0).trans rfl
  show Code.wp _ (.seq (.region _ (opsOf Yba.f3 [1, 1, 1, 1, 1, 1, 1, 1, 0]) false) (codeOf Yba.f3 [1, 1, 1, 1, 1, 1, 1, 1, 1])) _ _ _
  refine srg ?_
  show wpList _ (opsOf Yba.f3 [1, 1, 1, 1, 1, 1, 1, 1, 0]) _ [opAt Yba.f3 [1, 1, 1, 1, 1, 1, 1, 1, 0] 0, opAt Yba.f3 [1, 1, 1, 1, 1, 1, 1, 1, 0] 1, opAt Yba.f3 [1, 1, 1, 1, 1, 1, 1, 1, 0] 2] _ _
  refine stMv hK (wn rfl) rfl rfl rfl (by decide) fun a hK => ?_
  refine stCall hK rfl rfl rfl (R := fun v w' => v = .int .i64 (sole (lead (upAt us) (roleAt rs)) rs.length) ∧ Fr [] _ w') (fun w => by kernel_rfl) ((sole_leader _ nb mb rs.length hn (upAt us) (roleAt rs) cs hnd.nd _ hcs1 hwb).mono fun _ _ h => ⟨_, h.1, rfl, h.2⟩) rfl (by decide) fun v a W2 hR hK => ?_
  obtain ⟨rfl, hF2⟩ := hR
  refine stAs hK (wn rfl) rfl rfl rfl (by decide) fun a hK => ?_
  show Code.wp _ (codeOf Yba.f3 [1, 1, 1, 1, 1, 1, 1, 1, 1]) _ _ _
  show Code.wp _ (.seq (.region _ (opsOf Yba.f3 [1, 1, 1, 1, 1, 1, 1, 1, 1, 0]) false) (codeOf Yba.f3 [1, 1, 1, 1, 1, 1, 1, 1, 1, 1])) _ _ _
  refine srg ?_
  show wpList _ (opsOf Yba.f3 [1, 1, 1, 1, 1, 1, 1, 1, 1, 0]) _ [opAt Yba.f3 [1, 1, 1, 1, 1, 1, 1, 1, 1, 0] 0] _ _
  refine stAs hK (wn rfl) rfl rfl rfl (by decide) fun a hK => ?_
  show Code.wp _ (codeOf Yba.f3 [1, 1, 1, 1, 1, 1, 1, 1, 1, 1]) _ _ _
  show Code.wp _ (.seq (.seq (.region _ (opsOf Yba.f3 [1, 1, 1, 1, 1, 1, 1, 1, 1, 1, 0, 0]) false) (codeOf Yba.f3 [1, 1, 1, 1, 1, 1, 1, 1, 1, 1, 0, 1])) (codeOf Yba.f3 [1, 1, 1, 1, 1, 1, 1, 1, 1, 1, 1])) _ _ _
  refine wp_seq (srg ?_)
  show wpList _ (opsOf Yba.f3 [1, 1, 1, 1, 1, 1, 1, 1, 1, 1, 0, 0]) _ [opAt Yba.f3 [1, 1, 1, 1, 1, 1, 1, 1, 1, 1, 0, 0] 0, opAt Yba.f3 [1, 1, 1, 1, 1, 1, 1, 1, 1, 1, 0, 0] 1] _ _
  refine stMv hK (wn rfl) rfl rfl rfl (by decide) fun a hK => ?_
  refine stBin hK (wn rfl) rfl rfl rfl (int_eql) rfl (by decide) fun a hK => ?_
  have hfin : ∀ a, Fm 92 [(16, .int .i64 (sole (lead (upAt us) (roleAt rs)) rs.length)), (17, .int .i64 (sole (lead (upAt us) (roleAt rs)) rs.length))] a → Code.wp Yba.prog (codeOf Yba.f3 [1, 1, 1, 1, 1, 1, 1, 1, 1, 1, 1]) Q a W2 := by
    intro a hK
    show Code.wp _ (.seq (.region _ (opsOf Yba.f3 [1, 1, 1, 1, 1, 1, 1, 1, 1, 1, 1, 0]) false) .ret) _ _ _
    refine srg ?_
    show wpList _ (opsOf Yba.f3 [1, 1, 1, 1, 1, 1, 1, 1, 1, 1, 1, 0]) _ [opAt Yba.f3 [1, 1, 1, 1, 1, 1, 1, 1, 1, 1, 1, 0] 0, opAt Yba.f3 [1, 1, 1, 1, 1, 1, 1, 1, 1, 1, 1, 0] 1, opAt Yba.f3 [1, 1, 1, 1, 1, 1, 1, 1, 1, 1, 1, 0] 2, opAt Yba.f3 [1, 1, 1, 1, 1, 1, 1, 1, 1, 1, 1, 0] 3] _ _
    refine stMv hK (wn rfl) rfl rfl rfl (by decide) fun a hK => ?_
    refine stMv hK (wn rfl) rfl rfl rfl (by decide) fun a hK => ?_
    refine stBin hK (wn rfl) rfl rfl rfl (int_eql) rfl (by decide) fun a hK => ?_
    refine stAs hK (wn rfl) rfl rfl rfl (by decide) fun a hK => ?_
    exact wp_ret (hx a W2 (by rw [decide_eq_true rfl] at hK; exact hK.sub _ ⟨rfl, trivial⟩) (hF1.trans hF2))
  by_cases h1 : ((cnt (lead (upAt us) (roleAt rs)) rs.length : Nat) : Int) = 1
  · have e : sole (lead (upAt us) (roleAt rs)) rs.length = lst (lead (upAt us) (roleAt rs)) rs.length := by unfold sole; rw [if_pos (by omega)]
    rw [decide_eq_true h1] at hK
    show Code.wp _ (.cond (.tmp 87) (codeOf Yba.f3 [1, 1, 1, 1, 1, 1, 1, 1, 1, 1, 0, 1, 2]) .skip) _ _ _
    refine wp_cond_true (hK.op rfl) ?_
    show Code.wp _ (.region _ (opsOf Yba.f3 [1, 1, 1, 1, 1, 1, 1, 1, 1, 1, 0, 1, 2]) false) _ _ _
    refine wp_region_list ?_
    show wpList _ (opsOf Yba.f3 [1, 1, 1, 1, 1, 1, 1, 1, 1, 1, 0, 1, 2]) _ [opAt Yba.f3 [1, 1, 1, 1, 1, 1, 1, 1, 1, 1, 0, 1, 2] 0, opAt Yba.f3 [1, 1, 1, 1, 1, 1, 1, 1, 1, 1, 0, 1, 2] 1] _ _
    refine stMv hK (wn rfl) rfl rfl rfl (by decide) fun a hK => ?_
    refine stAs hK (wn rfl) rfl rfl rfl (by decide) fun a hK => ?_
    show Code.wp _ (codeOf Yba.f3 [1, 1, 1, 1, 1, 1, 1, 1, 1, 1, 1]) _ _ _
    refine hfin a ?_
    rw [e] at hK ⊢
    exact hK.sub _ (by repeat (first | exact trivial | refine ⟨rfl, ?_⟩))
  · have e : sole (lead (upAt us) (roleAt rs)) rs.length = -1 := by unfold sole; rw [if_neg (by omega)]
    rw [decide_eq_false h1] at hK
    show Code.wp _ (.cond (.tmp 87) (codeOf Yba.f3 [1, 1, 1, 1, 1, 1, 1, 1, 1, 1, 0, 1, 2]) .skip) _ _ _
    refine wp_cond_false (hK.op rfl) (wp_skip ?_)
    show Code.wp _ (codeOf Yba.f3 [1, 1, 1, 1, 1, 1, 1, 1, 1, 1, 1]) _ _ _
    refine hfin a ?_
    rw [e] at hK ⊢
    exact hK.sub _ (by repeat (first | exact trivial | refine ⟨rfl, ?_⟩))

set_option maxRecDepth 20000 in
theorem the_law (us : List Bool) (rs ts : List Int) (hr0 : ∀ (i : Nat) x, rs[i]? = some x → 0 ≤ x) (ua ra ta : Option Addr) (uc rc tc : Nat) (w : World) (hu : boolsAt ua us w) (hr : cellsAt .u8 ra rs w) (ht : cellsAt .u64 ta ts w) :
    Calls Yba.prog 3 #[.slice ua us.length uc, .slice ra rs.length rc, .slice ta ts.length tc] w fun e w' => e = .returned (.bool true) ∧ Fr [] w w' := by
  go_enter Yba.func3, Yba.ntmps3
  show Code.wp _ (codeOf Yba.f3 []) _ _ _
  refine Fm.begin 92 [(0, .slice ua us.length uc), (1, .slice ra rs.length rc), (2, .slice ta ts.length tc)] rfl rfl ⟨rfl, rfl, rfl, trivial⟩ fun a hK => ?_
  show Code.wp _ (.seq (.region _ (opsOf Yba.f3 [0]) false) (codeOf Yba.f3 [1])) _ _ _
  refine srg ?_
  show wpList _ (opsOf Yba.f3 [0]) _ [opAt Yba.f3 [0] 0] _ _
  refine stAs hK (wn rfl) rfl rfl rfl (by decide) fun a hK => ?_
  show Code.wp _ (codeOf Yba.f3 [1]) _ _ _
  show Code.wp _ (.seq (.seq (.region _ (opsOf Yba.f3 [1, 0, 0]) false) (codeOf Yba.f3 [1, 0, 1])) (codeOf Yba.f3 [1, 1])) _ _ _
  refine wp_seq (srg ?_)
  show wpList _ (opsOf Yba.f3 [1, 0, 0]) _ [opAt Yba.f3 [1, 0, 0] 0, opAt Yba.f3 [1, 0, 0] 1, opAt Yba.f3 [1, 0, 0] 2] _ _
  refine stMv hK (wn rfl) rfl rfl rfl (by decide) fun a hK => ?_
  refine stLenS hK (wn rfl) rfl Yba.underlying23 rfl rfl (by decide) fun a hK => ?_
  by_cases hn : 1024 < rs.length
  · refine stBin hK (wn rfl) rfl rfl rfl (gtrT (by omega)) rfl (by decide) fun a hK => ?_
    show Code.wp _ (.cond (.tmp 20) (.seq (.region _ (opsOf Yba.f3 [1, 0, 1, 2, 0]) false) .ret) .skip) _ _ _
    refine wp_cond_true (hK.op rfl) (srg ?_)
    show wpList _ (opsOf Yba.f3 [1, 0, 1, 2, 0]) _ [opAt Yba.f3 [1, 0, 1, 2, 0] 0] _ _
    refine stAs hK (wn rfl) rfl rfl rfl (by decide) fun a hK => ?_
    refine wp_ret ?_
    try dsimp only [Exit.then]
    exact bodyPost_ret (result_of hK rfl rfl _) hK.defers ⟨rfl, Fr.refl _ _⟩
  refine stBin hK (wn rfl) rfl rfl rfl (gtrF (by omega)) rfl (by decide) fun a hK => ?_
  show Code.wp _ (.cond (.tmp 20) (codeOf Yba.f3 [1, 0, 1, 2]) .skip) _ _ _
  refine wp_cond_false (hK.op rfl) (wp_skip ?_)
  show Code.wp _ (codeOf Yba.f3 [1, 1]) _ _ _
  show Code.wp _ (.seq (.region _ (opsOf Yba.f3 [1, 1, 0]) false) (codeOf Yba.f3 [1, 1, 1])) _ _ _
  refine srg ?_
  show wpList _ (opsOf Yba.f3 [1, 1, 0]) _ [opAt Yba.f3 [1, 1, 0] 0, opAt Yba.f3 [1, 1, 0] 1, opAt Yba.f3 [1, 1, 0] 2] _ _
  refine stBuild hK (wn rfl) rfl rfl ((by kernel_rfl : _ = Result.ok (Value.agg machC) _)) rfl (by decide) fun a hK => ?_
  refine st hK (wn rfl) (run_boxOp 44 _ rfl _ (hK.op rfl) _) rfl (by decide) fun a hK => ?_
  refine stAs hK (wn rfl) rfl rfl rfl (by decide) fun a hK => ?_
  show Code.wp _ (codeOf Yba.f3 [1, 1, 1]) _ _ _
  show Code.wp _ (.seq (.region _ (opsOf Yba.f3 [1, 1, 1, 0]) false) (codeOf Yba.f3 [1, 1, 1, 1])) _ _ _
  refine srg ?_
  show wpList _ (opsOf Yba.f3 [1, 1, 1, 0]) _ [opAt Yba.f3 [1, 1, 1, 0] 0, opAt Yba.f3 [1, 1, 1, 0] 1, opAt Yba.f3 [1, 1, 1, 0] 2, opAt Yba.f3 [1, 1, 1, 0] 3] _ _
  refine stMv hK (wn rfl) rfl rfl rfl (by decide) fun a hK => ?_
  refine stLenS hK (wn rfl) rfl Yba.underlying23 rfl rfl (by decide) fun a hK => ?_
  refine st hK (wn rfl) (run_mk _ _ rfl rs.length (by omega) (hK.op rfl) (hK.op rfl) _) rfl (by decide) fun a hK => ?_
  refine stAs hK (wn rfl) rfl rfl rfl (by decide) fun a hK => ?_
  show Code.wp _ (codeOf Yba.f3 [1, 1, 1, 1]) _ _ _
  show Code.wp _ (.seq (.region _ (opsOf Yba.f3 [1, 1, 1, 1, 0]) false) (codeOf Yba.f3 [1, 1, 1, 1, 1])) _ _ _
  refine srg ?_
  show wpList _ (opsOf Yba.f3 [1, 1, 1, 1, 0]) _ [opAt Yba.f3 [1, 1, 1, 1, 0] 0] _ _
  refine stAs hK (wn rfl) rfl rfl rfl (by decide) fun a hK => ?_
  show Code.wp _ (codeOf Yba.f3 [1, 1, 1, 1, 1]) _ _ _
  show Code.wp _ (.seq (.region _ (opsOf Yba.f3 [1, 1, 1, 1, 1, 0]) false) (codeOf Yba.f3 [1, 1, 1, 1, 1, 1])) _ _ _
  refine srg ?_
  show wpList _ (opsOf Yba.f3 [1, 1, 1, 1, 1, 0]) _ [opAt Yba.f3 [1, 1, 1, 1, 1, 0] 0] _ _
  refine stAs hK (wn rfl) rfl rfl rfl (by decide) fun a hK => ?_
  show Code.wp _ (codeOf Yba.f3 [1, 1, 1, 1, 1, 1]) _ _ _
  refine law_loop w _ w.heap.size (by simp) us rs ts (by omega) hr0 ua ra ta uc rc tc hu hr ht a _ (hK.sub _ (by repeat (first | exact trivial | refine ⟨rfl, ?_⟩))) ⟨((Fr.refl [] w).alloc _).alloc _, _, heap_alloc_new _ _, made_nd _ _ _ _⟩ fun a W hK hL => ?_
  exact law_end w _ _ us rs ts (by omega) ua ra ta uc rc tc a W hK hL fun a W hK hF => bodyPost_ret (result_of hK rfl rfl _) hK.defers ⟨rfl, hF⟩

end Go.Proofs.Ybulkaesm
