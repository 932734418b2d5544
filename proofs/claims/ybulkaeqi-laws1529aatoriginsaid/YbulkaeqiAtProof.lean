/-
  THE STATEMENT 'Rows.LawS1529AAtOriginSaid', PROVED.
-/
import Derived.Test.YbulkaeqiAtLaw
import Derived.Test.YbulkaeqiLift
namespace Go.Proofs.Ybulkaeqi
open Go.ChangeShapes Go.WideShapes Go.ChangeAt Go.RowKit
open Go.ChangeMaps (open_string)

theorem Yba.own : ownKnob Yba.prog.godebug = none := by kernel_rfl
theorem Yba.laidOut : laidOutB Yba.prog = true := by kernel_rfl
theorem Yba.cells9 : Yba.prog.cellsOf 9 = 1 := by kernel_rfl
theorem gtr_yes {n : Nat} {w : World} (hn : 1024 < n) : (do eqGuard .gtr 3 (.tmp 33) (.const (.int .i64 1024)) (.int .i64 n) (.int .i64 1024); binOp .gtr 3 (.int .i64 n) (.int .i64 1024) : Sem Value).run Yba.prog w = .ok (.bool true) w := by
  have : decide ((n : Int) > 1024) = true := by simp; omega
  show Result.ok (Value.bool (decide ((n : Int) > 1024))) w = _
  rw [this]
set_option maxRecDepth 20000 in
theorem at_long {Q : Exit → Act → World → Prop} (s : ByteArray) (req fst hops : Int) (found loc ph ah we : Bool) (ao : Option Addr) (n c : Nat) (hn : 1024 < n) (a : Act) (w : World) (hK : Fm 184 (K0 s req fst hops found loc ph ah we (.slice ao n c)) a)
    (h : ∀ a, Fm 184 [(20, .bool true)] a → Q .ret a w) :
    Code.wp Yba.prog (codeOf Yba.f4 []) Q a w := by
  show Code.wp _ (.seq (.region _ (opsOf Yba.f4 [0]) false) (codeOf Yba.f4 [1])) _ _ _
  refine srg ?_
  show wpList _ (opsOf Yba.f4 [0]) _ [opAt Yba.f4 [0] 0] _ _
  refine stAs hK (wn rfl) rfl rfl rfl (by decide) fun a hK => ?_
  show Code.wp _ (codeOf Yba.f4 [1]) _ _ _
  show Code.wp _ (.seq (.seq (.region _ (opsOf Yba.f4 [1, 0, 0]) false) (codeOf Yba.f4 [1, 0, 1])) (codeOf Yba.f4 [1, 1])) _ _ _
  refine wp_seq (srg ?_)
  show wpList _ (opsOf Yba.f4 [1, 0, 0]) _ [opAt Yba.f4 [1, 0, 0] 0, opAt Yba.f4 [1, 0, 0] 1, opAt Yba.f4 [1, 0, 0] 2] _ _
  refine stMv hK (wn rfl) rfl rfl rfl (by decide) fun a hK => ?_
  refine stLenS hK (wn rfl) rfl Yba.underlying23 rfl rfl (by decide) fun a hK => ?_
  refine stBin hK (wn rfl) rfl rfl rfl (gtr_yes hn) rfl (by decide) fun a hK => ?_
  show Code.wp _ (.cond (.tmp 34) (codeOf Yba.f4 [1, 0, 1, 2]) .skip) _ _ _
  refine wp_cond_true (hK.op rfl) ?_
  show Code.wp _ (.seq (.region _ (opsOf Yba.f4 [1, 0, 1, 2, 0]) false) .ret) _ _ _
  refine srg ?_
  show wpList _ (opsOf Yba.f4 [1, 0, 1, 2, 0]) _ [opAt Yba.f4 [1, 0, 1, 2, 0] 0] _ _
  refine stAs hK (wn rfl) rfl rfl rfl (by decide) fun a hK => ?_
  refine wp_ret (h _ (hK.sub _ ⟨rfl, trivial⟩))
set_option maxRecDepth 20000 in
/-- The walk, every way. -/
theorem law_at (s : ByteArray) (req fst hops : Int) (found loc ph ah we : Bool) (ao : Option Addr) (n c : Nat) (strs : List Value) (hl : strs.length = n) (hnc : n ≤ c) (hc : c ≤ maxLen) (hao : ao = none → n = 0 ∧ c = 0) (hstr : ∀ u ∈ strs, ∃ t, u = .string t) (w : World)
    (hold : ∀ b, ao = some b → ∀ j u, strs[j]? = some u → w.cell? (b.add j) = some u) :
    Calls Yba.prog 4 #[.string s, .int .u64 req, .int .u64 fst, .int .i64 hops, .bool found, .bool loc, .bool ph, .bool ah, .bool we, .slice ao n c] w fun e w' => e = .returned (.bool true) ∧ Fr [] w w' := by
  by_cases hn : 1024 < n
  · go_enter Yba.func4, Yba.ntmps4
    show Code.wp _ (codeOf Yba.f4 []) _ _ _
    refine at_long s req fst hops found loc ph ah we ao n c hn _ w (Fm.of rfl rfl (by repeat (first | exact trivial | refine ⟨rfl, ?_⟩))) fun a hK => ?_
    exact bodyPost_ret (law_result hK w) hK.defers ⟨rfl, Fr.refl _ _⟩
  · exact law_at_short s req fst hops found loc ph ah we ao n c strs hl (by omega) hnc hc hao hstr w hold

set_option maxRecDepth 10000 in
/-- A []string as the walks want it. -/
theorem strings_view {H : Type} {enc : TypeId × Value → H} {W : World} {v : Value} {d : DataW H} {p : List MemPlace} {base : Nat} (hv : Value.okWide Yba.prog W .any base 23 v) (h : DataW.Trod enc Yba.prog W 0 (fun _ => true) true 23 v d p) :
    ∃ (ao : Option Addr) (n c : Nat) (strs : List Value), v = .slice ao n c ∧ strs.length = n ∧ n ≤ c ∧ c ≤ maxLen ∧ (ao = none → n = 0 ∧ c = 0) ∧ (∀ u ∈ strs, ∃ t, u = .string t) ∧ (∀ b, ao = some b → ∀ j u, strs[j]? = some u → W.cell? (b.add j) = some u) := by
  obtain ⟨a0, len, cap, rfl⟩ := okWide_slice Yba.underlying23 hv
  obtain ⟨fuel, hf⟩ := h
  rcases open_strings Yba.underlying23 Yba.underlying9 Yba.cells9 hf with ⟨hcs, _⟩ | ⟨a, len', cap', ss, hcs, _, hl, hm, hz, _, hcell, _⟩
  · simp [Value.cells] at hcs
    obtain ⟨rfl, rfl, rfl⟩ := hcs
    exact ⟨none, 0, 0, [], rfl, rfl, Nat.le_refl _, Nat.zero_le _, fun _ => ⟨rfl, rfl⟩, by simp, by simp⟩
  · simp [Value.cells] at hcs
    obtain ⟨rfl, rfl, rfl⟩ := hcs
    simp only [if_true] at hz
    refine ⟨some a, len, cap, (ss.take len).map Value.string, rfl, by simp; omega, hl, hm, fun h => by simp at h, ?_, ?_⟩
    · intro u hu
      obtain ⟨x, _, rfl⟩ := List.mem_map.1 hu
      exact ⟨x, rfl⟩
    · intro b hb j u hj
      obtain rfl : a = b := by simpa using hb
      simp only [List.getElem?_map, Option.map_eq_some_iff] at hj
      obtain ⟨x, hx, rfl⟩ := hj
      rw [List.getElem?_take] at hx
      split at hx
      · rename_i hlt
        have hjs : j < ss.length := by omega
        rw [hcell j hjs, List.getD_eq_getElem?_getD, hx]
        rfl
      · cases hx

set_option maxRecDepth 100000 in
theorem at_lifted (os : Os) (started : os.Started) (H : Type) (enc : TypeId × Value → H) :
    ReturnsInHanded {} Yba.checked os 4 .any (Rows.lawS1529AAtOriginSpec.pre6 enc Yba.prog Yba.f4 Rows.lawS1529AAtOriginRow.domain false) (Rows.lawS1529AAtOriginSpec.post enc Yba.prog Yba.f4 false true false false) := by
  refine returnsInHanded_of_change (C := Yba.checked) Yba.own started (by kernel_rfl) Yba.func4
    (ChangeSpec.witness6 (enc := enc) (C := Yba.checked) false ⟨#[], #[.string ByteArray.empty, .int .u64 0, .int .u64 0, .int .i64 0, .bool false, .bool false, .bool false, .bool false, .bool false, .slice none 0 0], []⟩ 8 (by kernel_rfl) (by kernel_rfl) (by kernel_rfl) (by kernel_rfl)) ?_
  intro W base args ds gs before hval0 hW hcnd _
  have hval : ∀ (j : Nat) t v, Yba.f4.params[j]? = some t → args[j]? = some v → Value.okWide Yba.prog W .any base t v := hval0
  have hW' := hW
  obtain ⟨p, q, hA0, hV, rfl, hfz, hnd⟩ := hW
  have hA : DataW.TrodAll enc Yba.prog W 0 (fun _ => true) true Yba.f4.params.toList args.toList ds p := hA0
  rw [Yba.params4] at hA hval
  obtain ⟨v0, vs0, d0, ds0, p0, q0, hargs, rfl, rfl, h0, r0⟩ := trodAll_cons hA
  obtain ⟨v1, vs1, d1, ds1, p1, q1, rfl, rfl, rfl, h1, r1⟩ := trodAll_cons r0
  obtain ⟨v2, vs2, d2, ds2, p2, q2, rfl, rfl, rfl, h2, r2⟩ := trodAll_cons r1
  obtain ⟨v3, vs3, d3, ds3, p3, q3, rfl, rfl, rfl, h3, r3⟩ := trodAll_cons r2
  obtain ⟨v4, vs4, d4, ds4, p4, q4, rfl, rfl, rfl, h4, r4⟩ := trodAll_cons r3
  obtain ⟨v5, vs5, d5, ds5, p5, q5, rfl, rfl, rfl, h5, r5⟩ := trodAll_cons r4
  obtain ⟨v6, vs6, d6, ds6, p6, q6, rfl, rfl, rfl, h6, r6⟩ := trodAll_cons r5
  obtain ⟨v7, vs7, d7, ds7, p7, q7, rfl, rfl, rfl, h7, r7⟩ := trodAll_cons r6
  obtain ⟨v8, vs8, d8, ds8, p8, q8, rfl, rfl, rfl, h8, r8⟩ := trodAll_cons r7
  obtain ⟨v9, vs9, d9, ds9, p9, q9, rfl, rfl, rfl, h9, r9⟩ := trodAll_cons r8
  obtain ⟨rfl, rfl, rfl⟩ := trodAll_nil r9
  obtain rfl : args = #[v0, v1, v2, v3, v4, v5, v6, v7, v8, v9] := by cases args; simp_all
  obtain ⟨rfl, rfl⟩ := trodVars_none hV
  obtain ⟨a0, rfl, _, _, _⟩ := open_string Yba.underlying9 (hval 0 9 v0 rfl rfl) h0
  obtain ⟨a1, rfl, _, _, _⟩ := open_int Yba.underlying22 (hval 1 22 v1 rfl rfl) h1
  obtain ⟨a2, rfl, _, _, _⟩ := open_int Yba.underlying22 (hval 2 22 v2 rfl rfl) h2
  obtain ⟨a3, rfl, _, _, _⟩ := open_int Yba.underlying3 (hval 3 3 v3 rfl rfl) h3
  obtain ⟨a4, rfl, _, _⟩ := open_bool Yba.underlying4 (hval 4 4 v4 rfl rfl) h4
  obtain ⟨a5, rfl, _, _⟩ := open_bool Yba.underlying4 (hval 5 4 v5 rfl rfl) h5
  obtain ⟨a6, rfl, _, _⟩ := open_bool Yba.underlying4 (hval 6 4 v6 rfl rfl) h6
  obtain ⟨a7, rfl, _, _⟩ := open_bool Yba.underlying4 (hval 7 4 v7 rfl rfl) h7
  obtain ⟨a8, rfl, _, _⟩ := open_bool Yba.underlying4 (hval 8 4 v8 rfl rfl) h8
  obtain ⟨ao, n, c, strs, rfl, g1, g2, g3, g4, g5, g6⟩ := strings_view (hval 9 23 v9 rfl rfl) h9
  refine (law_at a0 a1 a2 a3 a4 a5 a6 a7 a8 ao n c strs g1 g2 g3 g4 g5 W g6).mono fun e W' ⟨he, hg⟩ => ?_
  subst he
  exact ⟨_, rfl, law_post (tb := 4) Yba.laidOut rfl (by kernel_rfl) Yba.underlying4 (by kernel_rfl) hW' ⟨rfl, rfl, rfl⟩ (hg.below (Nat.le_refl _) (by simp))⟩

theorem at_holds : Rows.LawS1529AAtOriginSaid :=
  OpenClaim.holds_of_wide 4 Yba.f4 rfl rfl rfl rfl rfl rfl rfl ⟨rfl, rfl, rfl, rfl, rfl⟩ rfl rfl rfl rfl rfl (by kernel_rfl) Yba.func4 (by kernel_rfl)
    (of_decide_eq_true (by kernel_rfl)) (by unfold Func.isWrapper; first | (rw [if_pos (by decide +kernel)]; kernel_rfl) | (rw [if_neg (by decide +kernel)]; exact ⟨rfl, rfl⟩))
    (fun os started H enc _ => at_lifted os started H enc)
end Go.Proofs.Ybulkaeqi
