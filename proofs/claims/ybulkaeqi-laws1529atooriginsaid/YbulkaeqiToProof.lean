/-
  THE STATEMENT 'Rows.LawS1529AToOriginSaid', PROVED.
-/
import Derived.Test.YbulkaeqiToLoc
import Derived.Test.YbulkaeqiToNot
import Derived.Test.YbulkaeqiLift
namespace Go.Proofs.Ybulkaeqi
open Go.ChangeShapes Go.WideShapes Go.ChangeAt Go.RowKit
open Go.ChangeMaps (open_string)

theorem Yba.own : ownKnob Yba.prog.godebug = none := by kernel_rfl
theorem Yba.laidOut : laidOutB Yba.prog = true := by kernel_rfl
theorem Yba.cells9 : Yba.prog.cellsOf 9 = 1 := by kernel_rfl

/-- The walk, every way. -/
theorem law_to (s t : ByteArray) (req hops : Int) (found loc : Bool) (ao : Option Addr) (n c : Nat) (strs : List Value) (hl : strs.length = n) (hnc : n ≤ c) (hc : c ≤ maxLen) (hao : ao = none → n = 0 ∧ c = 0) (hstr : ∀ u ∈ strs, ∃ t, u = .string t)
    (w : World) (hold : ∀ b, ao = some b → ∀ j u, strs[j]? = some u → w.cell? (b.add j) = some u) :
    Calls Yba.prog 3 #[.string s, .string t, .int .u64 req, .int .i64 hops, .bool found, .bool loc, .slice ao n c] w fun e w' => e = .returned (.bool true) ∧ Fr [] w w' := by
  by_cases hn : 1024 < n
  · exact law_long s t req hops found loc ao n c hn (by omega) w
  · cases loc with
    | true => exact law_loc s t req hops found ao n c strs hl (by omega) hnc hc hao hstr w hold
    | false => exact law_not s t req hops found ao n c (by omega) w

set_option maxRecDepth 10000 in
/-- A []string as the walks want it. -/
theorem strings_view {H : Type} {enc : TypeId × Value → H} {W : World} {v : Value} {d : DataW H} {p : List MemPlace} {base : Nat} (hv : Value.okWide Yba.prog W .any base 23 v) (h : DataW.Trod enc Yba.prog W 0 (fun _ => true) true 23 v d p) :
    ∃ (ao : Option Addr) (n c : Nat) (strs : List Value), v = .slice ao n c ∧ strs.length = n ∧ n ≤ c ∧ c ≤ maxLen ∧ (ao = none → n = 0 ∧ c = 0) ∧ (∀ u ∈ strs, ∃ t, u = .string t) ∧ (∀ b, ao = some b → ∀ j u, strs[j]? = some u → W.cell? (b.add j) = some u) := by
  obtain ⟨a0, len, cap, rfl⟩ := okWide_slice Yba.underlying23 hv
  obtain ⟨fuel, hf⟩ := h
  rcases open_strings Yba.underlying23 Yba.underlying9 Yba.cells9 hf with ⟨hcs, _⟩ | ⟨a, len', cap', ss, hcs, _, hl, hm, hz, _, hcell, _⟩
  · simp [Value.cells] at hcs
    obtain ⟨rfl, rfl, rfl⟩ := hcs
    exact ⟨none, 0, 0, [], rfl, rfl, Nat.le_refl _, Nat.zero_le _, fun _ => ⟨rfl, rfl⟩, by simp, by simp⟩
  · simp [Value.cells] at hcs
    obtain ⟨rfl, rfl, rfl⟩ := hcs
    simp only [if_true] at hz
    refine ⟨some a, len, cap, (ss.take len).map Value.string, rfl, by simp; omega, hl, hm, fun h => by simp at h, ?_, ?_⟩
    · intro u hu
      obtain ⟨x, _, rfl⟩ := List.mem_map.1 hu
      exact ⟨x, rfl⟩
    · intro b hb j u hj
      obtain rfl : a = b := by simpa using hb
      simp only [List.getElem?_map, Option.map_eq_some_iff] at hj
      obtain ⟨x, hx, rfl⟩ := hj
      rw [List.getElem?_take] at hx
      split at hx
      · rename_i hlt
        have hjs : j < ss.length := by omega
        rw [hcell j hjs, List.getD_eq_getElem?_getD, hx]
        rfl
      · cases hx

set_option maxRecDepth 100000 in
theorem to_lifted (os : Os) (started : os.Started) (H : Type) (enc : TypeId × Value → H) :
    ReturnsInHanded {} Yba.checked os 3 .any (Rows.lawS1529AToOriginSpec.pre6 enc Yba.prog Yba.f3 Rows.lawS1529AToOriginRow.domain false) (Rows.lawS1529AToOriginSpec.post enc Yba.prog Yba.f3 false true false false) := by
  refine returnsInHanded_of_change (C := Yba.checked) Yba.own started (by kernel_rfl) Yba.func3
    (ChangeSpec.witness6 (enc := enc) (C := Yba.checked) false ⟨#[], #[.string ByteArray.empty, .string ByteArray.empty, .int .u64 0, .int .i64 0, .bool false, .bool false, .slice none 0 0], []⟩ 8 (by kernel_rfl) (by kernel_rfl) (by kernel_rfl) (by kernel_rfl)) ?_
  intro W base args ds gs before hval0 hW hcnd _
  have hval : ∀ (j : Nat) t v, Yba.f3.params[j]? = some t → args[j]? = some v → Value.okWide Yba.prog W .any base t v := hval0
  have hW' := hW
  obtain ⟨p, q, hA0, hV, rfl, hfz, hnd⟩ := hW
  have hA : DataW.TrodAll enc Yba.prog W 0 (fun _ => true) true Yba.f3.params.toList args.toList ds p := hA0
  rw [Yba.params3] at hA hval
  obtain ⟨v0, vs0, d0, ds0, p0, q0, hargs, rfl, rfl, h0, r0⟩ := trodAll_cons hA
  obtain ⟨v1, vs1, d1, ds1, p1, q1, rfl, rfl, rfl, h1, r1⟩ := trodAll_cons r0
  obtain ⟨v2, vs2, d2, ds2, p2, q2, rfl, rfl, rfl, h2, r2⟩ := trodAll_cons r1
  obtain ⟨v3, vs3, d3, ds3, p3, q3, rfl, rfl, rfl, h3, r3⟩ := trodAll_cons r2
  obtain ⟨v4, vs4, d4, ds4, p4, q4, rfl, rfl, rfl, h4, r4⟩ := trodAll_cons r3
  obtain ⟨v5, vs5, d5, ds5, p5, q5, rfl, rfl, rfl, h5, r5⟩ := trodAll_cons r4
  obtain ⟨v6, vs6, d6, ds6, p6, q6, rfl, rfl, rfl, h6, r6⟩ := trodAll_cons r5
  obtain ⟨rfl, rfl, rfl⟩ := trodAll_nil r6
  obtain rfl : args = #[v0, v1, v2, v3, v4, v5, v6] := by cases args; simp_all
  obtain ⟨rfl, rfl⟩ := trodVars_none hV
  obtain ⟨a0, rfl, _, _, _⟩ := open_string Yba.underlying9 (hval 0 9 v0 rfl rfl) h0
  obtain ⟨a1, rfl, _, _, _⟩ := open_string Yba.underlying9 (hval 1 9 v1 rfl rfl) h1
  obtain ⟨a2, rfl, _, _, _⟩ := open_int Yba.underlying22 (hval 2 22 v2 rfl rfl) h2
  obtain ⟨a3, rfl, _, _, _⟩ := open_int Yba.underlying3 (hval 3 3 v3 rfl rfl) h3
  obtain ⟨a4, rfl, _, _⟩ := open_bool Yba.underlying4 (hval 4 4 v4 rfl rfl) h4
  obtain ⟨a5, rfl, _, _⟩ := open_bool Yba.underlying4 (hval 5 4 v5 rfl rfl) h5
  obtain ⟨ao, n, c, strs, rfl, g1, g2, g3, g4, g5, g6⟩ := strings_view (hval 6 23 v6 rfl rfl) h6
  refine (law_to a0 a1 a2 a3 a4 a5 ao n c strs g1 g2 g3 g4 g5 W g6).mono fun e W' ⟨he, hg⟩ => ?_
  subst he
  exact ⟨_, rfl, law_post (tb := 4) Yba.laidOut rfl (by kernel_rfl) Yba.underlying4 (by kernel_rfl) hW' ⟨rfl, rfl, rfl⟩ (hg.below (Nat.le_refl _) (by simp))⟩

theorem to_holds : Rows.LawS1529AToOriginSaid :=
  OpenClaim.holds_of_wide 3 Yba.f3 rfl rfl rfl rfl rfl rfl rfl ⟨rfl, rfl, rfl, rfl, rfl⟩ rfl rfl rfl rfl rfl (by kernel_rfl) Yba.func3 (by kernel_rfl)
    (of_decide_eq_true (by kernel_rfl)) (by unfold Func.isWrapper; first | (rw [if_pos (by decide +kernel)]; kernel_rfl) | (rw [if_neg (by decide +kernel)]; exact ⟨rfl, rfl⟩))
    (fun os started H enc _ => to_lifted os started H enc)
end Go.Proofs.Ybulkaeqi
