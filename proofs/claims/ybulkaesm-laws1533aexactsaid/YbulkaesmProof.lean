/-
  THE STATEMENT 'Rows.LawS1533AExactSaid', PROVED.
-/
import Derived.Test.YbulkaesmLaw
import Derived.Test.YbulkaesmLift
import Derived.ChangeSlices
import Derived.OpenShut
import Derived.Deep.Grids
namespace Go.Proofs.Ybulkaesm
open Go.ChangeShapes Go.WideShapes Go.ChangeAt Go.RowKit
theorem Yba.own : ownKnob Yba.prog.godebug = none := by kernel_rfl
theorem Yba.laidOut : laidOutB Yba.prog = true := by kernel_rfl
theorem Yba.cells4 : Yba.prog.cellsOf 4 = 1 := by kernel_rfl
theorem Yba.cells5 : Yba.prog.cellsOf 5 = 1 := by kernel_rfl
theorem Yba.cells35 : Yba.prog.cellsOf 35 = 1 := by kernel_rfl
section
variable {H : Type} {enc : TypeId × Value → H}
theorem ints_view {t e : TypeId} {k : IntKind} (hu : Yba.prog.underlying t = some (.slice e)) (he : Yba.prog.underlying e = some (.int k)) (hc1 : Yba.prog.cellsOf e = 1) {W : World} {base : Nat} {v : Value} {d : DataW H} {p : List MemPlace} (hval : Value.okWide Yba.prog W .any base t v) (h : DataW.Trod enc Yba.prog W 0 (fun _ => true) true t v d p) :
    ∃ (a : Option Addr) (c : Nat) (ys : List Int), v = .slice a ys.length c ∧ cellsAt k a ys W ∧ ∀ y ∈ ys, (Lit.int k y).wf = true := by
  obtain ⟨a1, len, cap, rfl⟩ := okWide_slice hu hval
  obtain ⟨fuel, hf⟩ := h
  rcases open_ints hu he hc1 hf with ⟨hcs, hx⟩ | ⟨a, len', cap', zs, hcs, _, hl, hm, hz, hx, hcell, hwz⟩
  · simp [Value.cells] at hcs
    obtain ⟨rfl, rfl, rfl⟩ := hcs
    exact ⟨none, 0, [], rfl, ⟨fun _ => rfl, fun _ e => by cases e⟩, by simp⟩
  · simp [Value.cells] at hcs
    obtain ⟨rfl, rfl, rfl⟩ := hcs
    simp only [if_true] at hz
    have hlen : (zs.take len).length = len := by simp; omega
    refine ⟨some a, cap, zs.take len, by rw [hlen], ⟨(fun e => by cases e), fun ad e i y hy => ?_⟩, fun y hy => hwz y (List.mem_of_mem_take hy)⟩
    cases e
    have hi := (List.getElem?_eq_some_iff.1 hy).1
    rw [hlen] at hi
    rw [List.getElem?_take, if_pos hi] at hy
    rw [hcell i (by omega), List.getD_eq_getElem?_getD, hy]
    rfl
theorem bools_view {W : World} {base : Nat} {v : Value} {d : DataW H} {p : List MemPlace} (hval : Value.okWide Yba.prog W .any base 22 v) (h : DataW.Trod enc Yba.prog W 0 (fun _ => true) true 22 v d p) :
    ∃ (a : Option Addr) (c : Nat) (us : List Bool), v = .slice a us.length c ∧ boolsAt a us W := by
  obtain ⟨a1, len, cap, rfl⟩ := okWide_slice Yba.underlying22 hval
  obtain ⟨fuel, hf⟩ := h
  rcases Deep.open_bools Yba.underlying22 Yba.underlying4 Yba.cells4 hf with ⟨hcs, hx⟩ | ⟨a, len', cap', Bf, hcs, _, hl, hm, hx, hcell⟩
  · simp [Value.cells] at hcs
    obtain ⟨rfl, rfl, rfl⟩ := hcs
    exact ⟨none, 0, [], rfl, fun _ => rfl, fun _ e => by cases e⟩
  · simp [Value.cells] at hcs
    obtain ⟨rfl, rfl, rfl⟩ := hcs
    refine ⟨some a, cap, (List.range len).map Bf, by simp, (fun e => by cases e), fun ad e i x hx => ?_⟩
    cases e
    have hi := (List.getElem?_eq_some_iff.1 hx).1
    simp at hi
    rw [List.getElem?_map, List.getElem?_range hi] at hx
    cases hx
    exact hcell i (by omega)
end
set_option maxRecDepth 100000 in
theorem lifted (os : Os) (started : os.Started) (H : Type) (enc : TypeId × Value → H) :
    ReturnsInHanded {} Yba.checked os 3 .any (Rows.lawS1533AExactSpec.pre6 enc Yba.prog Yba.f3 Rows.lawS1533AExactRow.domain false) (Rows.lawS1533AExactSpec.post enc Yba.prog Yba.f3 false true false false) := by
  refine returnsInHanded_of_change (C := Yba.checked) Yba.own started (by kernel_rfl) Yba.func3
    (ChangeSpec.witness6 (enc := enc) (C := Yba.checked) false ⟨#[], #[.slice none 0 0, .slice none 0 0, .slice none 0 0], []⟩ 8 (by kernel_rfl) (by kernel_rfl) (by kernel_rfl) (by kernel_rfl)) ?_
  intro W base args ds gs before hval0 hW hcnd _
  have hval : ∀ (j : Nat) t v, Yba.f3.params[j]? = some t → args[j]? = some v → Value.okWide Yba.prog W .any base t v := hval0
  have hW' := hW
  obtain ⟨p, q, hA0, hV, rfl, hfz, hnd⟩ := hW
  have hA : DataW.TrodAll enc Yba.prog W 0 (fun _ => true) true Yba.f3.params.toList args.toList ds p := hA0
  rw [Yba.params3] at hA hval
  obtain ⟨v0, vs0, d0, ds0, p0, q0, hargs, rfl, rfl, h0, r0⟩ := trodAll_cons hA
  obtain ⟨v1, vs1, d1, ds1, p1, q1, rfl, rfl, rfl, h1, r1⟩ := trodAll_cons r0
  obtain ⟨v2, vs2, d2, ds2, p2, q2, rfl, rfl, rfl, h2, r2⟩ := trodAll_cons r1
  obtain ⟨rfl, rfl, rfl⟩ := trodAll_nil r2
  obtain rfl : args = #[v0, v1, v2] := by cases args; simp_all
  obtain ⟨rfl, rfl⟩ := trodVars_none hV
  obtain ⟨ua, uc, us, rfl, hu⟩ := bools_view (hval 0 22 v0 rfl rfl) h0
  obtain ⟨ra, rc, rs, rfl, hr, hrw⟩ := ints_view Yba.underlying23 Yba.underlying5 Yba.cells5 (hval 1 23 v1 rfl rfl) h1
  obtain ⟨ta, tc, ts, rfl, ht, _⟩ := ints_view Yba.underlying24 Yba.underlying35 Yba.cells35 (hval 2 24 v2 rfl rfl) h2
  refine (the_law us rs ts (fun i x hx => (bounds_u8 (hrw x (List.mem_of_getElem? hx))).1) ua ra ta uc rc tc W hu hr ht).mono fun e W' ⟨he, hg⟩ => ?_
  subst he
  exact ⟨_, rfl, law_post (tb := 4) Yba.laidOut rfl (by kernel_rfl) Yba.underlying4 (by kernel_rfl) hW' ⟨rfl, rfl, rfl⟩ (hg.below (Nat.le_refl _) (by simp))⟩

theorem exact_holds : Rows.LawS1533AExactSaid :=
  OpenClaim.holds_of_wide 3 Yba.f3 rfl rfl rfl rfl rfl rfl rfl ⟨rfl, rfl, rfl, rfl, rfl⟩ rfl rfl rfl rfl rfl (by kernel_rfl) Yba.func3 (by kernel_rfl)
    (of_decide_eq_true (by kernel_rfl)) (by unfold Func.isWrapper; first | (rw [if_pos (by decide +kernel)]; kernel_rfl) | (rw [if_neg (by decide +kernel)]; exact ⟨rfl, rfl⟩))
    (fun os started H enc _ => lifted os started H enc)
end Go.Proofs.Ybulkaesm
