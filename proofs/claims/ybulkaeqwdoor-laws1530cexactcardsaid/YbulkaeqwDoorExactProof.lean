/-
  THE STATEMENT 'Rows.LawS1530CExactCardSaid', PROVED.
-/
import Derived.Test.YbulkaeqwDoorExact
import Derived.Test.YbulkaeqwDoorViews
import Derived.Test.YbulkaeqwDoorTie
import Derived.Test.YbulkaeqwDoorCards
import Derived.SevenTiedAt
namespace Go.Proofs.YbulkaeqwDoor
open Go.ChangeShapes Go.WideShapes Go.ChangeAt Go.RowKit
set_option maxRecDepth 100000 in
theorem exact_lifted (os : Os) (started : os.Started) (H : Type) (enc : TypeId × Value → H) :
    ReturnsInHanded {} Ybad.checked os 3 .any (fun w args => (Rows.lawS1530CExactSpec.pre enc Ybad.prog Ybad.f3 [] false w args ∧ laidMetH Ybad.prog Rows.lawS1530CExactRow.laid w) ∧ sizedMet enc Ybad.prog Ybad.f3 (OpenSpec.ofChange Rows.lawS1530CExactSpec) false w args)
      (Rows.lawS1530CExactSpec.post enc Ybad.prog Ybad.f3 false true false false) := by
  refine returnsInHanded_of_change_and (C := Ybad.checked) (X := fun w _ => laidMetH Ybad.prog Rows.lawS1530CExactRow.laid w) (fun _ _ _ hh h => h.of_heap hh) Ybad.own started (by kernel_rfl) Ybad.func3
    (ChangeSpec.witness_at (enc := enc) (C := Ybad.checked) (os := os) (X := fun w _ => laidMetH Ybad.prog Rows.lawS1530CExactRow.laid w) false (laidWorldOf Ybad.prog os) #[.slice none 0 0, .int .i64 0, .bool false] 8 rfl (by kernel_rfl) (by kernel_rfl) (by kernel_rfl) (by kernel_rfl) (by kernel_rfl) (laid_met os _)) ?_
  intro W base args ds gs before hval0 hW _ _ hL _
  have hval : ∀ (j : Nat) t v, Ybad.f3.params[j]? = some t → args[j]? = some v → Value.okWide Ybad.prog W .any base t v := hval0
  have hW' := hW
  obtain ⟨p, q, hA0, hV0, rfl, hfz, hnd⟩ := hW
  have hA : DataW.TrodAll enc Ybad.prog W 0 (fun _ => true) true Ybad.f3.params.toList args.toList ds p := hA0
  have hV : DataW.TrodVars enc Ybad.prog W (fun _ => true) [errName] gs q := hV0
  rw [Ybad.params3] at hA hval
  obtain ⟨v0, vs0, d0, ds0, p0, q0, hargs, rfl, rfl, h0, r0⟩ := trodAll_cons hA
  obtain ⟨v1, vs1, d1, ds1, p1, q1, rfl, rfl, rfl, h1, r1⟩ := trodAll_cons r0
  obtain ⟨v2, vs2, d2, ds2, p2, q2, rfl, rfl, rfl, h2, r2⟩ := trodAll_cons r1
  obtain ⟨rfl, rfl, rfl⟩ := trodAll_nil r2
  obtain rfl : args = #[v0, v1, v2] := by cases args; simp_all
  obtain ⟨ba, bc, xs, rfl, hb⟩ := bytes_view (hval 0 22 v0 rfl rfl) h0
  obtain ⟨a1, rfl, _, _, _⟩ := open_int Ybad.underlying3 (hval 1 3 v1 rfl rfl) h1
  obtain ⟨a2, rfl, _, _⟩ := open_bool Ybad.underlying4 (hval 2 4 v2 rfl rfl) h2
  have hL' : laidMet Ybad.prog Rows.lawS1530CExactRow.laid W := hL
  obtain ⟨a0, s0, hv0, hc0, hs0, hz0⟩ := laid_sentinel hL' Ybad.gE Ybad.gEType Ybad.underlying25 (fun u h => typeName_ptr_named (nm := "errors.errorString") (by kernel_rfl) (by kernel_rfl) (by decide) u (h.trans (congrArg some (by decide)))) Ybad.underlying36 Ybad.underlying38 rfl rfl Ybad.underlying9 Ybad.cells38 Ybad.cells9
  obtain ⟨rfl, rfl⟩ := hV.unique (vars_read1 enc Ybad.gE Ybad.gEType Ybad.underlying25 hv0 trivial _)
  refine (exact_law xs ba bc a1 a2 a0 W hb (by unfold errV; simpa using World.var?_cell Ybad.gE hv0 0)).mono fun e W' ⟨he, hg⟩ => ?_
  subst he
  exact ⟨_, rfl, law_post1 (tb := 4) Ybad.laidOut (by kernel_rfl) Ybad.underlying4 (by kernel_rfl) hW' ⟨rfl, rfl, rfl⟩ (hg.below (Nat.le_refl _) (by simp)) (vars_read1 enc Ybad.gE Ybad.gEType Ybad.underlying25 (var_stays hv0 hg) trivial _)⟩
theorem exact_row : Rows.LawS1530CExactSaid :=
  OpenClaim.holds_of_wide 3 Ybad.f3 rfl rfl rfl rfl rfl rfl rfl ⟨rfl, rfl, rfl, rfl, rfl⟩ rfl rfl rfl rfl rfl (by kernel_rfl) Ybad.func3 (by kernel_rfl)
    (of_decide_eq_true (by kernel_rfl)) (by unfold Func.isWrapper; first | (rw [if_pos (by decide +kernel)]; kernel_rfl) | (rw [if_neg (by decide +kernel)]; exact ⟨rfl, rfl⟩))
    (fun os started H enc _ => exact_lifted os started H enc)
theorem exact_card_holds : Rows.LawS1530CExactCardSaid :=
  Claim7.holds_tied_plain_at .later [] [.sentinel] true (true, "5900e914ae8c26868adeebd61849619ed0a3f27321df60307d01f4fcfef254aa") true
    exact_row (fun _ h => by cases h) (by kernel_rfl) (fun _ h => by cases h) lawS1530CExact_row_tie rfl ⟨rfl, rfl⟩ (by kernel_rfl) rfl
    (fun f fn hf hfn => by
      obtain rfl : f = 3 := Option.some.inj ((show Ybad.prog.funcNamed Rows.lawS1530CExactRow.func = some 3 by kernel_rfl).symm.trans hf) |>.symm
      obtain rfl : fn = Ybad.f3 := (Option.some.inj (Ybad.func3.symm.trans hfn)).symm
      exact ⟨by kernel_rfl, fun j t ht => by
        rw [Ybad.params3] at ht
        have h3 : t = 22 ∨ t = 3 ∨ t = 4 := by
          rcases j with _ | _ | _ | j
          · left; simpa using ht.symm
          · right; left; simpa using ht.symm
          · right; right; simpa using ht.symm
          · simp at ht
        rcases h3 with rfl | rfl | rfl
        · exact (show Ybad.prog.wantsStandIn 22 = false by kernel_rfl)
        · exact (show Ybad.prog.wantsStandIn 3 = false by kernel_rfl)
        · exact (show Ybad.prog.wantsStandIn 4 = false by kernel_rfl)⟩)
    (by kernel_rfl)
end Go.Proofs.YbulkaeqwDoor
