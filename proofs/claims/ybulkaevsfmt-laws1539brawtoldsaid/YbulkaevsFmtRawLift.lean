import Derived.Test.YbulkaevsFmtViews
import Derived.Test.YbulkaevsFmtTie
import Derived.Test.YbulkaevsFmtCards
import Derived.SevenTiedAt
import Derived.Stop.JoinedTold
import Derived.Stop.JoinedAt
namespace Go.Proofs.YbulkaevsFmt
open Go.ChangeShapes Go.WideShapes Go.ChangeAt Go.RowKit Go.Extern.Stop Go.Stop Go.Extern
set_option maxRecDepth 100000 in
theorem raw_lifted (os : Os) (started : os.Started) (H : Type) (enc : TypeId × Value → H) :
    ReturnsInTold none {} Ybaf.checked os 3 .any Input.okWide ((OpenSpec.ofChange Rows.lawS1539BRawSpec).preRow enc Ybaf.prog Ybaf.f3 [] false Rows.lawS1539BRawRow.laid) (fun F => ((OpenSpec.ofChange Rows.lawS1539BRawSpec).at F.told).post enc Ybaf.prog Ybaf.f3 false true false false) (aloneAtReturn Ybaf.prog) nothingAlways := by
  refine returnsInTold_of_row (C := Ybaf.checked) (s := OpenSpec.ofChange Rows.lawS1539BRawSpec) (by kernel_rfl) Ybaf.own started (by kernel_rfl) Ybaf.func3
    (OpenSpec.witness_stopped_at (enc := enc) (C := Ybaf.checked) false (laidWorldOf Ybaf.prog os) #[.slice none 0 0] rfl (by kernel_rfl) (by kernel_rfl) (by kernel_rfl)
      (OpenSpec.preRow_of_B rfl 8 (by kernel_rfl) (by kernel_rfl) (laid_met os _))) ?_
  intro F W base args ds gs before _ hF hval0 hW _ _ _ hL _
  have hval : ∀ (j : Nat) t v, Ybaf.f3.params[j]? = some t → args[j]? = some v → Value.okWide Ybaf.prog W .any base t v := hval0
  have hW' := hW
  obtain ⟨p, q, hA0, hV0, rfl, hfz, hnd⟩ := hW
  have hA : DataW.TrodAll enc Ybaf.prog W 0 (fun _ => true) true Ybaf.f3.params.toList args.toList ds p := hA0
  have hV : DataW.TrodVars enc Ybaf.prog W (fun _ => true) [errName] gs q := hV0
  rw [Ybaf.params3] at hA hval
  obtain ⟨v0, d0, rfl, rfl, h0⟩ := trodAll_one hA
  obtain ⟨ao, n, c, rfl, hao⟩ := bytes_view (hval 0 22 v0 rfl rfl) h0
  obtain ⟨a0, s0, hv0, hc0, hs0, hz0⟩ := laid_sentinel hL Ybaf.gE Ybaf.gEType Ybaf.underlying27 (fun u h => typeName_ptr_named (nm := "errors.errorString") (by kernel_rfl) (by kernel_rfl) (by decide) u (h.trans (congrArg some (by decide)))) Ybaf.underlying50 Ybaf.underlying52 rfl rfl Ybaf.underlying9 Ybaf.cells52 Ybaf.cells9
  obtain ⟨rfl, rfl⟩ := hV.unique (vars_read1 enc Ybaf.gE Ybaf.gEType Ybaf.underlying27 hv0 trivial _)
  refine (raw_law F.told a0 s0 ao n c W hF (by unfold errV; simpa using World.var?_cell Ybaf.gE hv0 0) hc0 hao).mono fun e W' ⟨he, hg⟩ => ?_
  subst he
  exact ⟨_, rfl, law_post1 (tb := 4) Ybaf.laidOut (by kernel_rfl) Ybaf.underlying4 (by kernel_rfl) hW' ⟨rfl, rfl, rfl⟩ (hg.below (Nat.le_refl _) (by simp)) (vars_read1 enc Ybaf.gE Ybaf.gEType Ybaf.underlying27 (var_stays hv0 hg) trivial _)⟩
end Go.Proofs.YbulkaevsFmt
