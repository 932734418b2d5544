import Derived.Test.YbulkaevsFmtViews
import Derived.Test.YbulkaevsFmtEdges
import Derived.Test.YbulkaevsFmtTie
import Derived.Test.YbulkaevsFmtCards
import Derived.SevenTiedAt
import Derived.Stop.JoinedTold
import Derived.Stop.JoinedAt
namespace Go.Proofs.YbulkaevsFmt
open Go.ChangeShapes Go.WideShapes Go.ChangeAt Go.RowKit Go.Extern.Stop Go.Stop Go.Extern
theorem byte_wf {n : Int} (h : (Lit.int .u8 n).wf = true) : 0 ≤ n ∧ n < 256 := by
  have h' : (decide ((0 : Int) ≤ n) && decide (n ≤ 255)) = true := h
  simp at h'
  omega
set_option maxRecDepth 100000 in
theorem edges_lifted (os : Os) (started : os.Started) (H : Type) (enc : TypeId × Value → H) :
    ReturnsInTold none {} Ybaf.checked os 4 .any Input.okWide ((OpenSpec.ofChange Rows.lawS1539BEdgesSpec).preRow enc Ybaf.prog Ybaf.f4 [] false Rows.lawS1539BEdgesRow.laid) (fun F => ((OpenSpec.ofChange Rows.lawS1539BEdgesSpec).at F.told).post enc Ybaf.prog Ybaf.f4 false true false false) (aloneAtReturn Ybaf.prog) nothingAlways := by
  refine returnsInTold_of_row (C := Ybaf.checked) (s := OpenSpec.ofChange Rows.lawS1539BEdgesSpec) (by kernel_rfl) Ybaf.own started (by kernel_rfl) Ybaf.func4
    (OpenSpec.witness_stopped_at (enc := enc) (C := Ybaf.checked) false (laidWorldOf Ybaf.prog os) #[.int .u8 0, .int .u8 0, .int .u8 0] rfl (by kernel_rfl) (by kernel_rfl) (by kernel_rfl)
      (OpenSpec.preRow_of_B rfl 8 (by kernel_rfl) (by kernel_rfl) (laid_met os _))) ?_
  intro F W base args ds gs before _ hF hval0 hW _ _ _ hL _
  have hval : ∀ (j : Nat) t v, Ybaf.f4.params[j]? = some t → args[j]? = some v → Value.okWide Ybaf.prog W .any base t v := hval0
  have hW' := hW
  obtain ⟨p, q, hA0, hV0, rfl, hfz, hnd⟩ := hW
  have hA : DataW.TrodAll enc Ybaf.prog W 0 (fun _ => true) true Ybaf.f4.params.toList args.toList ds p := hA0
  have hV : DataW.TrodVars enc Ybaf.prog W (fun _ => true) [errName] gs q := hV0
  rw [Ybaf.params4] at hA hval
  obtain ⟨v0, vs0, d0, ds0, p0, q0, hargs, rfl, rfl, h0, r0⟩ := trodAll_cons hA
  obtain ⟨v1, vs1, d1, ds1, p1, q1, rfl, rfl, rfl, h1, r1⟩ := trodAll_cons r0
  obtain ⟨v2, vs2, d2, ds2, p2, q2, rfl, rfl, rfl, h2, r2⟩ := trodAll_cons r1
  obtain ⟨rfl, rfl, rfl⟩ := trodAll_nil r2
  obtain rfl : args = #[v0, v1, v2] := by cases args; simp_all
  obtain ⟨kd, rfl, _, _, wk⟩ := open_int Ybaf.underlying5 (hval 0 5 v0 rfl rfl) h0
  obtain ⟨sl, rfl, _, _, ws⟩ := open_int Ybaf.underlying5 (hval 1 5 v1 rfl rfl) h1
  obtain ⟨fl, rfl, _, _, _⟩ := open_int Ybaf.underlying5 (hval 2 5 v2 rfl rfl) h2
  have hk := byte_wf wk
  have hs := byte_wf ws
  obtain ⟨sn, rfl⟩ : ∃ k : Nat, sl = k := ⟨sl.toNat, by omega⟩
  obtain ⟨a0, s0, hv0, hc0, hs0, hz0⟩ := laid_sentinel hL Ybaf.gE Ybaf.gEType Ybaf.underlying27 (fun u h => typeName_ptr_named (nm := "errors.errorString") (by kernel_rfl) (by kernel_rfl) (by decide) u (h.trans (congrArg some (by decide)))) Ybaf.underlying50 Ybaf.underlying52 rfl rfl Ybaf.underlying9 Ybaf.cells52 Ybaf.cells9
  obtain ⟨rfl, rfl⟩ := hV.unique (vars_read1 enc Ybaf.gE Ybaf.gEType Ybaf.underlying27 hv0 trivial _)
  refine (edges_law F.told a0 s0 kd fl sn hk.1 (by omega) W hF (by unfold errV; simpa using World.var?_cell Ybaf.gE hv0 0) hc0).mono fun e W' ⟨he, hg⟩ => ?_
  subst he
  exact ⟨_, rfl, law_post1 (tb := 4) Ybaf.laidOut (by kernel_rfl) Ybaf.underlying4 (by kernel_rfl) hW' ⟨rfl, rfl, rfl⟩ (hg.below (Nat.le_refl _) (by simp)) (vars_read1 enc Ybaf.gE Ybaf.gEType Ybaf.underlying27 (var_stays hv0 hg) trivial _)⟩
end Go.Proofs.YbulkaevsFmt
