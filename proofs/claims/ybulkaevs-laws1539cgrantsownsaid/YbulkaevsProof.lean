/-
  THE STATEMENT 'Rows.LawS1539CGrantsOwnSaid', PROVED.
-/
import Derived.Test.YbulkaevsLaw
import Derived.Test.YbulkaevsLift
import Derived.ChangeSlices
import Derived.OpenShut
import Derived.Deep.Slices
namespace Go.Proofs.Ybulkaevs
open Go.ChangeShapes Go.WideShapes Go.ChangeAt Go.RowKit
theorem own : ownKnob Yba.prog.godebug = none := by kernel_rfl
theorem laidOut : laidOutB Yba.prog = true := by kernel_rfl
theorem cells9 : Yba.prog.cellsOf 9 = 1 := by kernel_rfl
theorem cells22 : Yba.prog.cellsOf 22 = 1 := by kernel_rfl
theorem cells51 : Yba.prog.cellsOf 51 = 4 := by kernel_rfl
section
variable {H : Type} {enc : TypeId × Value → H}
set_option maxRecDepth 100000 in
theorem reqs_view {W : World} {base : Nat} {v : Value} {d : DataW H} {p : List MemPlace} (hval : Value.okWide Yba.prog W .any base 23 v) (h : DataW.Trod enc Yba.prog W 0 (fun _ => true) true 23 v d p) :
    ∃ (a : Option Addr) (c : Nat) (xs : List Nat), v = .slice a xs.length c ∧ reqsAt a xs W := by
  obtain ⟨a1, len, cap, rfl⟩ := okWide_slice Yba.underlying23 hval
  obtain ⟨fuel, hf⟩ := h
  rcases open_ints Yba.underlying23 Yba.underlying22 cells22 hf with ⟨hcs, hx⟩ | ⟨a, len', cap', zs, hcs, _, hl, hm, hz, hx, hcell, hwz⟩
  · simp [Value.cells] at hcs
    obtain ⟨rfl, rfl, rfl⟩ := hcs
    exact ⟨none, 0, [], rfl, fun _ => rfl, fun _ e => by cases e⟩
  · simp [Value.cells] at hcs
    obtain ⟨rfl, rfl, rfl⟩ := hcs
    simp only [if_true] at hz
    have hlen : (zs.take len).length = len := by simp; omega
    refine ⟨some a, cap, (zs.take len).map Int.toNat, by rw [List.length_map, hlen], (fun e => by cases e), fun ad e i y hy => ?_⟩
    cases e
    rw [List.getElem?_map] at hy
    obtain ⟨z, hz', rfl⟩ := Option.map_eq_some_iff.1 hy
    have hi := (List.getElem?_eq_some_iff.1 hz').1
    rw [hlen] at hi
    rw [List.getElem?_take, if_pos hi] at hz'
    have hb := (bounds_u64 (hwz z (List.mem_of_getElem? hz'))).1
    rw [hcell i (by omega), List.getD_eq_getElem?_getD, hz']
    show some (Value.int .u64 z) = _
    rw [Int.toNat_of_nonneg hb]
set_option maxRecDepth 100000 in
theorem grants_view {W : World} {base : Nat} {v : Value} {d : DataW H} {p : List MemPlace} (hval : Value.okWide Yba.prog W .any base 24 v) (h : DataW.Trod enc Yba.prog W 0 (fun _ => true) true 24 v d p) :
    ∃ (a : Option Addr) (c : Nat) (gl : List Gr), v = .slice a gl.length c ∧ grantsAt a gl W := by
  obtain ⟨a1, len, cap, rfl⟩ := okWide_slice Yba.underlying24 hval
  obtain ⟨fuel, hf⟩ := h
  rcases Deep.open_slice Yba.underlying24 hf with ⟨hcs, hx⟩ | ⟨a, len', cap', m, n, D, Pl, hcs, _, hl, hm, hmm, hx, hel⟩
  · simp [Value.cells] at hcs
    obtain ⟨rfl, rfl, rfl⟩ := hcs
    exact ⟨none, 0, [], rfl, fun _ => rfl, fun _ e => by cases e⟩
  · simp [Value.cells] at hcs
    obtain ⟨rfl, rfl, rfl⟩ := hcs
    have each : ∀ i, i < len → ∃ g : Gr, ∀ (j : Nat) v, (rawC g)[j]? = some v → W.cell? ((a.add (i * 4)).add j) = some v := by
      intro i hi
      obtain ⟨cs, h1, h2⟩ := hel i (by rw [hmm]; simp; omega)
      rw [cells51] at h1
      obtain ⟨_, hlen, hcell⟩ := World.cells?_some h1
      obtain ⟨xs, n', _, _, _, hxl, hfl⟩ := DataW.trod_struct Yba.underlying51 h2
      match cs, hlen with
      | [v0, v1, v2, v3], _ =>
        have g0 := hfl 0 _ rfl
        have g1 := hfl 1 _ rfl
        have g2 := hfl 2 _ rfl
        have g3 := hfl 3 _ rfl
        have hx4 : xs.length = 4 := hxl
        rw [List.getElem?_eq_getElem (by omega)] at g0 g1 g2 g3
        obtain ⟨z0, e0, _, w0⟩ := DataW.trod_int Yba.underlying22 g0
        obtain ⟨z1, e1, _, w1⟩ := DataW.trod_int Yba.underlying22 g1
        obtain ⟨s, e2, _, _⟩ := DataW.trod_string Yba.underlying9 g2
        obtain ⟨z3, e3, _, _⟩ := DataW.trod_int Yba.underlying22 g3
        simp [cells22, cells9] at e0 e1 e2 e3
        subst e0 e1 e2 e3
        refine ⟨⟨z0.toNat, z1.toNat, s, z3⟩, fun j v hv => ?_⟩
        have b0 := Int.toNat_of_nonneg (bounds_u64 w0).1
        have b1 := Int.toNat_of_nonneg (bounds_u64 w1).1
        have hj : j < 4 := (List.getElem?_eq_some_iff.1 hv).1
        rw [hcell j hj, ← hv]
        simp only [rawC, b0, b1]
    obtain ⟨g, hg⟩ := @Deep.choose_lt Gr ⟨⟨0, 0, ByteArray.empty, 0⟩⟩ _ _ each
    refine ⟨some a, cap, (List.range len).map g, by simp, (fun e => by cases e), fun ad e i x hx j v hv => ?_⟩
    cases e
    have hi := (List.getElem?_eq_some_iff.1 hx).1
    simp at hi
    rw [List.getElem?_map, List.getElem?_range hi] at hx
    cases hx
    exact hg i hi j v hv
end
set_option maxRecDepth 100000 in
theorem lifted (os : Os) (started : os.Started) (H : Type) (enc : TypeId × Value → H) :
    ReturnsInHanded {} Yba.checked os 3 .any (Rows.lawS1539CGrantsOwnSpec.pre6 enc Yba.prog Yba.f3 Rows.lawS1539CGrantsOwnRow.domain false) (Rows.lawS1539CGrantsOwnSpec.post enc Yba.prog Yba.f3 false true false false) := by
  refine returnsInHanded_of_change (C := Yba.checked) own started (by kernel_rfl) Yba.func3
    (ChangeSpec.witness6 (enc := enc) (C := Yba.checked) false ⟨#[], #[.int .u64 0, .slice none 0 0, .slice none 0 0], []⟩ 8 (by kernel_rfl) (by kernel_rfl) (by kernel_rfl) (by kernel_rfl)) ?_
  intro W base args ds gs before hval0 hW hcnd _
  have hval : ∀ (j : Nat) t v, Yba.f3.params[j]? = some t → args[j]? = some v → Value.okWide Yba.prog W .any base t v := hval0
  have hW' := hW
  obtain ⟨p, q, hA0, hV, rfl, hfz, hnd⟩ := hW
  have hA : DataW.TrodAll enc Yba.prog W 0 (fun _ => true) true Yba.f3.params.toList args.toList ds p := hA0
  rw [Yba.params3] at hA hval
  obtain ⟨v0, vs0, d0, ds0, p0, q0, hargs, rfl, rfl, h0, r0⟩ := trodAll_cons hA
  obtain ⟨v1, vs1, d1, ds1, p1, q1, rfl, rfl, rfl, h1, r1⟩ := trodAll_cons r0
  obtain ⟨v2, vs2, d2, ds2, p2, q2, rfl, rfl, rfl, h2, r2⟩ := trodAll_cons r1
  obtain ⟨rfl, rfl, rfl⟩ := trodAll_nil r2
  obtain rfl : args = #[v0, v1, v2] := by cases args; simp_all
  obtain ⟨rfl, rfl⟩ := trodVars_none hV
  obtain ⟨z, rfl, _, _, wz⟩ := open_int Yba.underlying22 (hval 0 22 v0 rfl rfl) h0
  obtain ⟨idn, rfl⟩ : ∃ k : Nat, z = k := ⟨z.toNat, (Int.toNat_of_nonneg (bounds_u64 wz).1).symm⟩
  obtain ⟨ra, rc, xs, rfl, hr⟩ := reqs_view (hval 1 23 v1 rfl rfl) h1
  obtain ⟨ga, gc, gl, rfl, hg⟩ := grants_view (hval 2 24 v2 rfl rfl) h2
  refine (grants_law idn xs gl ra ga rc gc W hr hg).mono fun e W' ⟨he, hF⟩ => ?_
  subst he
  exact ⟨_, rfl, law_post (tb := 4) laidOut rfl (by kernel_rfl) Yba.underlying4 (by kernel_rfl) hW' ⟨rfl, rfl, rfl⟩ (hF.below (Nat.le_refl _) (by simp))⟩

theorem grants_own_holds : Rows.LawS1539CGrantsOwnSaid :=
  OpenClaim.holds_of_wide 3 Yba.f3 rfl rfl rfl rfl rfl rfl rfl ⟨rfl, rfl, rfl, rfl, rfl⟩ rfl rfl rfl rfl rfl (by kernel_rfl) Yba.func3 (by kernel_rfl)
    (of_decide_eq_true (by kernel_rfl)) (by unfold Func.isWrapper; first | (rw [if_pos (by decide +kernel)]; kernel_rfl) | (rw [if_neg (by decide +kernel)]; exact ⟨rfl, rfl⟩))
    (fun os started H enc _ => lifted os started H enc)
end Go.Proofs.Ybulkaevs
