/-
  From the walks to the rows: the views of the arguments, the listed variable's cell, the post, a start that fits.
-/
import Derived.Test.YbulkaeqwDoorClone
import Derived.ChangeSame
import Derived.ChangeVars
import Derived.ChangeSlices
import Derived.JoinedOf
import Derived.RowKit
import Derived.RowKitTokens
import Derived.LaidLaws
import Derived.LaidHandle
import Derived.Stop.Joined
import Derived.Stop.LaidErr
import Derived.ProofKit
import Derived.OpenShut
namespace Go.Proofs.YbulkaeqwDoor
open Go.ChangeShapes Go.WideShapes Go.ChangeAt Go.RowKit
section
variable {H : Type} {enc : TypeId × Value → H} {P : Program}
/-- All arguments read behind the call as before it. -/
theorem trodAll_stay (hl : laidOutB P = true) {W W' : World} (hb : Below W.heap.size W W') : ∀ (ts : List TypeId) (vs : List Value) (ds : List (DataW H)) (ps : List MemPlace), (∀ t ∈ ts, P.readableRec t = true ∧ t < P.types.size) →
    (∀ x ∈ ps, x.block < W.heap.size) → DataW.TrodAll enc P W 0 (fun _ => true) true ts vs ds ps → DataW.TrodAll enc P W' 0 (fun b => decide (b < W.heap.size)) true ts vs ds ps
  | [], [], [], _, _, _, h => h
  | t :: ts, v :: vs, d :: ds, ps, ht, hlt, h => by
    obtain ⟨p, q, h1, h2, rfl⟩ := h
    have h0 := ht t (by simp)
    exact ⟨p, q, Below.trod hl h0.1 h0.2 h1 hb (fun x hx => hlt x (by simp [hx])), trodAll_stay hl hb ts vs ds q (fun t' h' => ht t' (by simp [h'])) (fun x hx => hlt x (by simp [hx])) h2, rfl⟩
  | [], [], _ :: _, _, _, _, h => h.elim
  | [], _ :: _, _, _, _, _, h => h.elim
  | _ :: _, [], _, _, _, _, h => h.elim
  | _ :: _, _ :: _, [], _, _, _, h => h.elim
/-- A law's post, where variables are listed that stay as they are. -/
theorem law_post1 (hl : laidOutB P = true) {fn : Func} {s : ChangeSpec} {tb : TypeId} (hres : fn.resultTypes = #[tb]) (htb : P.underlying tb = some .bool)
    (hts0 : fn.params.toList.all (fun t => P.readableRec t && decide (t < P.types.size)) = true) {W W' : World} {args : Array Value} {ds gs : List (DataW H)} {before pv : List MemPlace}
    (hW : DataW.Whole enc P fn.params.toList s.vars false W args.toList ds gs before)
    (hfn : (s.fn H (ds ++ gs)).results = [.lit (.bool true)] ∧ (s.fn H (ds ++ gs)).args = ds ∧ (s.fn H (ds ++ gs)).vars = gs) (hb : Below W.heap.size W W')
    (hv : DataW.TrodVars enc P W' (fun b => decide (b < W.heap.size)) s.vars gs pv) :
    s.post enc P fn false true false false W args (.bool true) W' := by
  have hts : ∀ t ∈ fn.params.toList, P.readableRec t = true ∧ t < P.types.size := fun t ht => by have := List.all_eq_true.1 hts0 t ht; simpa using this
  have hlt := hW.lt
  obtain ⟨p, q, hA, hV, hpq, hfz, hnd⟩ := hW
  refine ⟨ds, gs, before, [], p, pv, ⟨p, q, hA, hV, hpq, hfz, hnd⟩, ?_, ?_, ?_, hb.frame _, fun h => by cases h⟩
  · rw [hfn.1, hres]
    exact trodAll_mk1 (shut_bool htb _)
  · rw [hfn.2.1]
    exact trodAll_stay hl hb _ _ _ _ hts (fun x hx => hlt x (by rw [hpq]; simp [hx])) hA
  · rw [hfn.2.2]
    exact hv
end
theorem Ybad.own : ownKnob Ybad.prog.godebug = none := by kernel_rfl
theorem Ybad.laidOut : laidOutB Ybad.prog = true := by kernel_rfl
theorem Ybad.cells5 : Ybad.prog.cellsOf 5 = 1 := by kernel_rfl
theorem Ybad.cells34 : Ybad.prog.cellsOf 34 = 1 := by kernel_rfl
theorem Ybad.cells9 : Ybad.prog.cellsOf 9 = 1 := by kernel_rfl
theorem Ybad.cells38 : Ybad.prog.cellsOf 38 = 1 := by kernel_rfl
/-- The listed variable, as the rows name it. -/
def errName : String := (Rows.lawS1530CExactSpec.vars[0]?).getD ""
theorem Ybad.gE : Ybad.prog.globalNamed errName = some 0 := by kernel_rfl
theorem Ybad.gEType : (Ybad.prog.globals[0]?).map (·.type) = some 25 := by kernel_rfl
section
variable {H : Type} {enc : TypeId × Value → H}
theorem bytes_view {W : World} {base : Nat} {v : Value} {d : DataW H} {p : List MemPlace} (hval : Value.okWide Ybad.prog W .any base 22 v) (h : DataW.Trod enc Ybad.prog W 0 (fun _ => true) true 22 v d p) :
    ∃ (a : Option Addr) (c : Nat) (xs : List UInt8), v = .slice a xs.length c ∧ Bs (.slice a xs.length c) xs W := by
  obtain ⟨a1, len, cap, rfl⟩ := okWide_slice Ybad.underlying22 hval
  obtain ⟨fuel, hf⟩ := h
  rcases open_ints Ybad.underlying22 Ybad.underlying5 Ybad.cells5 hf with ⟨hcs, hx⟩ | ⟨a, len', cap', zs, hcs, _, hl, hm, hz, hx, hcell, hwz⟩
  · simp [Value.cells] at hcs
    obtain ⟨rfl, rfl, rfl⟩ := hcs
    exact ⟨none, 0, [], rfl, Bs.nil W⟩
  · simp [Value.cells] at hcs
    obtain ⟨rfl, rfl, rfl⟩ := hcs
    simp only [if_true] at hz
    have hlen : ((zs.take len).map fun n => UInt8.ofNat n.toNat).length = len := by simp; omega
    refine ⟨some a, cap, (zs.take len).map fun n => UInt8.ofNat n.toNat, by rw [hlen], some a, cap, rfl, by rw [hlen]; exact hl, (fun e => by cases e), fun ad e i x hx => ?_⟩
    cases e
    have hi := (List.getElem?_eq_some_iff.1 hx).1
    rw [hlen] at hi
    rw [hcell i (by omega)]
    have hb := range_u8 hwz i
    have e : zs.getD i 0 = zs[i]'(by omega) := by simp [List.getD, List.getElem?_eq_getElem (show i < zs.length by omega)]
    rw [List.getElem?_map, List.getElem?_take, if_pos hi, List.getElem?_eq_getElem (by omega)] at hx
    simp at hx
    subst hx
    rw [List.getD_eq_getElem?_getD] at e
    rw [e] at hb
    rw [List.getD_eq_getElem?_getD, e]
    congr 2
    simp only [UInt8.toNat_ofNat']
    omega
theorem i8_view {W : World} {base : Nat} {v : Value} {d : DataW H} {p : List MemPlace} (hval : Value.okWide Ybad.prog W .any base 33 v) (h : DataW.Trod enc Ybad.prog W 0 (fun _ => true) true 33 v d p) :
    ∃ (a : Option Addr) (c : Nat) (ys : List Int), v = .slice a ys.length c ∧ (a = none → ys.length = 0) ∧ ∀ ad, a = some ad → ∀ (i : Nat) y, ys[i]? = some y → W.cell? (ad.add i) = some (.int .i8 y) := by
  obtain ⟨a1, len, cap, rfl⟩ := okWide_slice Ybad.underlying33 hval
  obtain ⟨fuel, hf⟩ := h
  rcases open_ints Ybad.underlying33 Ybad.underlying34 Ybad.cells34 hf with ⟨hcs, hx⟩ | ⟨a, len', cap', zs, hcs, _, hl, hm, hz, hx, hcell, hwz⟩
  · simp [Value.cells] at hcs
    obtain ⟨rfl, rfl, rfl⟩ := hcs
    exact ⟨none, 0, [], rfl, fun _ => rfl, fun _ e => by cases e⟩
  · simp [Value.cells] at hcs
    obtain ⟨rfl, rfl, rfl⟩ := hcs
    simp only [if_true] at hz
    have hlen : (zs.take len).length = len := by simp; omega
    refine ⟨some a, cap, zs.take len, by rw [hlen], (fun e => by cases e), fun ad e i y hy => ?_⟩
    cases e
    have hi := (List.getElem?_eq_some_iff.1 hy).1
    rw [hlen] at hi
    rw [List.getElem?_take, if_pos hi] at hy
    rw [hcell i (by omega), List.getD_eq_getElem?_getD, hy]
    rfl
end
theorem var_stays {W W' : World} {v : Value} (h : W.var? Ybad.prog errName = some #[v]) (hb : Fr [] W W') : W'.var? Ybad.prog errName = some #[v] := by
  have hc := World.var?_cell Ybad.gE h 0
  have h0 : 0 < W.heap.size := cell_block (p := ⟨0, 0, none⟩) (v := v) (by simpa using hc)
  unfold World.var? at h ⊢
  simp only [Ybad.gE, Option.bind_some] at h ⊢
  rw [hb.block 0 h0 (by simp)]
  exact h
abbrev cutS : ByteArray := { data := #[109, 101, 115, 115, 97, 103, 101, 32, 99, 117, 116, 32, 115, 104, 111, 114, 116] }
/-- So many blocks has the settled world. -/
def lowOf (P : Program) : Nat := (World.holding P default ⟨#[], #[], []⟩).heap.size
/-- A start that fits. -/
def laidWorldOf (P : Program) (os : Os) : World :=
  let w0 := World.holding P os ⟨#[.cells #[.string cutS] 38], #[], []⟩
  { w0 with heap := w0.heap.modify 0 fun
      | .cells _ t frozen => .cells #[.iface 36 (.pointer (some ⟨lowOf P, 0, none⟩))] t frozen
      | o => o }
theorem laid_met (os : Os) (args : Array Value) : laidMet Ybad.prog Rows.lawS1530CExactRow.laid ((laidWorldOf Ybad.prog os).forCall (fun _ _ => 0) ⟨#[], args, []⟩).memory :=
  laidMet_of_run (ps := [.cell 0 0, .cell (lowOf Ybad.prog) 0]) 8 (by kernel_rfl) (by kernel_rfl) (by kernel_rfl)
end Go.Proofs.YbulkaeqwDoor
