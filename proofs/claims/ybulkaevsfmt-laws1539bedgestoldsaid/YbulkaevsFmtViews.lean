/-
  From the walks to the rows: the views of the arguments, the listed variable's cell, the post, a start that fits.
-/
import Derived.Test.YbulkaevsFmtRaw
import Derived.ChangeSame
import Derived.ChangeVars
import Derived.ChangeSlices
import Derived.JoinedOf
import Derived.RowKit
import Derived.RowKitTokens
import Derived.LaidLaws
import Derived.LaidHandle
import Derived.Stop.Joined
import Derived.Stop.LaidErr
import Derived.ProofKit
import Derived.OpenShut
namespace Go.Proofs.YbulkaevsFmt
open Go.ChangeShapes Go.WideShapes Go.ChangeAt Go.RowKit
section
variable {H : Type} {enc : TypeId × Value → H} {P : Program}
/-- All arguments read behind the call as before it. -/
theorem trodAll_stay (hl : laidOutB P = true) {W W' : World} (hb : Below W.heap.size W W') : ∀ (ts : List TypeId) (vs : List Value) (ds : List (DataW H)) (ps : List MemPlace), (∀ t ∈ ts, P.readableRec t = true ∧ t < P.types.size) →
    (∀ x ∈ ps, x.block < W.heap.size) → DataW.TrodAll enc P W 0 (fun _ => true) true ts vs ds ps → DataW.TrodAll enc P W' 0 (fun b => decide (b < W.heap.size)) true ts vs ds ps
  | [], [], [], _, _, _, h => h
  | t :: ts, v :: vs, d :: ds, ps, ht, hlt, h => by
    obtain ⟨p, q, h1, h2, rfl⟩ := h
    have h0 := ht t (by simp)
    exact ⟨p, q, Below.trod hl h0.1 h0.2 h1 hb (fun x hx => hlt x (by simp [hx])), trodAll_stay hl hb ts vs ds q (fun t' h' => ht t' (by simp [h'])) (fun x hx => hlt x (by simp [hx])) h2, rfl⟩
  | [], [], _ :: _, _, _, _, h => h.elim
  | [], _ :: _, _, _, _, _, h => h.elim
  | _ :: _, [], _, _, _, _, h => h.elim
  | _ :: _, _ :: _, [], _, _, _, h => h.elim
/-- A law's post, where variables are listed that stay as they are. -/
theorem law_post1 (hl : laidOutB P = true) {fn : Func} {s : ChangeSpec} {tb : TypeId} (hres : fn.resultTypes = #[tb]) (htb : P.underlying tb = some .bool)
    (hts0 : fn.params.toList.all (fun t => P.readableRec t && decide (t < P.types.size)) = true) {W W' : World} {args : Array Value} {ds gs : List (DataW H)} {before pv : List MemPlace}
    (hW : DataW.Whole enc P fn.params.toList s.vars false W args.toList ds gs before)
    (hfn : (s.fn H (ds ++ gs)).results = [.lit (.bool true)] ∧ (s.fn H (ds ++ gs)).args = ds ∧ (s.fn H (ds ++ gs)).vars = gs) (hb : Below W.heap.size W W')
    (hv : DataW.TrodVars enc P W' (fun b => decide (b < W.heap.size)) s.vars gs pv) :
    s.post enc P fn false true false false W args (.bool true) W' := by
  have hts : ∀ t ∈ fn.params.toList, P.readableRec t = true ∧ t < P.types.size := fun t ht => by have := List.all_eq_true.1 hts0 t ht; simpa using this
  have hlt := hW.lt
  obtain ⟨p, q, hA, hV, hpq, hfz, hnd⟩ := hW
  refine ⟨ds, gs, before, [], p, pv, ⟨p, q, hA, hV, hpq, hfz, hnd⟩, ?_, ?_, ?_, hb.frame _, fun h => by cases h⟩
  · rw [hfn.1, hres]
    exact trodAll_mk1 (shut_bool htb _)
  · rw [hfn.2.1]
    exact trodAll_stay hl hb _ _ _ _ hts (fun x hx => hlt x (by rw [hpq]; simp [hx])) hA
  · rw [hfn.2.2]
    exact hv
end
theorem Ybaf.own : ownKnob Ybaf.prog.godebug = none := by kernel_rfl
theorem Ybaf.laidOut : laidOutB Ybaf.prog = true := by kernel_rfl
theorem Ybaf.cells5 : Ybaf.prog.cellsOf 5 = 1 := by kernel_rfl
theorem Ybaf.cells9 : Ybaf.prog.cellsOf 9 = 1 := by kernel_rfl
theorem Ybaf.cells52 : Ybaf.prog.cellsOf 52 = 1 := by kernel_rfl
/-- The listed variable, as the rows name it. -/
def errName : String := (Rows.lawS1539BRawSpec.vars[0]?).getD ""
theorem Ybaf.gE : Ybaf.prog.globalNamed errName = some 0 := by kernel_rfl
theorem Ybaf.gEType : (Ybaf.prog.globals[0]?).map (·.type) = some 27 := by kernel_rfl
section
variable {H : Type} {enc : TypeId × Value → H}
theorem bytes_view {W : World} {base : Nat} {v : Value} {d : DataW H} {p : List MemPlace} (hval : Value.okWide Ybaf.prog W .any base 22 v) (h : DataW.Trod enc Ybaf.prog W 0 (fun _ => true) true 22 v d p) :
    ∃ (a : Option Addr) (n c : Nat), v = .slice a n c ∧ (0 < n → ∃ ad b, a = some ad ∧ 0 ≤ b ∧ W.cell? ad = some (.int .u8 b)) := by
  obtain ⟨a1, len, cap, rfl⟩ := okWide_slice Ybaf.underlying22 hval
  obtain ⟨fuel, hf⟩ := h
  rcases open_ints Ybaf.underlying22 Ybaf.underlying5 Ybaf.cells5 hf with ⟨hcs, hx⟩ | ⟨a, len', cap', zs, hcs, _, hl, hm, hz, hx, hcell, hwz⟩
  · simp [Value.cells] at hcs
    obtain ⟨rfl, rfl, rfl⟩ := hcs
    exact ⟨none, 0, 0, rfl, fun h => by omega⟩
  · simp [Value.cells] at hcs
    obtain ⟨rfl, rfl, rfl⟩ := hcs
    simp only [if_true] at hz
    refine ⟨some a, len, cap, rfl, fun h0 => ⟨a, zs.getD 0 0, rfl, ?_, ?_⟩⟩
    · have := range_u8 hwz 0
      rw [List.getD_eq_getElem?_getD]; exact this.1
    · have := hcell 0 (by omega)
      exact this
end
theorem var_stays {W W' : World} {v : Value} (h : W.var? Ybaf.prog errName = some #[v]) (hb : Fr [] W W') : W'.var? Ybaf.prog errName = some #[v] := by
  have hc := World.var?_cell Ybaf.gE h 0
  have h0 : 0 < W.heap.size := cell_block (p := ⟨0, 0, none⟩) (v := v) (by simpa using hc)
  unfold World.var? at h ⊢
  simp only [Ybaf.gE, Option.bind_some] at h ⊢
  rw [hb.block 0 h0 (by simp)]
  exact h
abbrev cutS : ByteArray := { data := #[110, 111, 116, 32, 116, 104, 101, 32, 113, 117, 111, 114, 97, 116, 101, 32, 112, 114, 111, 116, 111, 99, 111, 108] }
/-- So many blocks has the settled world. -/
def lowOf (P : Program) : Nat := (World.holding P default ⟨#[], #[], []⟩).heap.size
/-- A start that fits. -/
def laidWorldOf (P : Program) (os : Os) : World :=
  let w0 := World.holding P os ⟨#[.cells #[.string cutS] 52], #[], []⟩
  { w0 with heap := w0.heap.modify 0 fun
      | .cells _ t frozen => .cells #[.iface 50 (.pointer (some ⟨lowOf P, 0, none⟩))] t frozen
      | o => o }
theorem laid_met (os : Os) (args : Array Value) : laidMet Ybaf.prog Rows.lawS1539BRawRow.laid ((laidWorldOf Ybaf.prog os).forCall (fun _ _ => 0) ⟨#[], args, []⟩).memory :=
  laidMet_of_run (ps := [.cell 0 0, .cell (lowOf Ybaf.prog) 0]) 8 (by kernel_rfl) (by kernel_rfl) (by kernel_rfl)
end Go.Proofs.YbulkaevsFmt
