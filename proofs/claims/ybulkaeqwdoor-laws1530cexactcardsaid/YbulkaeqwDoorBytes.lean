import Derived.Test.YbulkaeqwDoorRows
import Derived.Test.YbulkaeqwDoorBase
import Derived.Laws.IdiomStrings
namespace Go.Proofs.YbulkaeqwDoor
open Go.RowKit
theorem add_add (a : Addr) (k i : Nat) : (a.add k).add i = a.add (k + i) := by
  unfold Addr.add
  by_cases hk : k = 0
  · subst hk; simp
  · by_cases hi : i = 0
    · subst hi; simp
    · simp [hk, hi, Nat.add_assoc]
/-- A slice that holds these bytes. -/
def Bs (v : Value) (xs : List UInt8) (w : World) : Prop :=
  ∃ a c, v = .slice a xs.length c ∧ xs.length ≤ c ∧ (a = none → xs.length = 0) ∧ ∀ ad, a = some ad → ∀ (i : Nat) x, xs[i]? = some x → w.cell? (ad.add i) = some (.int .u8 (x.toNat : Int))
theorem Bs.nil (w : World) : Bs (.slice none 0 0) [] w := ⟨none, 0, rfl, Nat.le_refl _, fun _ => rfl, fun _ h => by cases h⟩
theorem Bs.of_cells {v : Value} {xs : List UInt8} {w w' : World} (h : Bs v xs w) (hc : ∀ p x, w.cell? p = some (.int .u8 x) → w'.cell? p = some (.int .u8 x)) : Bs v xs w' := by
  obtain ⟨a, c, h1, h2, h3, h4⟩ := h
  exact ⟨a, c, h1, h2, h3, fun ad e i x hx => hc _ _ (h4 ad e i x hx)⟩
theorem cell_block {w : World} {p : Addr} {v : Value} (h : w.cell? p = some v) : p.block < w.heap.size := by
  unfold World.cell? at h
  cases hx : w.heap[p.block]? with
  | none => simp [hx] at h
  | some o => exact lt_of_block hx
theorem Bs.keep {v : Value} {xs : List UInt8} {w w' : World} (h : Bs v xs w) (f : Fr [] w w') : Bs v xs w' :=
  h.of_cells fun _ _ hp => (f.cell (cell_block hp) (by simp)).trans hp
theorem Bs.keepR {v : Value} {xs : List UInt8} {w w' : World} {rb : Nat} {a : Option Addr} {l c : Nat} {ev : Value} (h : Bs v xs w) (f : Fr [rb] w w') (hr : w.heap[rb]? = some (.cells #[.slice a l c, ev] 29 (0, 0))) (he : ∀ x, ev ≠ .int .u8 x) : Bs v xs w' := by
  refine h.of_cells fun p x hp => ?_
  by_cases hb : p.block = rb
  · exfalso
    unfold World.cell? at hp
    rw [hb, hr] at hp
    by_cases hs : p.spot.isSome = true
    · simp [hs] at hp
    · simp [hs] at hp
      obtain ⟨pb, po, ps⟩ := p
      match po, hp with
      | 0, hp => simp at hp
      | 1, hp => simp at hp; exact he _ hp
      | _ + 2, hp => simp at hp
  · exact (f.cell (cell_block hp) (by simpa using hb)).trans hp
theorem Bs.take {a : Option Addr} {l c : Nat} {xs : List UInt8} {w : World} (h : Bs (.slice a l c) xs w) (k : Nat) (hk : k ≤ xs.length) : Bs (sliced a 0 k c 1) (xs.take k) w := by
  obtain ⟨a', c', h1, h2, h3, h4⟩ := h
  obtain ⟨rfl, rfl, rfl⟩ : a = a' ∧ l = xs.length ∧ c = c' := by simpa using h1
  have hl : (xs.take k).length = k := by simp; omega
  refine ⟨_, _, by unfold sliced; rw [hl]; rfl, by rw [hl]; omega, fun e => ?_, fun ad e i x hx => ?_⟩
  · rw [hl]
    have : a = none := by
      by_cases hc : c = 0
      · simpa [hc] using e
      · simpa [hc] using e
    have := h3 this
    omega
  · have hx' : xs[i]? = some x := by
      rw [List.getElem?_take] at hx
      split at hx
      · exact hx
      · cases hx
    by_cases hc : c = 0
    · rw [if_pos hc] at e; exact h4 ad e i x hx'
    · rw [if_neg hc] at e
      cases a with
      | none => cases e
      | some b =>
        simp at e; subst e
        rw [add_add, Nat.zero_add]; exact h4 b rfl i x hx'
theorem Bs.mid {a : Option Addr} {l c : Nat} {xs : List UInt8} {w : World} (h : Bs (.slice a l c) xs w) (k m : Nat) (hk : k ≤ m) (hm : m ≤ xs.length) : Bs (sliced a k m c 1) ((xs.drop k).take (m - k)) w := by
  obtain ⟨a', c', h1, h2, h3, h4⟩ := h
  obtain ⟨rfl, rfl, rfl⟩ : a = a' ∧ l = xs.length ∧ c = c' := by simpa using h1
  have hl : ((xs.drop k).take (m - k)).length = m - k := by simp; omega
  refine ⟨_, _, by unfold sliced; rw [hl], by rw [hl]; omega, fun e => ?_, fun ad e i x hx => ?_⟩
  · rw [hl]
    have : a = none := by
      by_cases hc : c = k
      · simpa [hc] using e
      · simpa [hc] using e
    have := h3 this
    omega
  · rw [List.getElem?_take] at hx
    split at hx
    · rename_i hi
      rw [List.getElem?_drop] at hx
      have hki := (List.getElem?_eq_some_iff.1 hx).1
      by_cases hc : c = k
      · omega
      · rw [if_neg hc] at e
        cases a with
        | none => cases e
        | some b =>
          simp at e; subst e
          rw [add_add]; exact h4 b rfl _ x hx
    · cases hx
theorem Bs.drop {a : Option Addr} {l c : Nat} {xs : List UInt8} {w : World} (h : Bs (.slice a l c) xs w) (k : Nat) (hk : k ≤ xs.length) : Bs (sliced a k l c 1) (xs.drop k) w := by
  have hl : l = xs.length := by obtain ⟨a', c', h1, _⟩ := h; simpa using (show l = xs.length by cases h1; rfl)
  have := h.mid k l (by omega) (by omega)
  rwa [List.take_of_length_le (by simp; omega)] at this
theorem Bs.convert {v : Value} {xs : List UInt8} {w : World} (h : Bs v xs w) : (convert 22 9 v).run Ybad.prog w = .ok (.string ⟨xs.toArray⟩) w := by
  obtain ⟨a, c, rfl, h2, h3, h4⟩ := h
  cases a with
  | none =>
    have := h3 rfl
    have hx : xs = [] := List.eq_nil_of_length_eq_zero this
    subst hx
    exact run_convert_bytes_nil w 22 5 Ybad.underlying22 Ybad.underlying5 0 c 9 Ybad.underlying9
  | some ad => exact run_convert_bytes_back w 22 9 5 ad c xs Ybad.underlying22 Ybad.underlying5 Ybad.underlying9 (fun j hj => h4 ad rfl j _ (List.getElem?_eq_getElem hj))
theorem str_eq (s : ByteArray) (x y : Operand) (w : World) : (do eqGuard .eql 9 x y (.string s) (.string s); binOp .eql 9 (.string s) (.string s) : Sem Value).run Ybad.prog w = .ok (.bool true) w := by
  have h1 : (eqGuard .eql 9 x y (.string s) (.string s)).run Ybad.prog w = .ok () w := by kernel_rfl
  have h2 : (binOp .eql 9 (.string s) (.string s)).run Ybad.prog w = .ok (.bool true) w := by
    simp [binOp, Op.stringOp]
  rw [Sem.run_bind, h1]; simp only [Result.andThen_ok]; exact h2
theorem run_conv {ρ : Operand → Value} {P : Program} {o : Oper} (t u : TypeId) (x : Operand) (ho : o.op = .convert t u x) (v r : Value) (hx : ρ x = v) (w : World) (h : (convert t u v).run P w = .ok r w) : (execOp ρ o).run P w = .ok (.value r) w := by
  unfold execOp; rw [ho]; dsimp only; rw [hx, Sem.run_bind, h]; rfl
theorem run_slH {ρ : Operand → Value} {P : Program} {o : Oper} (t : TypeId) (x y : Operand) (ho : o.op = .slice t x none (some y) none) (ht : P.underlying t = some (.slice (P.elem t))) (hs : ∀ w, (sizeOf (P.elem t)).run P w = .ok 1 w) (a : Option Addr) (l c k : Nat) (hx : ρ x = .slice a l c) (hy : ρ y = .int .i64 k) (hk : k ≤ c) (w : World) :
    (execOp ρ o).run P w = .ok (.value (sliced a 0 k c 1)) w := by
  unfold execOp; rw [ho]; dsimp only; rw [hx]
  simp only [Option.map_none, Option.map_some, hy, Sem.run_bind, run_sliceAt_slice w t _ _ _ _ ht, run_slice_h w t a l c ht .i64 k (by omega) (by omega), hs, Result.andThen_ok, Int.toNat_natCast, Sem.run_pure]
theorem run_slL {ρ : Operand → Value} {P : Program} {o : Oper} (t : TypeId) (x y : Operand) (ho : o.op = .slice t x (some y) none none) (ht : P.underlying t = some (.slice (P.elem t))) (hs : ∀ w, (sizeOf (P.elem t)).run P w = .ok 1 w) (a : Option Addr) (l c k : Nat) (hx : ρ x = .slice a l c) (hy : ρ y = .int .i64 k) (hk : k ≤ l) (w : World) :
    (execOp ρ o).run P w = .ok (.value (sliced a k l c 1)) w := by
  unfold execOp; rw [ho]; dsimp only; rw [hx]
  simp only [Option.map_none, Option.map_some, hy, Sem.run_bind, run_sliceAt_slice w t _ _ _ _ ht, run_slice_l w t a l c ht .i64 k (by omega) (by omega), hs, Result.andThen_ok, Int.toNat_natCast, Sem.run_pure]
theorem run_slLH {ρ : Operand → Value} {P : Program} {o : Oper} (t : TypeId) (x y z : Operand) (ho : o.op = .slice t x (some y) (some z) none) (ht : P.underlying t = some (.slice (P.elem t))) (hs : ∀ w, (sizeOf (P.elem t)).run P w = .ok 1 w) (a : Option Addr) (l c k m : Nat) (hx : ρ x = .slice a l c) (hy : ρ y = .int .i64 k) (hz : ρ z = .int .i64 m) (hk : k ≤ m) (hm : m ≤ c) (w : World) :
    (execOp ρ o).run P w = .ok (.value (sliced a k m c 1)) w := by
  unfold execOp; rw [ho]; dsimp only; rw [hx]
  simp only [Option.map_none, Option.map_some, hy, hz, Sem.run_bind, run_sliceAt_slice w t _ _ _ _ ht, run_slice_lh w t a l c ht .i64 .i64 k m (by omega) (by omega) (by omega), hs, Result.andThen_ok, Int.toNat_natCast, Sem.run_pure]
theorem elem22 : Ybad.prog.underlying 22 = some (.slice (Ybad.prog.elem 22)) := by kernel_rfl
theorem size22 (w : World) : (sizeOf (Ybad.prog.elem 22)).run Ybad.prog w = .ok 1 w := by kernel_rfl
end Go.Proofs.YbulkaeqwDoor
