/-
  MAPS AS LISTS OF PAIRS: what a lookup, a delete and a put of the model do, in plain words.
-/
import Derived.Test.YbulkaevsBase
import Derived.Test.YbulkaevsLocks
import Derived.MapKept
import Derived.Conc.EventLaws
namespace Go.Proofs.Ybulkaevs
open Go.RowKit
section
variable {κ ν μ : Type} [DecidableEq κ]
def findA : List (κ × ν) → κ → Nat → Option (Nat × ν)
  | [], _, _ => none
  | (y, v) :: t, x, i => if x = y then some (i, v) else findA t x (i + 1)
def getA : List (κ × ν) → κ → Option ν
  | [], _ => none
  | (y, v) :: t, x => if x = y then some v else getA t x
def delA : List (κ × ν) → κ → List (κ × ν)
  | [], _ => []
  | (y, v) :: t, x => if x = y then t else (y, v) :: delA t x
def putA : List (κ × ν) → κ → ν → List (κ × ν)
  | [], x, u => [(x, u)]
  | (y, v) :: t, x, u => if x = y then (x, u) :: t else (y, v) :: putA t x u
theorem findA_none : ∀ (l : List (κ × ν)) (x : κ) (i : Nat), findA l x i = none → getA l x = none ∧ ∀ u, putA l x u = l ++ [(x, u)]
  | [], _, _, _ => ⟨rfl, fun _ => rfl⟩
  | (y, v) :: t, x, i, h => by
    by_cases e : x = y
    · simp [findA, e] at h
    · simp only [findA, if_neg e] at h
      obtain ⟨h1, h2⟩ := findA_none t x (i + 1) h
      exact ⟨by simp [getA, e, h1], fun u => by simp [putA, e, h2]⟩
theorem findA_some : ∀ (l : List (κ × ν)) (x : κ) (i j : Nat) (v : ν), findA l x i = some (j, v) → i ≤ j ∧ j - i < l.length ∧ (∃ y, l[j - i]? = some (y, v) ∧ y = x) ∧ getA l x = some v ∧ l.eraseIdx (j - i) = delA l x ∧ ∀ u, l.set (j - i) (x, u) = putA l x u
  | [], _, _, _, _, h => by simp [findA] at h
  | (y, v') :: t, x, i, j, v, h => by
    by_cases e : x = y
    · simp only [findA, if_pos e, Option.some.injEq, Prod.mk.injEq] at h
      obtain ⟨rfl, rfl⟩ := h
      refine ⟨Nat.le_refl _, by simp, ⟨y, by simp, e.symm⟩, by simp [getA, e], by simp [delA, e], fun u => by simp [putA, e]⟩
    · simp only [findA, if_neg e] at h
      obtain ⟨h1, h2, h3, h4, h5, h6⟩ := findA_some t x (i + 1) j v h
      obtain ⟨k, rfl⟩ : ∃ k, j = i + 1 + k := ⟨j - (i + 1), by omega⟩
      have e1 : i + 1 + k - (i + 1) = k := by omega
      have e2 : i + 1 + k - i = k + 1 := by omega
      rw [e1] at h2 h3 h5 h6
      rw [e2]
      exact ⟨by omega, by simpa using h2, by simpa using h3, by simp [getA, e, h4], by simp [delA, e, h5], fun u => by simp [putA, e, h6]⟩
theorem getA_del_same : ∀ (l : List (κ × ν)) (x : κ), (l.map Prod.fst).Nodup → getA (delA l x) x = none
  | [], _, _ => rfl
  | (y, v) :: t, x, h => by
    simp only [List.map_cons, List.nodup_cons] at h
    by_cases e : x = y
    · subst e
      simp only [delA, if_pos]
      have : ∀ (t : List (κ × ν)), x ∉ t.map Prod.fst → getA t x = none := by
        intro t
        induction t with
        | nil => intro _; rfl
        | cons p t ih =>
          intro hn
          simp only [List.map_cons, List.mem_cons, not_or] at hn
          obtain ⟨y, u⟩ := p
          simp only [getA]
          rw [if_neg hn.1, ih hn.2]
      exact this t h.1
    · simp only [delA, if_neg e, getA]
      exact getA_del_same t x h.2
theorem getA_del_other : ∀ (l : List (κ × ν)) (x y : κ), y ≠ x → getA (delA l x) y = getA l y
  | [], _, _, _ => rfl
  | (z, v) :: t, x, y, h => by
    by_cases e : x = z
    · subst e; simp [delA, getA, h]
    · simp only [delA, if_neg e, getA, getA_del_other t x y h]
theorem mem_del : ∀ (l : List (κ × ν)) (x : κ) (p : κ × ν), p ∈ delA l x → p ∈ l
  | [], _, _, h => h
  | (z, v) :: t, x, p, h => by
    by_cases e : x = z
    · simp only [delA, if_pos e] at h; exact List.mem_cons_of_mem _ h
    · simp only [delA, if_neg e, List.mem_cons] at h ⊢
      exact h.elim Or.inl (fun h => Or.inr (mem_del t x p h))
theorem nodup_del : ∀ (l : List (κ × ν)) (x : κ), (l.map Prod.fst).Nodup → ((delA l x).map Prod.fst).Nodup
  | [], _, h => h
  | (z, v) :: t, x, h => by
    simp only [List.map_cons, List.nodup_cons] at h
    by_cases e : x = z
    · simp only [delA, if_pos e]; exact h.2
    · simp only [delA, if_neg e, List.map_cons, List.nodup_cons]
      refine ⟨fun hm => h.1 ?_, nodup_del t x h.2⟩
      obtain ⟨p, hp, hz⟩ := List.mem_map.1 hm
      exact List.mem_map.2 ⟨p, mem_del t x p hp, hz⟩
theorem getA_none_mem : ∀ (l : List (κ × ν)) (x : κ), getA l x = none → x ∉ l.map Prod.fst
  | [], _, _ => by simp
  | (z, v) :: t, x, h => by
    by_cases e : x = z
    · simp [getA, e] at h
    · simp only [getA, if_neg e] at h
      simp only [List.map_cons, List.mem_cons, not_or]
      exact ⟨e, getA_none_mem t x h⟩
theorem getA_append : ∀ (l : List (κ × ν)) (x y : κ) (u : ν), getA l x = none → getA (l ++ [(x, u)]) y = if y = x then some u else getA l y
  | [], x, y, u, _ => by simp [getA]
  | (z, v) :: t, x, y, u, h => by
    by_cases e : x = z
    · simp [getA, e] at h
    · simp only [getA, if_neg e] at h
      simp only [List.cons_append, getA, getA_append t x y u h]
      by_cases e2 : y = z
      · subst e2; simp [Ne.symm e]
      · simp [e2]
theorem getA_map (g : ν → μ) : ∀ (l : List (κ × ν)) (x : κ), getA (l.map fun p => (p.1, g p.2)) x = (getA l x).map g
  | [], _ => rfl
  | (z, v) :: t, x => by
    simp only [List.map_cons, getA, getA_map g t x]
    split <;> rfl
theorem putA_map (g : ν → μ) : ∀ (l : List (κ × ν)) (x : κ) (u : ν), putA (l.map fun p => (p.1, g p.2)) x (g u) = (putA l x u).map fun p => (p.1, g p.2)
  | [], _, _ => rfl
  | (z, v) :: t, x, u => by
    simp only [List.map_cons, putA, putA_map g t x u]
    split <;> rfl
theorem mem_putA : ∀ (l : List (κ × ν)) (x : κ) (u : ν) (p : κ × ν), p ∈ putA l x u → p ∈ l ∨ p.2 = u
  | [], x, u, p, h => by simp [putA] at h; exact Or.inr (by rw [h])
  | (z, v) :: t, x, u, p, h => by
    by_cases e : x = z
    · simp only [putA, if_pos e, List.mem_cons] at h
      exact h.elim (fun h => Or.inr (by rw [h])) (fun h => Or.inl (List.mem_cons_of_mem _ h))
    · simp only [putA, if_neg e, List.mem_cons] at h
      exact h.elim (fun h => Or.inl (by rw [h]; exact List.mem_cons_self)) (fun h => (mem_putA t x u p h).elim (fun h => Or.inl (List.mem_cons_of_mem _ h)) Or.inr)
theorem getA_mem : ∀ (l : List (κ × ν)) (x : κ) (v : ν), getA l x = some v → (x, v) ∈ l
  | [], _, _, h => by simp [getA] at h
  | (z, u) :: t, x, v, h => by
    by_cases e : x = z
    · simp only [getA, if_pos e, Option.some.injEq] at h; subst e; subst h; exact List.mem_cons_self
    · simp only [getA, if_neg e] at h; exact List.mem_cons_of_mem _ (getA_mem t x v h)
end
/-- The entries of a map block, as pairs. -/
def Ent {κ : Type} (enc : κ → Value) (es : Array MapEntry) (l : List (κ × Value)) : Prop := es.toList.map (fun e => (e.key, e.val)) = l.map fun p => (enc p.1, p.2)
theorem map_erase {α β : Type} (f : α → β) : ∀ (l : List α) (i : Nat), (l.eraseIdx i).map f = (l.map f).eraseIdx i
  | [], _ => rfl
  | _ :: _, 0 => rfl
  | a :: t, i + 1 => by simp only [List.eraseIdx, List.map_cons, map_erase f t i]
section
variable {κ : Type} {enc : κ → Value} {es : Array MapEntry} {l : List (κ × Value)}
theorem find_list [DecidableEq κ] (kind : TypeDesc) (hs : ∀ x y, Instr.sameNow kind (enc x) (enc y) = some (decide (x = y))) (x : κ) : ∀ (es : List MapEntry) (l : List (κ × Value)) (i : Nat), es.map (fun e => (e.key, e.val)) = l.map (fun p => (enc p.1, p.2)) → Instr.findNow kind (enc x) es i = some (findA l x i)
  | [], [], _, _ => rfl
  | [], _ :: _, _, h => by simp at h
  | _ :: _, [], _, h => by simp at h
  | e :: es, (y, v) :: l, i, h => by
    simp only [List.map_cons, List.cons.injEq, Prod.mk.injEq] at h
    obtain ⟨⟨h1, h2⟩, h3⟩ := h
    unfold Instr.findNow
    rw [h1, hs]
    by_cases e : x = y
    · simp [findA, e, h2]
    · simp only [e, decide_false, findA]
      exact find_list kind hs x es l (i + 1) h3
theorem Ent.size (h : Ent enc es l) : es.size = l.length := by
  have := congrArg List.length h
  simpa using this
theorem Ent.del (h : Ent enc es l) (i : Nat) (hi : i < l.length) : Ent enc (es.eraseIdxIfInBounds i) (l.eraseIdx i) := by
  have hs := h.size
  unfold Ent Array.eraseIdxIfInBounds at *
  rw [dif_pos (by omega)]
  simp only [Array.toList_eraseIdx, map_erase, h]
theorem Ent.set (h : Ent enc es l) (i : Nat) (x : κ) (v : Value) : Ent enc (es.modify i fun e => { e with key := enc x, val := v }) (l.set i (x, v)) := by
  unfold Ent at *
  apply List.ext_getElem?
  intro j
  have hj := congrArg (·[j]?) h
  simp only [List.getElem?_map, List.getElem?_set, Array.getElem?_toList, Array.getElem?_modify] at hj ⊢
  by_cases e : i = j
  · subst e
    have hs := h |> congrArg List.length
    simp only [List.length_map, Array.length_toList] at hs
    by_cases hl : i < l.length
    · simp [hl, Array.getElem?_eq_getElem (show i < es.size by omega)]
    · simp [hl, Array.getElem?_eq_none (show es.size ≤ i by omega)]
  · simp [e, hj]
theorem Ent.push (h : Ent enc es l) (x : κ) (v : Value) (c : Nat) : Ent enc (es.push { key := enc x, val := v, born := c }) (l ++ [(x, v)]) := by
  unfold Ent at *
  simp [h]
end
def uK (k : Nat) : Value := .int .u64 (k : Int)
def sK (s : ByteArray) : Value := .string s
theorem same_u (x y : Nat) : Instr.sameNow (.int .u64) (uK x) (uK y) = some (decide (x = y)) := by
  show some ((x : Int) == (y : Int)) = _
  congr 1
  by_cases h : x = y
  · simp [h]
  · simp [h]; omega
theorem same_s (x y : ByteArray) : Instr.sameNow .string (sK x) (sK y) = some (decide (x = y)) := by
  show some (x == y) = _
  congr 1
  by_cases h : x = y
  · rw [(MapKept.bytes_beq x y).2 h, decide_eq_true h]
  · rw [decide_eq_false h]
    exact Bool.eq_false_iff.2 fun e => h ((MapKept.bytes_beq x y).1 e)
def upd {α : Type} (f : Nat → α) (j : Nat) (v : α) : Nat → α := fun i => if i = j then v else f i
theorem upd_same {α : Type} (f : Nat → α) (j : Nat) (v : α) : upd f j v j = v := if_pos rfl
theorem upd_other {α : Type} (f : Nat → α) (j : Nat) (v : α) {i : Nat} (h : i ≠ j) : upd f j v i = f i := if_neg h
/-- A map by numbers. -/
def UM (es : Array MapEntry) (f : Nat → Option Value) : Prop := ∃ l : List (Nat × Value), Ent uK es l ∧ (l.map Prod.fst).Nodup ∧ ∀ j, getA l j = f j
/-- A map by strings. -/
def SM (es : Array MapEntry) (l : List (ByteArray × Value)) : Prop := Ent sK es l
theorem UM.nil : UM #[] (fun _ => none) := ⟨[], rfl, List.nodup_nil, fun _ => rfl⟩
theorem SM.nil : SM #[] [] := rfl
section
variable {P : Program} {w : World} {m c : Nat} {es : Array MapEntry}
theorem obj_get (hm : w.heap[m]? = some (.map es c)) : (getObj m).run P w = .ok (.map es c) w := by simp [getObj, Sem.run, hm]
theorem obj_set (hm : w.heap[m]? = some (.map es c)) (o : Obj) : (setObj m o).run P w = .ok () (setB w m o) := by simp [setObj, Sem.run, hm, setB]
theorem chk_s (b : Bool) (n : Nat) (k : TypeId) (hk : P.underlying k = some .string) (s : ByteArray) (w : World) : (Instr.checkKey b (n + 1) k (.string s)).run P w = .ok () w := by
  unfold Instr.checkKey
  rw [Sem.run_bind, run_underlying hk, Result.andThen_ok]
  rfl
theorem fnd {d : TypeDesc} (k : TypeId) (hk : P.underlying k = some d) (x : Value) (es : List MapEntry) (r : Option (Nat × Value)) (hr : Instr.findNow d x es 0 = some r) (w : World) : (Instr.findKey k x es).run P w = .ok r w := by
  unfold Instr.findKey
  rw [Sem.run_bind, run_underlying hk, Result.andThen_ok, hr]
  rfl
theorem um_look {t k e : TypeId} (ht : P.underlying t = some (.map k e)) (hk : P.underlying k = some (.int .u64)) (z : Value) (hz : ∀ w, (zeroValue e).run P w = .ok z w) {f : Nat → Option Value} (h : UM es f) (hm : w.heap[m]? = some (.map es c)) (j : Nat) (ok : Bool) :
    (Instr.lookup t (.map (some m)) (.int .u64 j) ok).run P w = .ok (if ok then .tuple #[(f j).getD z, .bool (f j).isSome] else (f j).getD z) w := by
  obtain ⟨l, hl, _, hg⟩ := h
  have hf := find_list (.int .u64) same_u j es.toList l 0 hl
  have hck := fun b w => run_checkKey_int (P := P) b 9999 k .u64 hk j w
  unfold Instr.lookup
  cases hr : findA l j 0 with
  | none =>
    have h1 : f j = none := (hg j).symm.trans (findA_none l j 0 hr).1
    rw [hr] at hf
    simp [Sem.run_bind, run_underlying ht, obj_get hm, hck, fnd k hk (.int .u64 j) _ _ hf, hz, h1]
  | some p =>
    obtain ⟨i, v⟩ := p
    have h1 : f j = some v := (hg j).symm.trans (findA_some l j 0 i v hr).2.2.2.1
    rw [hr] at hf
    simp [Sem.run_bind, run_underlying ht, obj_get hm, hck, fnd k hk (.int .u64 j) _ _ hf, h1]
theorem um_del {t k e ty : TypeId} (ht : P.underlying t = some (.map k e)) (hk : P.underlying k = some (.int .u64)) {f : Nat → Option Value} (h : UM es f) (hm : w.heap[m]? = some (.map es c)) (j : Nat) (v : Value) (hj : f j = some v) :
    ∃ es', (Builtin.delete_ #[t, k] ty #[.map (some m), .int .u64 j]).run P w = .ok (.tuple #[]) (setB w m (.map es' c)) ∧ UM es' (upd f j none) := by
  obtain ⟨l, hl, hn, hg⟩ := h
  have hf := find_list (.int .u64) same_u j es.toList l 0 hl
  cases hr : findA l j 0 with
  | none => have h1 := (hg j).symm.trans (findA_none l j 0 hr).1; rw [h1] at hj; cases hj
  | some p =>
    obtain ⟨i, v'⟩ := p
    obtain ⟨_, hlt, _, _, hd, _⟩ := findA_some l j 0 i v' hr
    rw [hr] at hf
    refine ⟨es.eraseIdxIfInBounds i, del_hit t k e ty .u64 ht hk m j es c i v' w hm hf, delA l j, ?_, nodup_del l j hn, fun y => ?_⟩
    · rw [← hd]; exact hl.del _ (by omega)
    · by_cases e1 : y = j
      · subst e1; rw [getA_del_same l y hn, upd_same]
      · rw [getA_del_other l j y e1, upd_other _ _ _ e1, hg]
theorem um_put {t k e : TypeId} (ht : P.underlying t = some (.map k e)) (hk : P.underlying k = some (.int .u64)) {f : Nat → Option Value} (h : UM es f) (hm : w.heap[m]? = some (.map es c)) (j : Nat) (v : Value) (hj : f j = none) :
    ∃ es' c', (Instr.mapUpdate t (.map (some m)) (.int .u64 j) v).run P w = .ok () (setB w m (.map es' c')) ∧ UM es' (upd f j (some v)) := by
  obtain ⟨l, hl, hn, hg⟩ := h
  have hf := find_list (.int .u64) same_u j es.toList l 0 hl
  cases hr : findA l j 0 with
  | some p =>
    obtain ⟨i, v'⟩ := p
    have h1 := (hg j).symm.trans (findA_some l j 0 i v' hr).2.2.2.1; rw [h1] at hj; cases hj
  | none =>
    rw [hr] at hf
    have h0 : getA l j = none := (hg j).trans hj
    refine ⟨_, _, put_new t k e .u64 ht hk m j es c v w hm hf, l ++ [(j, v)], hl.push j v c, ?_, fun y => ?_⟩
    · rw [List.map_append, List.nodup_append]
      refine ⟨hn, by simp, fun a ha b hb => ?_⟩
      simp at hb
      subst hb
      intro e1; subst e1
      exact getA_none_mem l _ h0 ha
    · rw [getA_append l j y v h0, hg]; rfl
theorem sm_look {t k e : TypeId} (ht : P.underlying t = some (.map k e)) (hk : P.underlying k = some .string) (z : Value) (hz : ∀ w, (zeroValue e).run P w = .ok z w) {l : List (ByteArray × Value)} (hl : SM es l) (hm : w.heap[m]? = some (.map es c)) (s : ByteArray) :
    (Instr.lookup t (.map (some m)) (.string s) true).run P w = .ok (.tuple #[(getA l s).getD z, .bool (getA l s).isSome]) w := by
  have hf := find_list .string same_s s es.toList l 0 hl
  have hck := fun b w => chk_s (P := P) b 9999 k hk s w
  unfold Instr.lookup
  cases hr : findA l s 0 with
  | none =>
    have h1 := (findA_none l s 0 hr).1
    rw [hr] at hf
    simp [Sem.run_bind, run_underlying ht, obj_get hm, hck, fnd k hk (.string s) _ _ hf, hz, h1]
  | some p =>
    obtain ⟨i, v⟩ := p
    have h1 := (findA_some l s 0 i v hr).2.2.2.1
    rw [hr] at hf
    simp [Sem.run_bind, run_underlying ht, obj_get hm, hck, fnd k hk (.string s) _ _ hf, h1]
theorem stays_s (s : ByteArray) (w : World) : (Instr.keyThatStays (.string s) (.string s)).run P w = .ok (.string s) w := by
  have : Instr.sameBits 10000 (.string s) (.string s) = true := (MapKept.bytes_beq s s).2 rfl
  simp [Instr.keyThatStays, this]
theorem sm_put {t k e : TypeId} (ht : P.underlying t = some (.map k e)) (hk : P.underlying k = some .string) {l : List (ByteArray × Value)} (hl : SM es l) (hm : w.heap[m]? = some (.map es c)) (s : ByteArray) (v : Value) :
    ∃ es' c', (Instr.mapUpdate t (.map (some m)) (.string s) v).run P w = .ok () (setB w m (.map es' c')) ∧ SM es' (putA l s v) := by
  have hf := find_list .string same_s s es.toList l 0 hl
  have hck := fun b w => chk_s (P := P) b 9999 k hk s w
  cases hr : findA l s 0 with
  | none =>
    have h1 := (findA_none l s 0 hr).2 v
    rw [hr] at hf
    refine ⟨es.push { key := .string s, val := v, born := c }, c + 1, ?_, ?_⟩
    · unfold Instr.mapUpdate
      simp [Sem.run_bind, run_underlying ht, obj_get hm, hck, fnd k hk (.string s) _ _ hf, obj_set hm]
    · rw [h1]; exact Ent.push hl s v c
  | some p =>
    obtain ⟨i, v'⟩ := p
    obtain ⟨_, hlt, ⟨y, hy, rfl⟩, _, _, hu⟩ := findA_some l s 0 i v' hr
    rw [hr] at hf
    have hkey : (es[i]?).map (·.key) = some (.string y) := by
      have := congrArg (·[i]?) (show es.toList.map (fun e => (e.key, e.val)) = l.map fun p => (sK p.1, p.2) from hl)
      simp only [List.getElem?_map, Array.getElem?_toList, show l[i]? = some (y, v') from hy, Option.map_some] at this
      obtain ⟨e0, he0, he1⟩ := Option.map_eq_some_iff.1 this
      rw [he0]
      simp only [Prod.mk.injEq] at he1
      simp only [Option.map_some, he1.1]
      rfl
    refine ⟨es.modify i fun e => { e with key := .string y, val := v }, c, ?_, ?_⟩
    · unfold Instr.mapUpdate
      simp [Sem.run_bind, run_underlying ht, obj_get hm, hck, fnd k hk (.string y) _ _ hf, hkey, stays_s, obj_set hm]
    · rw [← hu v]; exact Ent.set hl i y v
end
end Go.Proofs.Ybulkaevs
