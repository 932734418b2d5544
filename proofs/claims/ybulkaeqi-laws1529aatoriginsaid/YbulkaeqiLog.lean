/-
  The law's closures: each appends one number to the log; 'done' appends the Result too.
-/
import Derived.Test.YbulkaeqiPeer
namespace Go.Proofs.Ybulkaeqi
open Go.RowKit
theorem Yba.info3 : (Yba.prog.info? 3).map (fun i => (i.zero, i.size, i.bytes)) = some (some (.int .i64 0), 1, 8) := by kernel_rfl

/-- The frame beside the log's rows: a block that was there, is not on the list, and lies below B or is no row of ints, is as it was. -/
structure F3 (B : Nat) (l : List Nat) (w w' : World) : Prop where
  os : w'.os = w.os
  tape : w'.tape = w.tape
  output : w'.output = w.output
  size : w.heap.size ≤ w'.heap.size
  block : ∀ k o, w.heap[k]? = some o → k ∉ l → (k < B ∨ ∀ cs fr, o ≠ .cells cs 3 fr) → w'.heap[k]? = some o
theorem F3.refl (B : Nat) (l : List Nat) (w : World) : F3 B l w w := ⟨rfl, rfl, rfl, Nat.le_refl _, fun _ _ h _ _ => h⟩
theorem F3.trans {B : Nat} {l : List Nat} {a b c : World} (h : F3 B l a b) (k : F3 B l b c) : F3 B l a c :=
  ⟨k.os.trans h.os, k.tape.trans h.tape, k.output.trans h.output, Nat.le_trans h.size k.size, fun i o hi hn ht => k.block i o (h.block i o hi hn ht) hn ht⟩
theorem F3.mono {B : Nat} {l l' : List Nat} {a b : World} (h : F3 B l a b) (hl : ∀ i ∈ l, i ∈ l') : F3 B l' a b :=
  ⟨h.os, h.tape, h.output, h.size, fun i o hi hn ht => h.block i o hi (fun hm => hn (hl i hm)) ht⟩
theorem F3.of_fr {B : Nat} {l : List Nat} {a b : World} (h : Fr l a b) : F3 B l a b := ⟨h.os, h.tape, h.output, h.size, fun _ _ hi hn _ => h.keep hi hn⟩
theorem F3.drew {B : Nat} {l : List Nat} {a w : World} (h : F3 B l a w) : F3 B l a w.drew := ⟨h.os, h.tape, h.output, h.size, h.block⟩
/-- Below B, with new rows alone on the list: nothing old has turned. -/
theorem F3.fr {B : Nat} {l : List Nat} {w w' : World} (h : F3 B l w w') (hB : w.heap.size ≤ B) : Fr l w w' :=
  ⟨h.os, h.tape, h.output, h.size, fun k hk hn => by
    have hg : w.heap[k]? = some w.heap[k] := Array.getElem?_eq_getElem hk
    rw [hg]; exact h.block k _ hg hn (.inl (by omega))⟩
theorem F3.keepT {B : Nat} {l : List Nat} {w w' : World} (h : F3 B l w w') {k : Nat} {cs : Array Value} {t : TypeId} {fr : Nat × Nat} (hk : w.heap[k]? = some (.cells cs t fr)) (hn : k ∉ l) (ht : t ≠ 3) : w'.heap[k]? = some (.cells cs t fr) :=
  h.block k _ hk hn (.inr fun cs' fr' e => by cases e; exact ht rfl)
theorem F3.keepM {B : Nat} {l : List Nat} {w w' : World} (h : F3 B l w w') {k : Nat} {es : Array MapEntry} {c : Nat} (hk : w.heap[k]? = some (.map es c)) (hn : k ∉ l) : w'.heap[k]? = some (.map es c) :=
  h.block k _ hk hn (.inr fun cs' fr' e => by cases e)

/-- The log: a variable that holds a slice of the numbers xs, its row (if any) from block B on. -/
def Log (lb B : Nat) (xs : List Int) (w : World) : Prop := ∃ v, w.heap[lb]? = some (.cells #[v] 76 (0, 0)) ∧ w.ownsRow B 3 1 v xs.length (xs.map (Value.int .i64)) ∧ B ≤ w.heap.size
theorem Log.keep {lb B : Nat} {xs : List Int} {w w' : World} (h : Log lb B xs w) {l : List Nat} (f : Fr l w w') (h1 : lb ∉ l) (h2 : ∀ k ∈ l, k < B ∨ ∀ cs fr, w.heap[k]? ≠ some (.cells cs 3 fr)) : Log lb B xs w' := by
  obtain ⟨v, hv, ⟨hl, ho⟩, hB⟩ := h
  refine ⟨v, f.keep hv h1, ⟨hl, ?_⟩, Nat.le_trans hB f.size⟩
  rcases ho with ho | ⟨g, cap, cur, e1, e2, e3, e4⟩
  · exact .inl ho
  · refine .inr ⟨g, cap, cur, e1, e2, f.keep e3 (fun hm => ?_), e4⟩
    rcases h2 g hm with h2 | h2
    · omega
    · exact h2 _ _ e3
/-- What a push leaves. -/
def Pushed (lb B : Nat) (xs : List Int) (c : Int) (w w' : World) : Prop := Log lb B (xs ++ [c]) w' ∧ F3 B [lb] w w'

/-- The memory behind a push. -/
theorem pushed_of {lb B : Nat} {xs : List Int} {c : Int} {w w1 : World} {v v' : Value} (hv : w.heap[lb]? = some (.cells #[v] 76 (0, 0))) (hown : w.ownsRow B 3 1 v xs.length (xs.map (Value.int .i64))) (hB : B ≤ w.heap.size)
    (hown' : w1.ownsRow B 3 1 v' (xs.length + 1) (xs.map (Value.int .i64) ++ [.int .i64 c])) (hg : (w.alloc (.cells #[.int .i64 c] 3)).grownBy w1 v.ownBlock) : Pushed lb B xs c w (w1.setCell ⟨lb, 0, none⟩ v') ∧ w1.heap[lb]? = some (.cells #[v] 76 (0, 0)) := by
  have hlb := lt_of_block hv
  -- the row that may be written is a row of ints from B on
  have hrow : ∀ k, v.ownBlock = some k → B ≤ k ∧ ∃ cur, w.heap[k]? = some (.cells cur 3 (0, 0)) := by
    intro k hk
    rcases hown.2 with ⟨rfl, _⟩ | ⟨g, cap, cur, rfl, e2, e3, _⟩
    · simp [Value.ownBlock] at hk
    · simp [Value.ownBlock] at hk; subst hk; exact ⟨e2, cur, e3⟩
  have hne : some lb ≠ v.ownBlock := fun e => by
    obtain ⟨_, cur, hc⟩ := hrow lb e.symm
    rw [hv] at hc; cases hc
  have hl1 : w1.heap[lb]? = some (.cells #[v] 76 (0, 0)) := by
    rw [hg.block lb (by simp; omega) hne, heap_get, if_neg (by omega)]; exact hv
  have hsz : w.heap.size ≤ w1.heap.size := by have := hg.size; simp at this; omega
  have hset : (w1.setCell ⟨lb, 0, none⟩ v').heap[lb]? = some (.cells #[v'] 76 (0, 0)) := by rw [heap_setCell_same _ _ _ _ _ _ hl1]; rfl
  refine ⟨⟨⟨v', hset, ?_, by simp; omega⟩, ⟨hg.os, hg.tape, hg.output, by simp; omega, ?_⟩⟩, hl1⟩
  · obtain ⟨hl, ho⟩ := hown'
    refine ⟨by simp, ?_⟩
    rcases ho with ⟨_, h⟩ | ⟨g, cap, cur, e1, e2, e3, e4, e5, e6, e7⟩
    · omega
    · refine .inr ⟨g, cap, cur, by simpa using e1, e2, ?_, by simpa using e4, e5, e6, by simpa using e7⟩
      rw [heap_setCell_other _ _ _ _ (fun e => by subst e; rw [hl1] at e3; cases e3)]; exact e3
  · intro k o hk hn ht
    have hkl : k ≠ lb := by simpa using hn
    have hks := lt_of_block hk
    rw [heap_setCell_other _ _ _ _ hkl, hg.block k (by simp; omega) (fun e => ?_), heap_get, if_neg (by omega)]
    · exact hk
    · obtain ⟨hb, cur, hc⟩ := hrow k e.symm
      rw [hk] at hc
      cases hc
      rcases ht with ht | ht
      · omega
      · exact ht _ _ rfl

set_option maxRecDepth 20000 in
set_option maxHeartbeats 400000 in
theorem push8 (lb B : Nat) (xs : List Int) (hxs : xs.length ≤ 10) (w : World) (hlog : Log lb B xs w) :
    Calls Yba.prog 8 #[.pointer (some ⟨lb, 0, none⟩)] w fun e w' => e = .returned (.tuple #[]) ∧ Pushed lb B xs 0 w w' := by
  obtain ⟨i0, hi, hz0, hz1, hz2⟩ := info_parts Yba.info3
  obtain ⟨v, hv, hown, hB⟩ := hlog
  have hc : w.cell? ⟨lb, 0, none⟩ = some v := by rw [cell_at hv]; rfl
  have H : Hid _ := And.intro hv hown
  clear hv hown
  go_enter Yba.func8, Yba.ntmps8
  go_wp2_with (first | (at_builtin; refine wpList_append_own _ rfl (.tmp 1) (.tmp 2) 76 rfl B 3 i0 (.int .i64 0) 1 8 Yba.underlying76 hi hz0 hz1 hz2 rfl (by decide) v xs.length (xs.map (Value.int .i64)) rfl (H.out.2.alloc _) ⟨w.heap.size, 0, none⟩ 1 1 [.int .i64 0] rfl rfl ?c1 ?c2 ?c3 ?c4 ?c5 ?_))
  case c1 => intro j u hj; match j, hj with | 0, hj => (simp at hj; subst hj; simp [Addr.add])
  case c2 => intro u hu; simp at hu; subst hu; rfl
  case c3 => unfold maxLen; omega
  case c4 => omega
  case c5 => simp; omega
  intro v' w1 hown' hgrow _
  obtain ⟨hp, hl1⟩ := pushed_of H.out.1 H.out.2 hB hown' hgrow
  obtain ⟨g, cap, cur, hv', _⟩ := own_form hown'
  have c1 : w1.cell? ⟨lb, 0, none⟩ = some v := by rw [cell_at hl1]; rfl
  have f1 : w1.frozen? ⟨lb, 0, none⟩ = false := free_at hl1 0
  have HP : Hid _ := hp
  clear hown' hgrow hc hp hl1
  subst hv'
  go_wp2
  go_end0
  exact ⟨rfl, HP.out⟩

set_option maxRecDepth 20000 in
set_option maxHeartbeats 400000 in
theorem push9 (lb B : Nat) (xs : List Int) (hxs : xs.length ≤ 10) (w : World) (hlog : Log lb B xs w) :
    Calls Yba.prog 9 #[.pointer (some ⟨lb, 0, none⟩)] w fun e w' => e = .returned (.tuple #[]) ∧ Pushed lb B xs 3 w w' := by
  obtain ⟨i0, hi, hz0, hz1, hz2⟩ := info_parts Yba.info3
  obtain ⟨v, hv, hown, hB⟩ := hlog
  have hc : w.cell? ⟨lb, 0, none⟩ = some v := by rw [cell_at hv]; rfl
  have H : Hid _ := And.intro hv hown
  clear hv hown
  go_enter Yba.func9, Yba.ntmps9
  go_wp2_with (first | (at_builtin; refine wpList_append_own _ rfl (.tmp 1) (.tmp 2) 76 rfl B 3 i0 (.int .i64 0) 1 8 Yba.underlying76 hi hz0 hz1 hz2 rfl (by decide) v xs.length (xs.map (Value.int .i64)) rfl (H.out.2.alloc _) ⟨w.heap.size, 0, none⟩ 1 1 [.int .i64 3] rfl rfl ?c1 ?c2 ?c3 ?c4 ?c5 ?_))
  case c1 => intro j u hj; match j, hj with | 0, hj => (simp at hj; subst hj; simp [Addr.add])
  case c2 => intro u hu; simp at hu; subst hu; rfl
  case c3 => unfold maxLen; omega
  case c4 => omega
  case c5 => simp; omega
  intro v' w1 hown' hgrow _
  obtain ⟨hp, hl1⟩ := pushed_of H.out.1 H.out.2 hB hown' hgrow
  obtain ⟨g, cap, cur, hv', _⟩ := own_form hown'
  have c1 : w1.cell? ⟨lb, 0, none⟩ = some v := by rw [cell_at hl1]; rfl
  have f1 : w1.frozen? ⟨lb, 0, none⟩ = false := free_at hl1 0
  have HP : Hid _ := hp
  clear hown' hgrow hc hp hl1
  subst hv'
  go_wp2
  go_end0
  exact ⟨rfl, HP.out⟩

set_option maxRecDepth 20000 in
set_option maxHeartbeats 400000 in
theorem push10 (lb B : Nat) (xs : List Int) (hxs : xs.length ≤ 10) (w : World) (hlog : Log lb B xs w) :
    Calls Yba.prog 10 #[.pointer (some ⟨lb, 0, none⟩)] w fun e w' => e = .returned (.tuple #[]) ∧ Pushed lb B xs 2 w w' := by
  obtain ⟨i0, hi, hz0, hz1, hz2⟩ := info_parts Yba.info3
  obtain ⟨v, hv, hown, hB⟩ := hlog
  have hc : w.cell? ⟨lb, 0, none⟩ = some v := by rw [cell_at hv]; rfl
  have H : Hid _ := And.intro hv hown
  clear hv hown
  go_enter Yba.func10, Yba.ntmps10
  go_wp2_with (first | (at_builtin; refine wpList_append_own _ rfl (.tmp 1) (.tmp 2) 76 rfl B 3 i0 (.int .i64 0) 1 8 Yba.underlying76 hi hz0 hz1 hz2 rfl (by decide) v xs.length (xs.map (Value.int .i64)) rfl (H.out.2.alloc _) ⟨w.heap.size, 0, none⟩ 1 1 [.int .i64 2] rfl rfl ?c1 ?c2 ?c3 ?c4 ?c5 ?_))
  case c1 => intro j u hj; match j, hj with | 0, hj => (simp at hj; subst hj; simp [Addr.add])
  case c2 => intro u hu; simp at hu; subst hu; rfl
  case c3 => unfold maxLen; omega
  case c4 => omega
  case c5 => simp; omega
  intro v' w1 hown' hgrow _
  obtain ⟨hp, hl1⟩ := pushed_of H.out.1 H.out.2 hB hown' hgrow
  obtain ⟨g, cap, cur, hv', _⟩ := own_form hown'
  have c1 : w1.cell? ⟨lb, 0, none⟩ = some v := by rw [cell_at hl1]; rfl
  have f1 : w1.frozen? ⟨lb, 0, none⟩ = false := free_at hl1 0
  have HP : Hid _ := hp
  clear hown' hgrow hc hp hl1
  subst hv'
  go_wp2
  go_end0
  exact ⟨rfl, HP.out⟩
end Go.Proofs.Ybulkaeqi
