/-
  WHAT THE GRANTS DO, IN PLAIN WORDS: the first grant to a waiting request is taken; and how the member's tables stand in memory.
-/
import Derived.Test.YbulkaevsGrant
namespace Go.Proofs.Ybulkaevs
open Go.RowKit
structure Gr where
  m : Nat
  k : Nat
  s : ByteArray
  f : Int
/-- The grants taken, by request; the names held. -/
structure PS where
  got : Nat → Option Gr
  held : List (ByteArray × Nat)
def PS.start : PS := ⟨fun _ => none, []⟩
def takes (wait : Nat → Bool) (me : Nat) (S : PS) (g : Gr) : Bool := decide (g.m = me) && wait g.k && !(S.got g.k).isSome
def stepG (wait : Nat → Bool) (me : Nat) (S : PS) (g : Gr) : PS := if takes wait me S g then ⟨upd S.got g.k (some g), putA S.held g.s g.k⟩ else S
def runG (wait : Nat → Bool) (me : Nat) (gs : List Gr) : PS := gs.foldl (stepG wait me) PS.start
theorem runG_succ (wait : Nat → Bool) (me : Nat) (gs : List Gr) (i : Nat) (g : Gr) (h : gs[i]? = some g) : runG wait me (gs.take (i + 1)) = stepG wait me (runG wait me (gs.take i)) g := by
  unfold runG
  rw [List.take_add_one, h]
  simp
theorem runG_all (wait : Nat → Bool) (me : Nat) (gs : List Gr) : runG wait me (gs.take gs.length) = runG wait me gs := by rw [List.take_length]
structure PInv (wait : Nat → Bool) (S : PS) : Prop where
  held : ∀ p ∈ S.held, (S.got p.2).isSome = true
  got : ∀ k g, S.got k = some g → wait k = true
theorem PInv.start (wait : Nat → Bool) : PInv wait PS.start := ⟨by simp [PS.start], by simp [PS.start]⟩
theorem PInv.step {wait : Nat → Bool} {S : PS} (h : PInv wait S) (me : Nat) (g : Gr) : PInv wait (stepG wait me S g) := by
  unfold stepG
  split
  · rename_i ht
    simp only [takes, Bool.and_eq_true, decide_eq_true_eq] at ht
    refine ⟨fun p hp => ?_, fun k g' hk => ?_⟩
    · show (upd S.got g.k (some g) p.2).isSome = true
      by_cases e : p.2 = g.k
      · rw [e, upd_same]; rfl
      · rw [upd_other _ _ _ e]
        rcases mem_putA _ _ _ _ hp with h1 | h1
        · exact h.held p h1
        · exact absurd h1 e
    · by_cases e : k = g.k
      · rw [e]; exact ht.1.2
      · exact h.got k g' (by rw [← hk]; exact (upd_other _ _ _ e).symm)
  · exact h
theorem PInv.run (wait : Nat → Bool) (me : Nat) (gs : List Gr) : PInv wait (runG wait me gs) := by
  unfold runG
  have : ∀ (gs : List Gr) (S : PS), PInv wait S → PInv wait (gs.foldl (stepG wait me) S) := by
    intro gs
    induction gs with
    | nil => intro S h; exact h
    | cons g gs ih => intro S h; exact ih _ (h.step me g)
  exact this gs _ (PInv.start wait)
/-- A frame by a predicate. -/
structure FrP (T : Nat → Prop) (w w' : World) : Prop where
  os : w'.os = w.os
  tape : w'.tape = w.tape
  output : w'.output = w.output
  size : w.heap.size ≤ w'.heap.size
  block : ∀ k, k < w.heap.size → ¬ T k → w'.heap[k]? = w.heap[k]?
section
variable {T : Nat → Prop} {w w1 w2 : World}
theorem FrP.refl (w : World) : FrP T w w := ⟨rfl, rfl, rfl, Nat.le_refl _, fun _ _ _ => rfl⟩
theorem FrP.andThen {l : List Nat} (h : FrP T w w1) (k : Fr l w1 w2) (hl : ∀ i ∈ l, T i ∨ w.heap.size ≤ i) : FrP T w w2 :=
  ⟨k.os.trans h.os, k.tape.trans h.tape, k.output.trans h.output, Nat.le_trans h.size k.size, fun i hi hn => (k.block i (Nat.lt_of_lt_of_le hi h.size) (fun hm => by rcases hl i hm with h1 | h1 <;> first | exact hn h1 | omega)).trans (h.block i hi hn)⟩
theorem FrP.keep (h : FrP T w w1) {k : Nat} {o : Obj} (hk : w.heap[k]? = some o) (hn : ¬ T k) : w1.heap[k]? = some o := (h.block k (lt_of_block hk) hn).trans hk
theorem FrP.fr (h : FrP T w w1) {l : List Nat} {w0 : World} (h0 : Fr l w0 w) (hT : ∀ j, T j → w0.heap.size ≤ j ∨ j ∈ l) : Fr l w0 w1 :=
  ⟨h.os.trans h0.os, h.tape.trans h0.tape, h.output.trans h0.output, Nat.le_trans h0.size h.size, fun i hi hn => (h.block i (Nat.lt_of_lt_of_le hi h0.size) (fun ht => by rcases hT i ht with h1 | h1 <;> first | exact hn h1 | omega)).trans (h0.block i hi hn)⟩
end
/-- The cells of a request: waiting, or with its grant. -/
def reqOf (L : Nat) (c : Nat) : Option Gr → Array Value
  | none => reqC (.string ByteArray.empty) (.int .u64 0) (.chan none) .nilIface (.chan (some c))
  | some g => reqC (.string g.s) (.int .u64 g.f) (.chan (some L)) .nilIface (.chan (some c))
def heldV (L : Nat → Nat) (k : Nat) : Value := .agg #[.int .u64 k, .chan (some (L k))]
def waitF (R : Nat → Option Nat) (got : Nat → Option Gr) : Nat → Option Value := fun k => if (got k).isSome then none else (R k).map fun c => ptr (c + 1)
/-- How the member's tables stand. R: each request's channel (the request lies in the block behind it). -/
structure HS (R : Nat → Option Nat) (L : Nat → Nat) (H wm hm : Nat) (S : PS) (w : World) : Prop where
  hold : w.heap[H]? = some (.cells (holdC 0 wm hm) 48 (0, 0))
  wait : ∃ es c, w.heap[wm]? = some (.map es c) ∧ UM es (waitF R S.got)
  held : ∃ es c, w.heap[hm]? = some (.map es c) ∧ SM es (S.held.map fun p => (p.1, heldV L p.2))
  reqs : ∀ k c, R k = some c → w.heap[c + 1]? = some (.cells (reqOf (L k) c (S.got k)) 37 (0, 0)) ∧ (S.got k = none → w.heap[c]? = some chan0)
def Touch (R : Nat → Option Nat) (wm hm : Nat) (j : Nat) : Prop := j = wm ∨ j = hm ∨ ∃ k c, R k = some c ∧ (j = c ∨ j = c + 1)
section
variable {R : Nat → Option Nat} {L : Nat → Nat} {H wm hm : Nat} {S : PS} {w w' : World}
theorem HS.untouched (h : HS R L H wm hm PS.start w) {j : Nat} {cs : Array Value} {t : TypeId} {fr : Nat × Nat} (hj : w.heap[j]? = some (.cells cs t fr)) (ht : t ≠ 37) : ¬ Touch R wm hm j := by
  obtain ⟨es, c, h1, _⟩ := h.wait
  obtain ⟨es', c', h2, _⟩ := h.held
  rintro (rfl | rfl | ⟨k, c, hk, rfl | rfl⟩)
  · rw [h1] at hj; cases hj
  · rw [h2] at hj; cases hj
  · rw [(h.reqs k j hk).2 rfl] at hj; cases hj
  · rw [(h.reqs k c hk).1] at hj; cases hj; exact ht rfl
theorem HS.keep (h : HS R L H wm hm S w) (f : Fr [] w w') : HS R L H wm hm S w' := by
  obtain ⟨es, c, h1, h1'⟩ := h.wait
  obtain ⟨es', c', h2, h2'⟩ := h.held
  exact ⟨f.keep h.hold (by simp), ⟨es, c, f.keep h1 (by simp), h1'⟩, ⟨es', c', f.keep h2 (by simp), h2'⟩, fun k c hk => ⟨f.keep (h.reqs k c hk).1 (by simp), fun hg => f.keep ((h.reqs k c hk).2 hg) (by simp)⟩⟩
/-- A grant taken. -/
theorem HS.take (h : HS R L H wm hm S w) (inj : ∀ k k' c, R k = some c → R k' = some c → k = k') (g : Gr) (c : Nat) (hR : R g.k = some c) (hg : S.got g.k = none) (hI : ∀ p ∈ S.held, (S.got p.2).isSome = true)
    {N : Nat} {es hs : Array MapEntry} {d1 d2 : Nat} (f : Fr [wm, hm, c + 1, c] w w') (h1 : w'.heap[wm]? = some (.map es d1)) (h1' : UM es (upd (waitF R S.got) g.k none)) (h2 : w'.heap[hm]? = some (.map hs d2)) (h2' : SM hs (putA (S.held.map fun p => (p.1, heldV L p.2)) g.s (.agg #[.int .u64 g.k, .chan (some N)])))
    (h3 : w'.heap[c + 1]? = some (.cells (reqC (.string g.s) (.int .u64 g.f) (.chan (some N)) .nilIface (.chan (some c))) 37 (0, 0))) :
    HS R (upd L g.k N) H wm hm ⟨upd S.got g.k (some g), putA S.held g.s g.k⟩ w' := by
  obtain ⟨es0, c0, w1, _⟩ := h.wait
  obtain ⟨es0', c0', w2, _⟩ := h.held
  obtain ⟨r1, r2⟩ := h.reqs g.k c hR
  have r2 := r2 hg
  refine ⟨f.keep h.hold ?_, ⟨es, d1, h1, ?_⟩, ⟨hs, d2, h2, ?_⟩, fun k' c' hk' => ?_⟩
  · have a1 := ne_of h.hold w1 (by intro e; cases e)
    have a2 := ne_of h.hold w2 (by intro e; cases e)
    have a3 := ne_of h.hold r1 (by intro e; injection e with _ e2 _; exact absurd e2 (by decide))
    have a4 := ne_of h.hold r2 (by intro e; cases e)
    simp [a1, a2, a3, a4]
  · have : upd (waitF R S.got) g.k none = waitF R (upd S.got g.k (some g)) := by
      funext k
      by_cases e : k = g.k
      · subst e; rw [upd_same]; unfold waitF; rw [upd_same]; rfl
      · rw [upd_other _ _ _ e]; unfold waitF; rw [upd_other _ _ _ e]
    rw [← this]; exact h1'
  · have e1 : (S.held.map fun p => (p.1, heldV L p.2)) = S.held.map fun p => (p.1, heldV (upd L g.k N) p.2) := by
      refine List.map_congr_left fun p hp => ?_
      have : p.2 ≠ g.k := fun e => by have := hI p hp; rw [e, hg] at this; cases this
      unfold heldV; rw [upd_other _ _ _ this]
    have e2 : (.agg #[.int .u64 g.k, .chan (some N)] : Value) = heldV (upd L g.k N) g.k := by unfold heldV; rw [upd_same]
    rw [e1, e2, putA_map (heldV (upd L g.k N)) S.held g.s g.k] at h2'
    exact h2'
  · by_cases e : k' = g.k
    · subst e
      obtain rfl : c = c' := Option.some.inj (hR.symm.trans hk')
      refine ⟨?_, fun hn => ?_⟩
      · show w'.heap[c + 1]? = some (.cells (reqOf (upd L g.k N g.k) c (upd S.got g.k (some g) g.k)) 37 (0, 0))
        rw [upd_same, upd_same]; exact h3
      · have : upd S.got g.k (some g) g.k = none := hn
        rw [upd_same] at this; cases this
    · obtain ⟨q1, q2⟩ := h.reqs k' c' hk'
      have hcc : c' ≠ c := fun e' => e (inj k' g.k c' hk' (by rw [hR, e']))
      refine ⟨?_, fun hn => ?_⟩
      · show w'.heap[c' + 1]? = some (.cells (reqOf (upd L g.k N k') c' (upd S.got g.k (some g) k')) 37 (0, 0))
        rw [upd_other _ _ _ e, upd_other _ _ _ e]
        refine f.keep q1 ?_
        have a1 := ne_of q1 w1 (by intro e; cases e)
        have a2 := ne_of q1 w2 (by intro e; cases e)
        have a4 := ne_of q1 r2 (by intro e; cases e)
        simp [a1, a2, a4, hcc]
      · have hn' : upd S.got g.k (some g) k' = none := hn
        rw [upd_other _ _ _ e] at hn'
        have q2 := q2 hn'
        refine f.keep q2 ?_
        have a1 := ne_of q2 w1 (by intro e; cases e)
        have a2 := ne_of q2 w2 (by intro e; cases e)
        have a3 := ne_of q2 r1 (by intro e; cases e)
        simp [a1, a2, a3, hcc]
end
/-- The grants as they lie in a row of core.Grant. -/
def GsAt (gb : Nat) (gs : List Gr) (w : World) : Prop := ∃ cs, w.heap[gb]? = some (.cells cs 55 (0, 0)) ∧ cs.size = gs.length * 4 ∧ ∀ i g, gs[i]? = some g → cs[i * 4]? = some (.int .u64 g.m) ∧ cs[i * 4 + 1]? = some (.int .u64 g.k) ∧ cs[i * 4 + 2]? = some (.string g.s) ∧ cs[i * 4 + 3]? = some (.int .u64 g.f)
theorem GsAt.range {gb : Nat} {gs : List Gr} {w : World} (h : GsAt gb gs w) {i : Nat} {g : Gr} (hg : gs[i]? = some g) : w.rangeAt gb (i * 4) (grantC g.m g.k g.s g.f).toList := by
  obtain ⟨cs, h1, _, h3⟩ := h
  obtain ⟨a0, a1, a2, a3⟩ := h3 i g hg
  intro j v hj
  rw [cell_at h1]
  match j, hj with
  | 0, hj => exact a0.trans hj
  | 1, hj => exact a1.trans hj
  | 2, hj => exact a2.trans hj
  | 3, hj => exact a3.trans hj
  | j + 4, hj => cases hj
theorem GsAt.keep {gb : Nat} {gs : List Gr} {w w' : World} (h : GsAt gb gs w) (f : w'.heap[gb]? = w.heap[gb]?) : GsAt gb gs w' := by
  obtain ⟨cs, h1, h2, h3⟩ := h
  exact ⟨cs, f.trans h1, h2, h3⟩
end Go.Proofs.Ybulkaevs
