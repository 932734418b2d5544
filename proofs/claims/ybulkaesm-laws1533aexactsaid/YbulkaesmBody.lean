import Derived.Test.YbulkaesmSole
namespace Go.Proofs.Ybulkaesm
open Go.RowKit
structure NdP (n im ir : Nat) (U : Nat → Bool) (R : Nat → Int) (mb : Nat) (cs : Array Value) : Prop where
  size : cs.size = n * 17
  one : ∀ (k : Nat) v, cs[k]? = some v → v.oneCell' = true
  m : ∀ j, j < n → cs[j * 17 + 8]? = some (if j < im ∧ U j = true then ptr mb else .pointer none)
  r : ∀ j, j < ir → cs[j * 17 + 11]? = some (.int .u8 (R j))
section
variable {n im ir : Nat} {U : Nat → Bool} {R : Nat → Int} {mb : Nat} {cs : Array Value}
theorem NdP.nd (h : NdP n n n U R mb cs) : Nd n n U R mb cs := ⟨h.size, fun v hv => by
  obtain ⟨k, hk⟩ := List.mem_iff_getElem?.1 hv
  exact h.one k v (by simpa using hk), h.m, h.r⟩
theorem set_one (h : ∀ (k : Nat) v, cs[k]? = some v → v.oneCell' = true) (p : Nat) (v : Value) (hv : v.oneCell' = true) : ∀ (k : Nat) u, (cs.setIfInBounds p v)[k]? = some u → u.oneCell' = true := by
  intro k u hu
  rw [Array.getElem?_setIfInBounds] at hu
  split at hu
  · split at hu
    · cases hu; exact hv
    · cases hu
  · exact h k u hu
theorem get_other (p k : Nat) (v : Value) (h : p ≠ k) : (cs.setIfInBounds p v)[k]? = cs[k]? := by rw [Array.getElem?_setIfInBounds, if_neg h]
theorem get_same (p : Nat) (v : Value) (h : p < cs.size) : (cs.setIfInBounds p v)[p]? = some v := by rw [Array.getElem?_setIfInBounds, if_pos rfl, if_pos h]
theorem NdP.any (h : NdP n im ir U R mb cs) (p : Nat) (v : Value) (hv : v.oneCell' = true) (h8 : ∀ j, p ≠ j * 17 + 8) (h11 : ∀ j, p ≠ j * 17 + 11) : NdP n im ir U R mb (cs.setIfInBounds p v) :=
  ⟨by simp [h.size], set_one h.one p v hv, fun j hj => by rw [get_other _ _ _ (h8 j)]; exact h.m j hj, fun j hj => by rw [get_other _ _ _ (h11 j)]; exact h.r j hj⟩
theorem NdP.setR (h : NdP n im ir U R mb cs) (hi : ir < n) : NdP n im (ir + 1) U R mb (cs.setIfInBounds (ir * 17 + 11) (.int .u8 (R ir))) :=
  ⟨by simp [h.size], set_one h.one _ _ rfl, fun j hj => by rw [get_other _ _ _ (by omega)]; exact h.m j hj, fun j hj => by
    by_cases e : j = ir
    · subst e; exact get_same _ _ (by rw [h.size]; omega)
    · rw [get_other _ _ _ (by omega)]; exact h.r j (by omega)⟩
theorem NdP.setM (h : NdP n im ir U R mb cs) (hi : im < n) (hU : U im = true) : NdP n (im + 1) ir U R mb (cs.setIfInBounds (im * 17 + 8) (ptr mb)) :=
  ⟨by simp [h.size], set_one h.one _ _ rfl, fun j hj => by
    by_cases e : j = im
    · subst e; rw [get_same _ _ (by rw [h.size]; omega), if_pos ⟨by omega, hU⟩]
    · rw [get_other _ _ _ (by omega), h.m j hj]
      by_cases h1 : j < im ∧ U j = true
      · rw [if_pos h1, if_pos ⟨by omega, h1.2⟩]
      · rw [if_neg h1, if_neg (fun h2 => h1 ⟨by omega, h2.2⟩)], fun j hj => by rw [get_other _ _ _ (by omega)]; exact h.r j hj⟩
theorem NdP.skipM (h : NdP n im ir U R mb cs) (hU : U im = false) : NdP n (im + 1) ir U R mb cs :=
  ⟨h.size, h.one, fun j hj => by
    rw [h.m j hj]
    by_cases h1 : j < im ∧ U j = true
    · rw [if_pos h1, if_pos ⟨by omega, h1.2⟩]
    · rw [if_neg h1, if_neg (fun h2 => h1 ⟨by
        have : j ≠ im := fun e => by subst e; rw [hU] at h2; exact absurd h2.2 (by decide)
        omega, h2.2⟩)], h.r⟩
end
/-- How it stands at the head of a round. -/
def Lw (w0 : World) (nb n i : Nat) (U : Nat → Bool) (R : Nat → Int) (mb : Nat) (W : World) : Prop := Fr [] w0 W ∧ ∃ cs, W.heap[nb]? = some (.cells cs 51 (0, 0)) ∧ NdP n i i U R mb cs
section
variable {P : Program} {n : Nat} {K : List (Nat × Value)} {a : Act} {ops : Array Oper} {rest : List Oper} {o : Oper} {w : World} {Q : Exit → Act → World → Prop} {v : Value}
theorem stStore (hK : Fm n K a) (hg : o.guard = none) {t : TypeId} {x y : Operand} (ho : o.op = .store t x y) {b j : Nat} (hx : lookO K x = some (.pointer (some ⟨b, j, none⟩))) (hy : lookO K y = some v) (hs : ∀ w, (sizeOf t).run P w = .ok 1 w) (hv : v.cells = #[v]) (h1 : v.oneCell' = true)
    {cs : Array Value} {T : TypeId} (hb : w.heap[b]? = some (.cells cs T (0, 0))) (hj : j < cs.size) (hd : o.dst = none) (h : ∀ w', Fr [b] w w' → w'.heap[b]? = some (.cells (cs.setIfInBounds j v) T (0, 0)) → wpList P ops Q rest a w') : wpList P ops Q (o :: rest) a w :=
  wpList_store1 t x y ho hg _ v (hK.op hx) (hK.op hy) hs hv h1 (cs[j]) (by rw [cell_at hb, Array.getElem?_eq_getElem hj]) (free_at hb j) (by rw [hd]; exact h _ ((Fr.refl _ _).setCell _ (by simp) _) (heap_setCell_same _ _ _ _ _ _ hb))
/-- A store of three cells into a row. -/
theorem stStore3 (hK : Fm n K a) (hg : o.guard = none) {t : TypeId} {x y : Operand} (ho : o.op = .store t x y) {b j : Nat} (hx : lookO K x = some (.pointer (some ⟨b, j, none⟩))) {u1 u2 u3 : Value} (hy : lookO K y = some (.agg #[u1, u2, u3])) (hi : (P.info? t).map (·.size) = some 3) (h1 : u1.oneCell' = true) (h2 : u2.oneCell' = true) (h3 : u3.oneCell' = true)
    {cs : Array Value} {T : TypeId} (hb : w.heap[b]? = some (.cells cs T (0, 0))) (hj : j + 2 < cs.size) (hd : o.dst = none) (h : ∀ w', Fr [b] w w' → w'.heap[b]? = some (.cells (((cs.setIfInBounds j u1).setIfInBounds (j + 1) u2).setIfInBounds (j + 2) u3) T (0, 0)) → wpList P ops Q rest a w') : wpList P ops Q (o :: rest) a w := by
  refine wpList_store_mid hg t x y ho b j #[u1, u2, u3] (hK.op hx) (hK.op hy) (fun k hk => ⟨by rw [cell_at hb, Array.getElem?_eq_getElem (by simp at hk; omega)]; rfl, free_at hb _⟩) hi (by simp [h1, h2, h3]) ?_
  rw [hd]
  refine h _ ((((Fr.refl _ _).setCell _ (by simp) _).setCell _ (by simp) _).setCell _ (by simp) _) ?_
  exact heap_setCell_same _ _ _ _ _ _ (heap_setCell_same _ _ _ _ _ _ (heap_setCell_same _ _ _ _ _ _ hb))
end
def cellsAt (k : IntKind) (a : Option Addr) (xs : List Int) (w : World) : Prop := (a = none → xs.length = 0) ∧ ∀ ad, a = some ad → ∀ (i : Nat) x, xs[i]? = some x → w.cell? (ad.add i) = some (.int k x)
def boolsAt (a : Option Addr) (xs : List Bool) (w : World) : Prop := (a = none → xs.length = 0) ∧ ∀ ad, a = some ad → ∀ (i : Nat) x, xs[i]? = some x → w.cell? (ad.add i) = some (.bool x)
theorem cell_block {w : World} {p : Addr} {v : Value} (h : w.cell? p = some v) : p.block < w.heap.size := by
  unfold World.cell? at h
  cases hx : w.heap[p.block]? with
  | none => simp [hx] at h
  | some o => exact lt_of_block hx
theorem cellsAt.keep {k : IntKind} {a : Option Addr} {xs : List Int} {w W : World} (h : cellsAt k a xs w) (f : Fr [] w W) : cellsAt k a xs W := ⟨h.1, fun ad e i x hx => (f.cell (cell_block (h.2 ad e i x hx)) (by simp)).trans (h.2 ad e i x hx)⟩
theorem boolsAt.keep {a : Option Addr} {xs : List Bool} {w W : World} (h : boolsAt a xs w) (f : Fr [] w W) : boolsAt a xs W := ⟨h.1, fun ad e i x hx => (f.cell (cell_block (h.2 ad e i x hx)) (by simp)).trans (h.2 ad e i x hx)⟩
theorem run_idxA {P : Program} {ρ : Operand → Value} {o : Oper} (t e : TypeId) (x ix : Operand) (ho : o.op = .indexAddr t x ix) (ht : P.underlying t = some (.slice e)) (ad : Addr) (n c : Nat) (hx : ρ x = .slice (some ad) n c) (i : Nat) (hix : ρ ix = .int .i64 i) (hi : i < n) (hs : ∀ w, (sizeOf e).run P w = .ok 1 w) (w : World)
    : (execOp ρ o).run P w = .ok (.value (.pointer (some (ad.add i)))) w := by
  unfold execOp; rw [ho]; dsimp only; rw [hx, hix]
  simp [Instr.indexAt, run_underlying ht, hs, go_sem]
  intro h; omega
def upAt (us : List Bool) (j : Nat) : Bool := (us[j]?).getD false
def roleAt (rs : List Int) (j : Nat) : Int := ((rs[j]?).getD 0) % 3

set_option maxRecDepth 20000 in
theorem b_up {Q : Exit → Act → World → Prop} (w0 : World) (nb mb : Nat) (hnb : w0.heap.size ≤ nb) (us : List Bool) (rs ts : List Int) (hn : rs.length ≤ 1024) (hr0 : ∀ (i : Nat) x, rs[i]? = some x → 0 ≤ x) (ua ra ta : Option Addr) (uc rc tc : Nat) (hu : boolsAt ua us w0) (hr : cellsAt .u8 ra rs w0) (ht : cellsAt .u64 ta ts w0) (a : Act) (W : World) (i : Nat) (hi : i < rs.length) (hK : Fm 92 [(11, .int .i64 i), (9, .int .i64 (cnt (lead (upAt us) (roleAt rs)) i)), (10, .int .i64 (lst (lead (upAt us) (roleAt rs)) i)), (0, .slice ua us.length uc), (1, .slice ra rs.length rc), (2, .slice ta ts.length tc), (7, ptr mb), (8, .slice (some ⟨nb, 0, none⟩) rs.length rs.length)] a) (hL : Lw w0 nb rs.length i (upAt us) (roleAt rs) mb W)
    (hN : ∀ a, Fm 92 ((12, .bool (upAt us i)) :: [(11, .int .i64 i), (9, .int .i64 (cnt (lead (upAt us) (roleAt rs)) i)), (10, .int .i64 (lst (lead (upAt us) (roleAt rs)) i)), (0, .slice ua us.length uc), (1, .slice ra rs.length rc), (2, .slice ta ts.length tc), (7, ptr mb), (8, .slice (some ⟨nb, 0, none⟩) rs.length rs.length)]) a → Code.wp Yba.prog (codeOf Yba.f3 [1, 1, 1, 1, 1, 1, 0, 1, 5, 4, 1, 0, 5, 1]) Q a W) :
    Code.wp Yba.prog (codeOf Yba.f3 [1, 1, 1, 1, 1, 1, 0, 1, 5, 4, 1, 0, 5]) Q a W := by
  have _used := And.intro hnb (And.intro hn (And.intro hr0 (And.intro hu (And.intro hr ht))))
  show Code.wp _ (.seq (.region _ (opsOf Yba.f3 [1, 1, 1, 1, 1, 1, 0, 1, 5, 4, 1, 0, 5, 0]) false) (codeOf Yba.f3 [1, 1, 1, 1, 1, 1, 0, 1, 5, 4, 1, 0, 5, 1])) _ _ _
  refine srg ?_
  show wpList _ (opsOf Yba.f3 [1, 1, 1, 1, 1, 1, 0, 1, 5, 4, 1, 0, 5, 0]) _ [opAt Yba.f3 [1, 1, 1, 1, 1, 1, 0, 1, 5, 4, 1, 0, 5, 0] 0, opAt Yba.f3 [1, 1, 1, 1, 1, 1, 0, 1, 5, 4, 1, 0, 5, 0] 1, opAt Yba.f3 [1, 1, 1, 1, 1, 1, 0, 1, 5, 4, 1, 0, 5, 0] 2, opAt Yba.f3 [1, 1, 1, 1, 1, 1, 0, 1, 5, 4, 1, 0, 5, 0] 3, opAt Yba.f3 [1, 1, 1, 1, 1, 1, 0, 1, 5, 4, 1, 0, 5, 0] 4, opAt Yba.f3 [1, 1, 1, 1, 1, 1, 0, 1, 5, 4, 1, 0, 5, 0] 5, opAt Yba.f3 [1, 1, 1, 1, 1, 1, 0, 1, 5, 4, 1, 0, 5, 0] 6, opAt Yba.f3 [1, 1, 1, 1, 1, 1, 0, 1, 5, 4, 1, 0, 5, 0] 7, opAt Yba.f3 [1, 1, 1, 1, 1, 1, 0, 1, 5, 4, 1, 0, 5, 0] 8, opAt Yba.f3 [1, 1, 1, 1, 1, 1, 0, 1, 5, 4, 1, 0, 5, 0] 9, opAt Yba.f3 [1, 1, 1, 1, 1, 1, 0, 1, 5, 4, 1, 0, 5, 0] 10] _ _
  refine stMv hK (wn rfl) rfl rfl rfl (by decide) fun a hK => ?_
  refine stMv hK (wn rfl) rfl rfl rfl (by decide) fun a hK => ?_
  refine stLenS hK (wn rfl) rfl Yba.underlying22 rfl rfl (by decide) fun a hK => ?_
  refine stBin hK (wn rfl) rfl rfl rfl (int_lss) rfl (by decide) fun a hK => ?_
  by_cases hlt : i < us.length
  · obtain ⟨x, hx⟩ : ∃ x, us[i]? = some x := ⟨us[i], List.getElem?_eq_getElem hlt⟩
    rw [decide_eq_true (show (i : Int) < us.length by omega)] at hK
    cases ua with
    | none => exact absurd (hu.1 rfl) (by omega)
    | some ad =>
      have hc := hu.2 ad rfl i x hx
      refine stMv hK (wn rfl) rfl rfl rfl (by decide) fun a hK => ?_
      refine stMv hK (hK.wy rfl rfl rfl (by decide)) rfl rfl rfl (by decide) fun a hK => ?_
      refine stMv hK (hK.wy rfl rfl rfl (by decide)) rfl rfl rfl (by decide) fun a hK => ?_
      refine st hK (hK.wy rfl rfl rfl (by decide)) (run_idxA 22 4 _ _ rfl Yba.underlying22 ad us.length uc (hK.op rfl) i (hK.op rfl) hlt (fun w => by kernel_rfl) _) rfl (by decide) fun a hK => ?_
      refine stLd hK (hK.wy rfl rfl rfl (by decide)) rfl rfl ((hL.1.cell (cell_block hc) (by simp)).trans hc) (fun w => by kernel_rfl) rfl (by decide) fun a hK => ?_
      refine stPick hK (wn rfl) rfl rfl rfl rfl rfl (by decide) fun a hK => ?_
      refine stAs hK (wn rfl) rfl rfl rfl (by decide) fun a hK => ?_
      show Code.wp _ (codeOf Yba.f3 [1, 1, 1, 1, 1, 1, 0, 1, 5, 4, 1, 0, 5, 1]) _ _ _
      have e : upAt us i = x := by simp [upAt, hx]
      exact hN a (hK.sub _ (by rw [e]; repeat (first | exact trivial | refine ⟨rfl, ?_⟩)))
  · rw [decide_eq_false (show ¬ (i : Int) < us.length by omega)] at hK
    refine stMv hK (wn rfl) rfl rfl rfl (by decide) fun a hK => ?_
    refine stSkip hK (hK.wno rfl rfl rfl (by decide)) rfl (by decide) fun a hK => ?_
    refine stSkip hK (hK.wno rfl rfl rfl (by decide)) rfl (by decide) fun a hK => ?_
    refine stSkip hK (hK.wno rfl rfl rfl (by decide)) rfl (by decide) fun a hK => ?_
    refine stSkip hK (hK.wno rfl rfl rfl (by decide)) rfl (by decide) fun a hK => ?_
    refine stPick hK (wn rfl) rfl rfl rfl rfl rfl (by decide) fun a hK => ?_
    refine stAs hK (wn rfl) rfl rfl rfl (by decide) fun a hK => ?_
    show Code.wp _ (codeOf Yba.f3 [1, 1, 1, 1, 1, 1, 0, 1, 5, 4, 1, 0, 5, 1]) _ _ _
    have e : upAt us i = false := by simp [upAt, List.getElem?_eq_none (show us.length ≤ i by omega)]
    exact hN a (hK.sub _ (by rw [e]; repeat (first | exact trivial | refine ⟨rfl, ?_⟩)))

set_option maxRecDepth 20000 in
theorem b_role {Q : Exit → Act → World → Prop} (w0 : World) (nb mb : Nat) (hnb : w0.heap.size ≤ nb) (us : List Bool) (rs ts : List Int) (hn : rs.length ≤ 1024) (hr0 : ∀ (i : Nat) x, rs[i]? = some x → 0 ≤ x) (ua ra ta : Option Addr) (uc rc tc : Nat) (hu : boolsAt ua us w0) (hr : cellsAt .u8 ra rs w0) (ht : cellsAt .u64 ta ts w0) (a : Act) (W : World) (i : Nat) (hi : i < rs.length) (hK : Fm 92 ((12, .bool (upAt us i)) :: [(11, .int .i64 i), (9, .int .i64 (cnt (lead (upAt us) (roleAt rs)) i)), (10, .int .i64 (lst (lead (upAt us) (roleAt rs)) i)), (0, .slice ua us.length uc), (1, .slice ra rs.length rc), (2, .slice ta ts.length tc), (7, ptr mb), (8, .slice (some ⟨nb, 0, none⟩) rs.length rs.length)]) a) (hL : Lw w0 nb rs.length i (upAt us) (roleAt rs) mb W)
    (hN : ∀ a t, Fm 92 ((14, .int .u8 (roleAt rs i)) :: (13, .int .u64 t) :: (12, .bool (upAt us i)) :: [(11, .int .i64 i), (9, .int .i64 (cnt (lead (upAt us) (roleAt rs)) i)), (10, .int .i64 (lst (lead (upAt us) (roleAt rs)) i)), (0, .slice ua us.length uc), (1, .slice ra rs.length rc), (2, .slice ta ts.length tc), (7, ptr mb), (8, .slice (some ⟨nb, 0, none⟩) rs.length rs.length)]) a → Code.wp Yba.prog (codeOf Yba.f3 [1, 1, 1, 1, 1, 1, 0, 1, 5, 4, 1, 0, 5, 1, 1, 1, 1]) Q a W) :
    Code.wp Yba.prog (codeOf Yba.f3 [1, 1, 1, 1, 1, 1, 0, 1, 5, 4, 1, 0, 5, 1]) Q a W := by
  have _used := And.intro hnb (And.intro hn (And.intro hr0 (And.intro hu (And.intro hr ht))))
  have h14 : ∀ a t, Fm 92 ((13, .int .u64 t) :: (12, .bool (upAt us i)) :: [(11, .int .i64 i), (9, .int .i64 (cnt (lead (upAt us) (roleAt rs)) i)), (10, .int .i64 (lst (lead (upAt us) (roleAt rs)) i)), (0, .slice ua us.length uc), (1, .slice ra rs.length rc), (2, .slice ta ts.length tc), (7, ptr mb), (8, .slice (some ⟨nb, 0, none⟩) rs.length rs.length)]) a → Code.wp Yba.prog (codeOf Yba.f3 [1, 1, 1, 1, 1, 1, 0, 1, 5, 4, 1, 0, 5, 1, 1, 1]) Q a W := by
    intro a t hK
    obtain ⟨x, hx⟩ : ∃ x, rs[i]? = some x := ⟨rs[i], List.getElem?_eq_getElem hi⟩
    cases ra with
    | none => exact absurd (hr.1 rfl) (by omega)
    | some ad =>
      have hc := hr.2 ad rfl i x hx
      show Code.wp _ (.seq (.region _ (opsOf Yba.f3 [1, 1, 1, 1, 1, 1, 0, 1, 5, 4, 1, 0, 5, 1, 1, 1, 0]) false) (codeOf Yba.f3 [1, 1, 1, 1, 1, 1, 0, 1, 5, 4, 1, 0, 5, 1, 1, 1, 1])) _ _ _
      refine srg ?_
      show wpList _ (opsOf Yba.f3 [1, 1, 1, 1, 1, 1, 0, 1, 5, 4, 1, 0, 5, 1, 1, 1, 0]) _ [opAt Yba.f3 [1, 1, 1, 1, 1, 1, 0, 1, 5, 4, 1, 0, 5, 1, 1, 1, 0] 0, opAt Yba.f3 [1, 1, 1, 1, 1, 1, 0, 1, 5, 4, 1, 0, 5, 1, 1, 1, 0] 1, opAt Yba.f3 [1, 1, 1, 1, 1, 1, 0, 1, 5, 4, 1, 0, 5, 1, 1, 1, 0] 2, opAt Yba.f3 [1, 1, 1, 1, 1, 1, 0, 1, 5, 4, 1, 0, 5, 1, 1, 1, 0] 3, opAt Yba.f3 [1, 1, 1, 1, 1, 1, 0, 1, 5, 4, 1, 0, 5, 1, 1, 1, 0] 4, opAt Yba.f3 [1, 1, 1, 1, 1, 1, 0, 1, 5, 4, 1, 0, 5, 1, 1, 1, 0] 5] _ _
      refine stMv hK (wn rfl) rfl rfl rfl (by decide) fun a hK => ?_
      refine stMv hK (wn rfl) rfl rfl rfl (by decide) fun a hK => ?_
      refine st hK (wn rfl) (run_idxA 23 5 _ _ rfl Yba.underlying23 ad rs.length rc (hK.op rfl) i (hK.op rfl) hi (fun w => by kernel_rfl) _) rfl (by decide) fun a hK => ?_
      refine stLd hK (wn rfl) rfl rfl ((hL.1.cell (cell_block hc) (by simp)).trans hc) (fun w => by kernel_rfl) rfl (by decide) fun a hK => ?_
      refine stCall hK rfl rfl rfl (R := fun v w' => v = .int .u8 (x % 3) ∧ w' = W) (fun w => by kernel_rfl) ((role x (hr0 i x hx) W).mono fun _ _ h => ⟨_, h.1, rfl, h.2⟩) rfl (by decide) fun v a W' hR hK => ?_
      obtain ⟨rfl, rfl⟩ := hR
      refine stAs hK (wn rfl) rfl rfl rfl (by decide) fun a hK => ?_
      show Code.wp _ (codeOf Yba.f3 [1, 1, 1, 1, 1, 1, 0, 1, 5, 4, 1, 0, 5, 1, 1, 1, 1]) _ _ _
      have e : roleAt rs i = x % 3 := by simp [roleAt, hx]
      exact hN a t (by rw [e]; exact hK.sub _ (by repeat (first | exact trivial | refine ⟨rfl, ?_⟩)))
  show Code.wp _ (.seq (.region _ (opsOf Yba.f3 [1, 1, 1, 1, 1, 1, 0, 1, 5, 4, 1, 0, 5, 1, 0]) false) (codeOf Yba.f3 [1, 1, 1, 1, 1, 1, 0, 1, 5, 4, 1, 0, 5, 1, 1])) _ _ _
  refine srg ?_
  show wpList _ (opsOf Yba.f3 [1, 1, 1, 1, 1, 1, 0, 1, 5, 4, 1, 0, 5, 1, 0]) _ [opAt Yba.f3 [1, 1, 1, 1, 1, 1, 0, 1, 5, 4, 1, 0, 5, 1, 0] 0] _ _
  refine stAs hK (wn rfl) rfl rfl rfl (by decide) fun a hK => ?_
  show Code.wp _ (codeOf Yba.f3 [1, 1, 1, 1, 1, 1, 0, 1, 5, 4, 1, 0, 5, 1, 1]) _ _ _
  show Code.wp _ (.seq (.seq (.region _ (opsOf Yba.f3 [1, 1, 1, 1, 1, 1, 0, 1, 5, 4, 1, 0, 5, 1, 1, 0, 0]) false) (codeOf Yba.f3 [1, 1, 1, 1, 1, 1, 0, 1, 5, 4, 1, 0, 5, 1, 1, 0, 1])) (codeOf Yba.f3 [1, 1, 1, 1, 1, 1, 0, 1, 5, 4, 1, 0, 5, 1, 1, 1])) _ _ _
  refine wp_seq (srg ?_)
  show wpList _ (opsOf Yba.f3 [1, 1, 1, 1, 1, 1, 0, 1, 5, 4, 1, 0, 5, 1, 1, 0, 0]) _ [opAt Yba.f3 [1, 1, 1, 1, 1, 1, 0, 1, 5, 4, 1, 0, 5, 1, 1, 0, 0] 0, opAt Yba.f3 [1, 1, 1, 1, 1, 1, 0, 1, 5, 4, 1, 0, 5, 1, 1, 0, 0] 1, opAt Yba.f3 [1, 1, 1, 1, 1, 1, 0, 1, 5, 4, 1, 0, 5, 1, 1, 0, 0] 2, opAt Yba.f3 [1, 1, 1, 1, 1, 1, 0, 1, 5, 4, 1, 0, 5, 1, 1, 0, 0] 3] _ _
  refine stMv hK (wn rfl) rfl rfl rfl (by decide) fun a hK => ?_
  refine stMv hK (wn rfl) rfl rfl rfl (by decide) fun a hK => ?_
  refine stLenS hK (wn rfl) rfl Yba.underlying24 rfl rfl (by decide) fun a hK => ?_
  refine stBin hK (wn rfl) rfl rfl rfl (int_lss) rfl (by decide) fun a hK => ?_
  by_cases hlt : i < ts.length
  · obtain ⟨t, htx⟩ : ∃ t, ts[i]? = some t := ⟨ts[i], List.getElem?_eq_getElem hlt⟩
    rw [decide_eq_true (show (i : Int) < ts.length by omega)] at hK
    cases ta with
    | none => exact absurd (ht.1 rfl) (by omega)
    | some ad =>
      have hc := ht.2 ad rfl i t htx
      show Code.wp _ (.cond (.tmp 45) (codeOf Yba.f3 [1, 1, 1, 1, 1, 1, 0, 1, 5, 4, 1, 0, 5, 1, 1, 0, 1, 2]) .skip) _ _ _
      refine wp_cond_true (hK.op rfl) ?_
      show Code.wp _ (.region _ (opsOf Yba.f3 [1, 1, 1, 1, 1, 1, 0, 1, 5, 4, 1, 0, 5, 1, 1, 0, 1, 2]) false) _ _ _
      refine wp_region_list ?_
      show wpList _ (opsOf Yba.f3 [1, 1, 1, 1, 1, 1, 0, 1, 5, 4, 1, 0, 5, 1, 1, 0, 1, 2]) _ [opAt Yba.f3 [1, 1, 1, 1, 1, 1, 0, 1, 5, 4, 1, 0, 5, 1, 1, 0, 1, 2] 0, opAt Yba.f3 [1, 1, 1, 1, 1, 1, 0, 1, 5, 4, 1, 0, 5, 1, 1, 0, 1, 2] 1, opAt Yba.f3 [1, 1, 1, 1, 1, 1, 0, 1, 5, 4, 1, 0, 5, 1, 1, 0, 1, 2] 2, opAt Yba.f3 [1, 1, 1, 1, 1, 1, 0, 1, 5, 4, 1, 0, 5, 1, 1, 0, 1, 2] 3, opAt Yba.f3 [1, 1, 1, 1, 1, 1, 0, 1, 5, 4, 1, 0, 5, 1, 1, 0, 1, 2] 4] _ _
      refine stMv hK (wn rfl) rfl rfl rfl (by decide) fun a hK => ?_
      refine stMv hK (wn rfl) rfl rfl rfl (by decide) fun a hK => ?_
      refine st hK (wn rfl) (run_idxA 24 35 _ _ rfl Yba.underlying24 ad ts.length tc (hK.op rfl) i (hK.op rfl) hlt (fun w => by kernel_rfl) _) rfl (by decide) fun a hK => ?_
      refine stLd hK (wn rfl) rfl rfl ((hL.1.cell (cell_block hc) (by simp)).trans hc) (fun w => by kernel_rfl) rfl (by decide) fun a hK => ?_
      refine stAs hK (wn rfl) rfl rfl rfl (by decide) fun a hK => ?_
      show Code.wp _ (codeOf Yba.f3 [1, 1, 1, 1, 1, 1, 0, 1, 5, 4, 1, 0, 5, 1, 1, 1]) _ _ _
      exact h14 a t (hK.sub _ (by repeat (first | exact trivial | refine ⟨rfl, ?_⟩)))
  · rw [decide_eq_false (show ¬ (i : Int) < ts.length by omega)] at hK
    show Code.wp _ (.cond (.tmp 45) (codeOf Yba.f3 [1, 1, 1, 1, 1, 1, 0, 1, 5, 4, 1, 0, 5, 1, 1, 0, 1, 2]) .skip) _ _ _
    refine wp_cond_false (hK.op rfl) (wp_skip ?_)
    show Code.wp _ (codeOf Yba.f3 [1, 1, 1, 1, 1, 1, 0, 1, 5, 4, 1, 0, 5, 1, 1, 1]) _ _ _
    exact h14 a 0 (hK.sub _ (by repeat (first | exact trivial | refine ⟨rfl, ?_⟩)))

set_option maxRecDepth 20000 in
theorem b_rest {Q : Exit → Act → World → Prop} (w0 : World) (nb mb : Nat) (hnb : w0.heap.size ≤ nb) (us : List Bool) (rs ts : List Int) (hn : rs.length ≤ 1024) (hr0 : ∀ (i : Nat) x, rs[i]? = some x → 0 ≤ x) (ua ra ta : Option Addr) (uc rc tc : Nat) (hu : boolsAt ua us w0) (hr : cellsAt .u8 ra rs w0) (ht : cellsAt .u64 ta ts w0) (a : Act) (W : World) (i : Nat) (hi : i < rs.length) (t : Int) (hK : Fm 92 ((14, .int .u8 (roleAt rs i)) :: (13, .int .u64 t) :: (12, .bool (upAt us i)) :: [(11, .int .i64 i), (9, .int .i64 (cnt (lead (upAt us) (roleAt rs)) i)), (10, .int .i64 (lst (lead (upAt us) (roleAt rs)) i)), (0, .slice ua us.length uc), (1, .slice ra rs.length rc), (2, .slice ta ts.length tc), (7, ptr mb), (8, .slice (some ⟨nb, 0, none⟩) rs.length rs.length)]) a) (hL : Lw w0 nb rs.length i (upAt us) (roleAt rs) mb W)
    (hN : ∀ a W, Fm 92 [(11, .int .i64 i), (9, .int .i64 (cnt (lead (upAt us) (roleAt rs)) (i + 1))), (10, .int .i64 (lst (lead (upAt us) (roleAt rs)) (i + 1))), (0, .slice ua us.length uc), (1, .slice ra rs.length rc), (2, .slice ta ts.length tc), (7, ptr mb), (8, .slice (some ⟨nb, 0, none⟩) rs.length rs.length)] a → Lw w0 nb rs.length (i + 1) (upAt us) (roleAt rs) mb W → Q .normal a W) :
    Code.wp Yba.prog (codeOf Yba.f3 [1, 1, 1, 1, 1, 1, 0, 1, 5, 4, 1, 0, 5, 1, 1, 1, 1]) Q a W := by
  have _used := And.intro hnb (And.intro hn (And.intro hr0 (And.intro hu (And.intro hr ht))))
  obtain ⟨hF, cs, hcs, hnd⟩ := hL
  have hsz := hnd.size
  show Code.wp _ (.seq (.region _ (opsOf Yba.f3 [1, 1, 1, 1, 1, 1, 0, 1, 5, 4, 1, 0, 5, 1, 1, 1, 1, 0]) false) (codeOf Yba.f3 [1, 1, 1, 1, 1, 1, 0, 1, 5, 4, 1, 0, 5, 1, 1, 1, 1, 1])) _ _ _
  refine srg ?_
  show wpList _ (opsOf Yba.f3 [1, 1, 1, 1, 1, 1, 0, 1, 5, 4, 1, 0, 5, 1, 1, 1, 1, 0]) _ [opAt Yba.f3 [1, 1, 1, 1, 1, 1, 0, 1, 5, 4, 1, 0, 5, 1, 1, 1, 1, 0] 0, opAt Yba.f3 [1, 1, 1, 1, 1, 1, 0, 1, 5, 4, 1, 0, 5, 1, 1, 1, 1, 0] 1, opAt Yba.f3 [1, 1, 1, 1, 1, 1, 0, 1, 5, 4, 1, 0, 5, 1, 1, 1, 1, 0] 2, opAt Yba.f3 [1, 1, 1, 1, 1, 1, 0, 1, 5, 4, 1, 0, 5, 1, 1, 1, 1, 0] 3, opAt Yba.f3 [1, 1, 1, 1, 1, 1, 0, 1, 5, 4, 1, 0, 5, 1, 1, 1, 1, 0] 4, opAt Yba.f3 [1, 1, 1, 1, 1, 1, 0, 1, 5, 4, 1, 0, 5, 1, 1, 1, 1, 0] 5, opAt Yba.f3 [1, 1, 1, 1, 1, 1, 0, 1, 5, 4, 1, 0, 5, 1, 1, 1, 1, 0] 6, opAt Yba.f3 [1, 1, 1, 1, 1, 1, 0, 1, 5, 4, 1, 0, 5, 1, 1, 1, 1, 0] 7] _ _
  refine stMv hK (wn rfl) rfl rfl rfl (by decide) fun a hK => ?_
  refine stMv hK (wn rfl) rfl rfl rfl (by decide) fun a hK => ?_
  refine stMv hK (wn rfl) rfl rfl rfl (by decide) fun a hK => ?_
  refine stMv hK (wn rfl) rfl rfl rfl (by decide) fun a hK => ?_
  refine stBuild hK (wn rfl) rfl rfl ((by kernel_rfl : _ = Result.ok (Value.agg #[.int .u8 (roleAt rs i), .int .u64 t, .string ByteArray.empty]) _)) rfl (by decide) fun a hK => ?_
  refine st hK (wn rfl) (run_idx17 _ _ rfl nb rs.length rs.length (hK.op rfl) i (hK.op rfl) hi _) rfl (by decide) fun a hK => ?_
  refine st hK (wn rfl) (run_fieldAddr 51 _ 4 rfl ⟨nb, i * 17, none⟩ ⟨nb, i * 17 + 11, none⟩ (hK.op rfl) _ (by kernel_rfl)) rfl (by decide) fun a hK => ?_
  refine stStore3 hK rfl rfl rfl rfl (by kernel_rfl) rfl rfl rfl hcs (by omega) rfl fun W1 hF1 hcs1 => ?_
  show Code.wp _ (codeOf Yba.f3 [1, 1, 1, 1, 1, 1, 0, 1, 5, 4, 1, 0, 5, 1, 1, 1, 1, 1]) _ _ _
  have n1 := ((hnd.setR hi).any (i * 17 + 12) (.int .u64 t) rfl (fun j => by omega) (fun j => by omega)).any (i * 17 + 13) (.string ByteArray.empty) rfl (fun j => by omega) (fun j => by omega)
  show Code.wp _ (.seq (.region _ (opsOf Yba.f3 [1, 1, 1, 1, 1, 1, 0, 1, 5, 4, 1, 0, 5, 1, 1, 1, 1, 1, 0]) false) (codeOf Yba.f3 [1, 1, 1, 1, 1, 1, 0, 1, 5, 4, 1, 0, 5, 1, 1, 1, 1, 1, 1])) _ _ _
  refine srg ?_
  show wpList _ (opsOf Yba.f3 [1, 1, 1, 1, 1, 1, 0, 1, 5, 4, 1, 0, 5, 1, 1, 1, 1, 1, 0]) _ [opAt Yba.f3 [1, 1, 1, 1, 1, 1, 0, 1, 5, 4, 1, 0, 5, 1, 1, 1, 1, 1, 0] 0, opAt Yba.f3 [1, 1, 1, 1, 1, 1, 0, 1, 5, 4, 1, 0, 5, 1, 1, 1, 1, 1, 0] 1, opAt Yba.f3 [1, 1, 1, 1, 1, 1, 0, 1, 5, 4, 1, 0, 5, 1, 1, 1, 1, 1, 0] 2, opAt Yba.f3 [1, 1, 1, 1, 1, 1, 0, 1, 5, 4, 1, 0, 5, 1, 1, 1, 1, 1, 0] 3, opAt Yba.f3 [1, 1, 1, 1, 1, 1, 0, 1, 5, 4, 1, 0, 5, 1, 1, 1, 1, 1, 0] 4] _ _
  refine stMv hK (wn rfl) rfl rfl rfl (by decide) fun a hK => ?_
  refine stMv hK (wn rfl) rfl rfl rfl (by decide) fun a hK => ?_
  refine st hK (wn rfl) (run_idx17 _ _ rfl nb rs.length rs.length (hK.op rfl) i (hK.op rfl) hi _) rfl (by decide) fun a hK => ?_
  refine st hK (wn rfl) (run_fieldAddr 51 _ 5 rfl ⟨nb, i * 17, none⟩ ⟨nb, i * 17 + 14, none⟩ (hK.op rfl) _ (by kernel_rfl)) rfl (by decide) fun a hK => ?_
  refine stStore hK rfl rfl rfl rfl (fun w => by kernel_rfl) rfl rfl hcs1 (by simp; omega) rfl fun W2 hF2 hcs2 => ?_
  show Code.wp _ (codeOf Yba.f3 [1, 1, 1, 1, 1, 1, 0, 1, 5, 4, 1, 0, 5, 1, 1, 1, 1, 1, 1]) _ _ _
  have n2 := n1.any (i * 17 + 14) (.int .i64 (-1)) rfl (fun j => by omega) (fun j => by omega)
  have hF02 : Fr [] w0 W2 := (hF.andThen hF1 (fun k hk => by simp at hk; omega)).andThen hF2 (fun k hk => by simp at hk; have := hF.size; omega)
  have hs2 := n2.size
  clear hcs hcs1 hsz hnd n1 hF1 hF2 hF
  generalize Array.setIfInBounds _ _ _ = cs2 at hcs2 n2 hs2
  show Code.wp _ (.seq (.region _ (opsOf Yba.f3 [1, 1, 1, 1, 1, 1, 0, 1, 5, 4, 1, 0, 5, 1, 1, 1, 1, 1, 1, 0]) false) (.cond (.tmp 66) (codeOf Yba.f3 [1, 1, 1, 1, 1, 1, 0, 1, 5, 4, 1, 0, 5, 1, 1, 1, 1, 1, 1, 1, 2]) .skip)) _ _ _
  refine srg ?_
  show wpList _ (opsOf Yba.f3 [1, 1, 1, 1, 1, 1, 0, 1, 5, 4, 1, 0, 5, 1, 1, 1, 1, 1, 1, 0]) _ [opAt Yba.f3 [1, 1, 1, 1, 1, 1, 0, 1, 5, 4, 1, 0, 5, 1, 1, 1, 1, 1, 1, 0] 0] _ _
  refine stMv hK (wn rfl) rfl rfl rfl (by decide) fun a hK => ?_
  cases hU : upAt us i with
  | false =>
    rw [hU] at hK
    refine wp_cond_false (hK.op rfl) (wp_skip ?_)
    have hl : lead (upAt us) (roleAt rs) i = false := by simp [lead, hU]
    refine hN a W2 ?_ ⟨hF02, _, hcs2, n2.skipM hU⟩
    have e1 : cnt (lead (upAt us) (roleAt rs)) (i + 1) = cnt (lead (upAt us) (roleAt rs)) i := by simp [cnt, hl]
    have e2 : lst (lead (upAt us) (roleAt rs)) (i + 1) = lst (lead (upAt us) (roleAt rs)) i := by simp [lst, hl]
    rw [e1, e2]; exact hK.sub _ (by repeat (first | exact trivial | refine ⟨rfl, ?_⟩))
  | true =>
    rw [hU] at hK
    refine wp_cond_true (hK.op rfl) ?_
    show Code.wp _ (.seq (.region _ (opsOf Yba.f3 [1, 1, 1, 1, 1, 1, 0, 1, 5, 4, 1, 0, 5, 1, 1, 1, 1, 1, 1, 1, 2, 0]) false) (.seq (.region _ (opsOf Yba.f3 [1, 1, 1, 1, 1, 1, 0, 1, 5, 4, 1, 0, 5, 1, 1, 1, 1, 1, 1, 1, 2, 1, 0]) false) (.cond (.tmp 77) (.seq (.region _ (opsOf Yba.f3 [1, 1, 1, 1, 1, 1, 0, 1, 5, 4, 1, 0, 5, 1, 1, 1, 1, 1, 1, 1, 2, 1, 1, 2, 0]) false) (.region _ (opsOf Yba.f3 [1, 1, 1, 1, 1, 1, 0, 1, 5, 4, 1, 0, 5, 1, 1, 1, 1, 1, 1, 1, 2, 1, 1, 2, 1]) false)) .skip))) _ _ _
    refine srg ?_
    show wpList _ (opsOf Yba.f3 [1, 1, 1, 1, 1, 1, 0, 1, 5, 4, 1, 0, 5, 1, 1, 1, 1, 1, 1, 1, 2, 0]) _ [opAt Yba.f3 [1, 1, 1, 1, 1, 1, 0, 1, 5, 4, 1, 0, 5, 1, 1, 1, 1, 1, 1, 1, 2, 0] 0, opAt Yba.f3 [1, 1, 1, 1, 1, 1, 0, 1, 5, 4, 1, 0, 5, 1, 1, 1, 1, 1, 1, 1, 2, 0] 1, opAt Yba.f3 [1, 1, 1, 1, 1, 1, 0, 1, 5, 4, 1, 0, 5, 1, 1, 1, 1, 1, 1, 1, 2, 0] 2, opAt Yba.f3 [1, 1, 1, 1, 1, 1, 0, 1, 5, 4, 1, 0, 5, 1, 1, 1, 1, 1, 1, 1, 2, 0] 3, opAt Yba.f3 [1, 1, 1, 1, 1, 1, 0, 1, 5, 4, 1, 0, 5, 1, 1, 1, 1, 1, 1, 1, 2, 0] 4, opAt Yba.f3 [1, 1, 1, 1, 1, 1, 0, 1, 5, 4, 1, 0, 5, 1, 1, 1, 1, 1, 1, 1, 2, 0] 5] _ _
    refine stMv hK (wn rfl) rfl rfl rfl (by decide) fun a hK => ?_
    refine stMv hK (wn rfl) rfl rfl rfl (by decide) fun a hK => ?_
    refine stMv hK (wn rfl) rfl rfl rfl (by decide) fun a hK => ?_
    refine st hK (wn rfl) (run_idx17 _ _ rfl nb rs.length rs.length (hK.op rfl) i (hK.op rfl) hi _) rfl (by decide) fun a hK => ?_
    refine st hK (wn rfl) (run_fieldAddr 51 _ 2 rfl ⟨nb, i * 17, none⟩ ⟨nb, i * 17 + 8, none⟩ (hK.op rfl) _ (by kernel_rfl)) rfl (by decide) fun a hK => ?_
    refine stStore hK rfl rfl rfl rfl (fun w => by kernel_rfl) rfl rfl hcs2 (by omega) rfl fun W3 hF3 hcs3 => ?_
    have n3 := n2.setM hi hU
    have hF03 : Fr [] w0 W3 := hF02.andThen hF3 (fun k hk => by simp at hk; omega)
    show Code.wp _ (.seq (.region _ (opsOf Yba.f3 [1, 1, 1, 1, 1, 1, 0, 1, 5, 4, 1, 0, 5, 1, 1, 1, 1, 1, 1, 1, 2, 1, 0]) false) (.cond (.tmp 77) (.seq (.region _ (opsOf Yba.f3 [1, 1, 1, 1, 1, 1, 0, 1, 5, 4, 1, 0, 5, 1, 1, 1, 1, 1, 1, 1, 2, 1, 1, 2, 0]) false) (.region _ (opsOf Yba.f3 [1, 1, 1, 1, 1, 1, 0, 1, 5, 4, 1, 0, 5, 1, 1, 1, 1, 1, 1, 1, 2, 1, 1, 2, 1]) false)) .skip)) _ _ _
    obtain ⟨x, hx⟩ : ∃ x, rs[i]? = some x := ⟨rs[i], List.getElem?_eq_getElem hi⟩
    have er : roleAt rs i = x % 3 := by simp [roleAt, hx]
    cases ra with
    | none => exact absurd (hr.1 rfl) (by omega)
    | some ad =>
      have hc := hr.2 ad rfl i x hx
      refine srg ?_
      show wpList _ (opsOf Yba.f3 [1, 1, 1, 1, 1, 1, 0, 1, 5, 4, 1, 0, 5, 1, 1, 1, 1, 1, 1, 1, 2, 1, 0]) _ [opAt Yba.f3 [1, 1, 1, 1, 1, 1, 0, 1, 5, 4, 1, 0, 5, 1, 1, 1, 1, 1, 1, 1, 2, 1, 0] 0, opAt Yba.f3 [1, 1, 1, 1, 1, 1, 0, 1, 5, 4, 1, 0, 5, 1, 1, 1, 1, 1, 1, 1, 2, 1, 0] 1, opAt Yba.f3 [1, 1, 1, 1, 1, 1, 0, 1, 5, 4, 1, 0, 5, 1, 1, 1, 1, 1, 1, 1, 2, 1, 0] 2, opAt Yba.f3 [1, 1, 1, 1, 1, 1, 0, 1, 5, 4, 1, 0, 5, 1, 1, 1, 1, 1, 1, 1, 2, 1, 0] 3, opAt Yba.f3 [1, 1, 1, 1, 1, 1, 0, 1, 5, 4, 1, 0, 5, 1, 1, 1, 1, 1, 1, 1, 2, 1, 0] 4, opAt Yba.f3 [1, 1, 1, 1, 1, 1, 0, 1, 5, 4, 1, 0, 5, 1, 1, 1, 1, 1, 1, 1, 2, 1, 0] 5] _ _
      refine stMv hK (wn rfl) rfl rfl rfl (by decide) fun a hK => ?_
      refine stMv hK (wn rfl) rfl rfl rfl (by decide) fun a hK => ?_
      refine st hK (wn rfl) (run_idxA 23 5 _ _ rfl Yba.underlying23 ad rs.length rc (hK.op rfl) i (hK.op rfl) hi (fun w => by kernel_rfl) _) rfl (by decide) fun a hK => ?_
      refine stLd hK (wn rfl) rfl rfl ((hF03.cell (cell_block hc) (by simp)).trans hc) (fun w => by kernel_rfl) rfl (by decide) fun a hK => ?_
      refine stBin hK (wn rfl) rfl rfl rfl (u8_rem (hr0 i x hx)) rfl (by decide) fun a hK => ?_
      refine stBin hK (wn rfl) rfl rfl rfl (u8_eql (.inl rfl)) rfl (by decide) fun a hK => ?_
      by_cases h2 : x % 3 = 2
      · have hl : lead (upAt us) (roleAt rs) i = true := by simp [lead, hU, er, h2]
        refine wp_cond_true ((hK.op rfl).trans (by rw [decide_eq_true h2])) (srg ?_)
        show wpList _ (opsOf Yba.f3 [1, 1, 1, 1, 1, 1, 0, 1, 5, 4, 1, 0, 5, 1, 1, 1, 1, 1, 1, 1, 2, 1, 1, 2, 0]) _ [opAt Yba.f3 [1, 1, 1, 1, 1, 1, 0, 1, 5, 4, 1, 0, 5, 1, 1, 1, 1, 1, 1, 1, 2, 1, 1, 2, 0] 0, opAt Yba.f3 [1, 1, 1, 1, 1, 1, 0, 1, 5, 4, 1, 0, 5, 1, 1, 1, 1, 1, 1, 1, 2, 1, 1, 2, 0] 1, opAt Yba.f3 [1, 1, 1, 1, 1, 1, 0, 1, 5, 4, 1, 0, 5, 1, 1, 1, 1, 1, 1, 1, 2, 1, 1, 2, 0] 2] _ _
        refine stMv hK (wn rfl) rfl rfl rfl (by decide) fun a hK => ?_
        refine stBin hK (wn rfl) rfl rfl rfl (int_add (y := ((cnt (lead (upAt us) (roleAt rs)) i + 1 : Nat) : Int)) (by omega) (by omega) (by have := cnt_le (lead (upAt us) (roleAt rs)) i; omega)) rfl (by decide) fun a hK => ?_
        refine stAs hK (wn rfl) rfl rfl rfl (by decide) fun a hK => ?_
        show Code.wp _ (.region _ (opsOf Yba.f3 [1, 1, 1, 1, 1, 1, 0, 1, 5, 4, 1, 0, 5, 1, 1, 1, 1, 1, 1, 1, 2, 1, 1, 2, 1]) false) _ _ _
        refine wp_region_list ?_
        show wpList _ (opsOf Yba.f3 [1, 1, 1, 1, 1, 1, 0, 1, 5, 4, 1, 0, 5, 1, 1, 1, 1, 1, 1, 1, 2, 1, 1, 2, 1]) _ [opAt Yba.f3 [1, 1, 1, 1, 1, 1, 0, 1, 5, 4, 1, 0, 5, 1, 1, 1, 1, 1, 1, 1, 2, 1, 1, 2, 1] 0, opAt Yba.f3 [1, 1, 1, 1, 1, 1, 0, 1, 5, 4, 1, 0, 5, 1, 1, 1, 1, 1, 1, 1, 2, 1, 1, 2, 1] 1] _ _
        refine stMv hK (wn rfl) rfl rfl rfl (by decide) fun a hK => ?_
        refine stAs hK (wn rfl) rfl rfl rfl (by decide) fun a hK => ?_
        refine hN a W3 ?_ ⟨hF03, _, hcs3, n3⟩
        have e1 : cnt (lead (upAt us) (roleAt rs)) (i + 1) = cnt (lead (upAt us) (roleAt rs)) i + 1 := by simp [cnt, hl]
        have e2 : lst (lead (upAt us) (roleAt rs)) (i + 1) = (i : Int) := by simp [lst, hl]
        rw [e1, e2]; exact hK.sub _ (by repeat (first | exact trivial | refine ⟨rfl, ?_⟩))
      · have hl : lead (upAt us) (roleAt rs) i = false := by simp [lead, er, h2]
        refine wp_cond_false ((hK.op rfl).trans (by rw [decide_eq_false h2])) (wp_skip ?_)
        refine hN a W3 ?_ ⟨hF03, _, hcs3, n3⟩
        have e1 : cnt (lead (upAt us) (roleAt rs)) (i + 1) = cnt (lead (upAt us) (roleAt rs)) i := by simp [cnt, hl]
        have e2 : lst (lead (upAt us) (roleAt rs)) (i + 1) = lst (lead (upAt us) (roleAt rs)) i := by simp [lst, hl]
        rw [e1, e2]; exact hK.sub _ (by repeat (first | exact trivial | refine ⟨rfl, ?_⟩))

end Go.Proofs.Ybulkaesm
