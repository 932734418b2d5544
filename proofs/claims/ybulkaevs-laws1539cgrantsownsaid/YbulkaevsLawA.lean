import Derived.Test.YbulkaevsNode
namespace Go.Proofs.Ybulkaevs
open Go.RowKit
/-- The cells of an array of eight. -/
def arr8 (f : Nat → Value) : Array Value := #[f 0, f 1, f 2, f 3, f 4, f 5, f 6, f 7]
theorem arr8_get (f : Nat → Value) (i : Nat) (h : i < 8) : (arr8 f)[i]? = some (f i) := by
  match i, h with
  | 0, _ => rfl
  | 1, _ => rfl
  | 2, _ => rfl
  | 3, _ => rfl
  | 4, _ => rfl
  | 5, _ => rfl
  | 6, _ => rfl
  | 7, _ => rfl
theorem arr8_set (f : Nat → Value) (i : Nat) (h : i < 8) (v : Value) : (arr8 f).setIfInBounds i v = arr8 (upd f i v) := by
  match i, h with
  | 0, _ => rfl
  | 1, _ => rfl
  | 2, _ => rfl
  | 3, _ => rfl
  | 4, _ => rfl
  | 5, _ => rfl
  | 6, _ => rfl
  | 7, _ => rfl
theorem arr8_upd {α : Type} (g : α → Value) (R : Nat → α) (i : Nat) (v : α) (u : Value) (hu : g v = u) : arr8 (upd (fun k => g (R k)) i u) = arr8 (fun k => g (upd R i v k)) := by
  subst hu
  congr 1
  funext k
  unfold upd
  split <;> rfl
def rp : Option Nat → Value
  | none => .pointer none
  | some c => ptr (c + 1)
/-- How it stands while the requests are laid. -/
structure AS (w0 : World) (R : Nat → Option Nat) (H wm hm rs wt : Nat) (W : World) : Prop where
  fr : Fr [] w0 W
  hs : HS R (fun _ => 0) H wm hm PS.start W
  rsb : W.heap[rs]? = some (.cells (arr8 fun k => rp (R k)) 29 (0, 0))
  wtb : W.heap[wt]? = some (.cells (arr8 fun k => .bool (R k).isSome) 30 (0, 0))
  inj : ∀ k k' c, R k = some c → R k' = some c → k = k'
  dom : ∀ k c, R k = some c → k < 8
  low : ∀ k c, R k = some c → w0.heap.size ≤ c
theorem AS.keep {w0 : World} {R : Nat → Option Nat} {H wm hm rs wt : Nat} {W W' : World} (h : AS w0 R H wm hm rs wt W) (f : Fr [] W W') : AS w0 R H wm hm rs wt W' :=
  ⟨h.fr.trans f, h.hs.keep f, f.keep h.rsb (by simp), f.keep h.wtb (by simp), h.inj, h.dom, h.low⟩
/-- A new request. -/
theorem AS.add {w0 : World} {R : Nat → Option Nat} {H wm hm rs wt : Nat} {W W' : World} (h : AS w0 R H wm hm rs wt W) (hlo : w0.heap.size ≤ wm ∧ w0.heap.size ≤ rs ∧ w0.heap.size ≤ wt) (hwh : wm ≠ hm) (k : Nat) (hk : k < 8) (hR : R k = none)
    (f : Fr [wm, rs, wt] W W') (h1 : W'.heap[W.heap.size]? = some chan0) (h2 : W'.heap[W.heap.size + 1]? = some (.cells (reqOf 0 W.heap.size none) 37 (0, 0))) {es : Array MapEntry} {d : Nat} (h3 : W'.heap[wm]? = some (.map es d)) (h3' : UM es (upd (waitF R PS.start.got) k (some (ptr (W.heap.size + 1)))))
    (h4 : W'.heap[rs]? = some (.cells ((arr8 fun k => rp (R k)).setIfInBounds k (ptr (W.heap.size + 1))) 29 (0, 0))) (h5 : W'.heap[wt]? = some (.cells ((arr8 fun k => .bool (R k).isSome).setIfInBounds k (.bool true)) 30 (0, 0))) :
    AS w0 (upd R k (some W.heap.size)) H wm hm rs wt W' := by
  have hsz := h.fr.size
  obtain ⟨es0, c0, w1, _⟩ := h.hs.wait
  obtain ⟨es0', c0', w2, w2'⟩ := h.hs.held
  have hnew : ∀ k' c, R k' = some c → c + 1 < W.heap.size := fun k' c hc => lt_of_block (h.hs.reqs k' c hc).1
  have hcase : ∀ k' c, upd R k (some W.heap.size) k' = some c → (k' = k ∧ c = W.heap.size) ∨ (k' ≠ k ∧ R k' = some c) := by
    intro k' c hc
    by_cases e : k' = k
    · subst e; rw [upd_same] at hc; cases hc; exact Or.inl ⟨rfl, rfl⟩
    · rw [upd_other _ _ _ e] at hc; exact Or.inr ⟨e, hc⟩
  refine ⟨h.fr.andThen f (by simp; omega), ⟨f.keep h.hs.hold ?_, ⟨es, d, h3, ?_⟩, ⟨es0', c0', f.keep w2 ?_, w2'⟩, fun k' c hc => ?_⟩, ?_, ?_, ?_, ?_, ?_⟩
  · have a1 := ne_of h.hs.hold w1 (by intro e; cases e)
    have a2 := ne_of h.hs.hold h.rsb (by intro e; injection e with _ e2 _; exact absurd e2 (by decide))
    have a3 := ne_of h.hs.hold h.wtb (by intro e; injection e with _ e2 _; exact absurd e2 (by decide))
    simp [a1, a2, a3]
  · have : upd (waitF R PS.start.got) k (some (ptr (W.heap.size + 1))) = waitF (upd R k (some W.heap.size)) PS.start.got := by
      funext j
      unfold upd waitF PS.start
      by_cases e : j = k
      · simp [e]
      · simp [e]
    rw [← this]; exact h3'
  · have a2 := ne_of w2 h.rsb (by intro e; cases e)
    have a3 := ne_of w2 h.wtb (by intro e; cases e)
    simp [Ne.symm hwh, a2, a3]
  · rcases hcase k' c hc with ⟨rfl, rfl⟩ | ⟨e, hc⟩
    · exact ⟨h2, fun _ => h1⟩
    · obtain ⟨q1, q2⟩ := h.hs.reqs k' c hc
      have q2 := q2 rfl
      refine ⟨f.keep q1 ?_, fun _ => f.keep q2 ?_⟩
      · have a1 := ne_of q1 w1 (by intro e; cases e)
        have a2 := ne_of q1 h.rsb (by intro e; injection e with _ e2 _; exact absurd e2 (by decide))
        have a3 := ne_of q1 h.wtb (by intro e; injection e with _ e2 _; exact absurd e2 (by decide))
        simp [a1, a2, a3]
      · have a1 := ne_of q2 w1 (by intro e; cases e)
        have a2 := ne_of q2 h.rsb (by intro e; cases e)
        have a3 := ne_of q2 h.wtb (by intro e; cases e)
        simp [a1, a2, a3]
  · rw [h4, arr8_set _ _ hk, arr8_upd rp R k (some W.heap.size) (ptr (W.heap.size + 1)) rfl]
  · rw [h5, arr8_set _ _ hk, arr8_upd (fun o : Option Nat => Value.bool o.isSome) R k (some W.heap.size) (.bool true) rfl]
  · intro k1 k2 c h1 h2
    rcases hcase k1 c h1 with ⟨rfl, rfl⟩ | ⟨e, q1⟩ <;> rcases hcase k2 _ h2 with ⟨rfl, e3⟩ | ⟨e', q2⟩
    · rfl
    · have := hnew k2 _ q2; omega
    · have := hnew k1 _ q1; omega
    · exact h.inj k1 k2 c q1 q2
  · intro k1 c h1
    rcases hcase k1 c h1 with ⟨rfl, rfl⟩ | ⟨e, h1⟩
    · exact hk
    · exact h.dom k1 c h1
  · intro k1 c h1
    rcases hcase k1 c h1 with ⟨rfl, rfl⟩ | ⟨e, h1⟩
    · exact hsz
    · exact h.low k1 c h1
/-- The requests as they were handed in. -/
def reqsAt (a : Option Addr) (xs : List Nat) (w : World) : Prop := (a = none → xs.length = 0) ∧ ∀ ad, a = some ad → ∀ (i : Nat) x, xs[i]? = some x → w.cell? (ad.add i) = some (.int .u64 (x : Int))

set_option maxRecDepth 20000 in
set_option maxHeartbeats 800000 in
/-- One number of the requests. -/
theorem a_round {Q : Exit → Act → World → Prop} (w0 : World) (H wm hm rs wt idn me : Nat) (hlo : w0.heap.size ≤ wm ∧ w0.heap.size ≤ rs ∧ w0.heap.size ≤ wt) (hwh : wm ≠ hm) (gsl : Value) (xs : List Nat) (hn : xs.length ≤ 1024) (ra : Option Addr) (rc : Nat) (hr : reqsAt ra xs w0) (hP : ∀ c a d v w, Q (.panic c) (Act.put a d v) w → Q (.panic c) a w) (a : Act) (W : World) (i : Nat) (hi : i < xs.length) (hK : Fm 280 [(50, .int .i64 i), (48, .slice ra xs.length rc), (49, .int .i64 xs.length), (0, .int .u64 (idn : Nat)), (2, gsl), (7, .int .u64 (me : Nat)), (8, ptr H), (9, ptr rs), (10, ptr wt)] a) (hI : (∃ R, AS w0 R H wm hm rs wt W))
    (hQ : ∀ a W, Fm 280 [(50, .int .i64 i), (48, .slice ra xs.length rc), (49, .int .i64 xs.length), (0, .int .u64 (idn : Nat)), (2, gsl), (7, .int .u64 (me : Nat)), (8, ptr H), (9, ptr rs), (10, ptr wt)] a → (∃ R, AS w0 R H wm hm rs wt W) → Q .normal a W) :
    Code.wp Yba.prog (codeOf Yba.f3 [1, 1, 1, 1, 1, 1, 0, 1, 5, 4, 1, 1, 0, 5]) Q a W := by
  have _used := hn
  obtain ⟨R, hA⟩ := hI
  obtain ⟨x, hx⟩ : ∃ x, xs[i]? = some x := ⟨xs[i], List.getElem?_eq_getElem hi⟩
  cases ra with
  | none => exact absurd (hr.1 rfl) (by omega)
  | some ad =>
  have hcx := hr.2 ad rfl i x hx
  show Code.wp _ (.seq (.region _ (opsOf Yba.f3 [1, 1, 1, 1, 1, 1, 0, 1, 5, 4, 1, 1, 0, 5, 0]) false) (codeOf Yba.f3 [1, 1, 1, 1, 1, 1, 0, 1, 5, 4, 1, 1, 0, 5, 1])) _ _ _
  refine srg ?_
  show wpList _ (opsOf Yba.f3 [1, 1, 1, 1, 1, 1, 0, 1, 5, 4, 1, 1, 0, 5, 0]) _ [opAt Yba.f3 [1, 1, 1, 1, 1, 1, 0, 1, 5, 4, 1, 1, 0, 5, 0] 0, opAt Yba.f3 [1, 1, 1, 1, 1, 1, 0, 1, 5, 4, 1, 1, 0, 5, 0] 1, opAt Yba.f3 [1, 1, 1, 1, 1, 1, 0, 1, 5, 4, 1, 1, 0, 5, 0] 2] _ _
  refine st hK (wn rfl) (run_idxA 23 22 _ _ rfl Yba.underlying23 ad xs.length rc (hK.op rfl) i (hK.op rfl) hi 1 (fun w => by kernel_rfl) _) rfl (by decide) fun a hK => ?_
  refine stLd hK (wn rfl) rfl rfl ((by rw [Nat.mul_one]; exact (hA.fr.cell (cell_block hcx) (by simp)).trans hcx)) (fun w => by kernel_rfl) rfl (by decide) fun a hK => ?_
  refine stAs hK (wn rfl) rfl rfl rfl (by decide) fun a hK => ?_
  show Code.wp _ (.seq (.region _ (opsOf Yba.f3 [1, 1, 1, 1, 1, 1, 0, 1, 5, 4, 1, 1, 0, 5, 1, 0]) false) (codeOf Yba.f3 [1, 1, 1, 1, 1, 1, 0, 1, 5, 4, 1, 1, 0, 5, 1, 1])) _ _ _
  refine srg ?_
  show wpList _ (opsOf Yba.f3 [1, 1, 1, 1, 1, 1, 0, 1, 5, 4, 1, 1, 0, 5, 1, 0]) _ [opAt Yba.f3 [1, 1, 1, 1, 1, 1, 0, 1, 5, 4, 1, 1, 0, 5, 1, 0] 0, opAt Yba.f3 [1, 1, 1, 1, 1, 1, 0, 1, 5, 4, 1, 1, 0, 5, 1, 0] 1, opAt Yba.f3 [1, 1, 1, 1, 1, 1, 0, 1, 5, 4, 1, 1, 0, 5, 1, 0] 2] _ _
  refine stMv hK (wn rfl) rfl rfl rfl (by decide) fun a hK => ?_
  refine stBin hK (wn rfl) rfl rfl rfl (u_rem8) rfl (by decide) fun a hK => ?_
  refine stAs hK (wn rfl) rfl rfl rfl (by decide) fun a hK => ?_
  have hk8 : x % 8 < 8 := Nat.mod_lt _ (by decide)
  generalize x % 8 = k at hK hk8
  have hK : Fm 280 [(13, .int .u64 (k : Nat)), (50, .int .i64 i), (48, .slice (some ad) xs.length rc), (49, .int .i64 xs.length), (0, .int .u64 (idn : Nat)), (2, gsl), (7, .int .u64 (me : Nat)), (8, ptr H), (9, ptr rs), (10, ptr wt)] a := hK.sub _ (by repeat (first | exact trivial | refine ⟨rfl, ?_⟩))
  show Code.wp _ (.seq (.region _ (opsOf Yba.f3 [1, 1, 1, 1, 1, 1, 0, 1, 5, 4, 1, 1, 0, 5, 1, 1, 0]) false) (codeOf Yba.f3 [1, 1, 1, 1, 1, 1, 0, 1, 5, 4, 1, 1, 0, 5, 1, 1, 1])) _ _ _
  refine srg ?_
  show wpList _ (opsOf Yba.f3 [1, 1, 1, 1, 1, 1, 0, 1, 5, 4, 1, 1, 0, 5, 1, 1, 0]) _ [opAt Yba.f3 [1, 1, 1, 1, 1, 1, 0, 1, 5, 4, 1, 1, 0, 5, 1, 1, 0] 0, opAt Yba.f3 [1, 1, 1, 1, 1, 1, 0, 1, 5, 4, 1, 1, 0, 5, 1, 1, 0] 1, opAt Yba.f3 [1, 1, 1, 1, 1, 1, 0, 1, 5, 4, 1, 1, 0, 5, 1, 1, 0] 2, opAt Yba.f3 [1, 1, 1, 1, 1, 1, 0, 1, 5, 4, 1, 1, 0, 5, 1, 1, 0] 3] _ _
  refine stMv hK (wn rfl) rfl rfl rfl (by decide) fun a hK => ?_
  refine st hK (wn rfl) (run_idxR 29 28 _ _ rfl 8 Yba.underlying29 rs (hK.op rfl) .u64 k (hK.op rfl) hk8 (fun w => by kernel_rfl) _) rfl (by decide) fun a hK => ?_
  cases hRk : R k with
  | some c =>
    refine stLd hK (wn rfl) rfl rfl ((cell_at hA.rsb k).trans ((arr8_get _ k hk8).trans (by rw [hRk]; rfl : _ = some (ptr (c + 1))))) (fun w => by kernel_rfl) rfl (by decide) fun a hK => ?_
    refine stBin hK (wn rfl) rfl rfl rfl (p_some) rfl (by decide) fun a hK => ?_
    show Code.wp _ (.cond (.tmp 59) (codeOf Yba.f3 [1, 1, 1, 1, 1, 1, 0, 1, 5, 4, 1, 1, 0, 5, 1, 1, 1, 2]) .skip) _ _ _
    refine wp_cond_false (hK.op rfl) (wp_skip ?_)
    exact hQ a W (hK.sub _ (by repeat (first | exact trivial | refine ⟨rfl, ?_⟩))) ⟨R, hA⟩
  | none =>
    refine stLd hK (wn rfl) rfl rfl ((cell_at hA.rsb k).trans ((arr8_get _ k hk8).trans (by rw [hRk]; rfl : _ = some (Value.pointer none)))) (fun w => by kernel_rfl) rfl (by decide) fun a hK => ?_
    refine stBin hK (wn rfl) rfl rfl rfl (p_nil) rfl (by decide) fun a hK => ?_
    show Code.wp _ (.cond (.tmp 59) (.seq (.region _ (opsOf Yba.f3 [1, 1, 1, 1, 1, 1, 0, 1, 5, 4, 1, 1, 0, 5, 1, 1, 1, 2, 0]) false) (.seq (.region _ (opsOf Yba.f3 [1, 1, 1, 1, 1, 1, 0, 1, 5, 4, 1, 1, 0, 5, 1, 1, 1, 2, 1, 0]) true) (.region _ (opsOf Yba.f3 [1, 1, 1, 1, 1, 1, 0, 1, 5, 4, 1, 1, 0, 5, 1, 1, 1, 2, 1, 1]) false))) .skip) _ _ _
    refine wp_cond_true (hK.op rfl) (srg ?_)
    have hK : Fm 280 [(13, .int .u64 (k : Nat)), (50, .int .i64 i), (48, .slice (some ad) xs.length rc), (49, .int .i64 xs.length), (0, .int .u64 (idn : Nat)), (2, gsl), (7, .int .u64 (me : Nat)), (8, ptr H), (9, ptr rs), (10, ptr wt)] a := hK.sub _ (by repeat (first | exact trivial | refine ⟨rfl, ?_⟩))
    show wpList _ (opsOf Yba.f3 [1, 1, 1, 1, 1, 1, 0, 1, 5, 4, 1, 1, 0, 5, 1, 1, 1, 2, 0]) _ [opAt Yba.f3 [1, 1, 1, 1, 1, 1, 0, 1, 5, 4, 1, 1, 0, 5, 1, 1, 1, 2, 0] 0, opAt Yba.f3 [1, 1, 1, 1, 1, 1, 0, 1, 5, 4, 1, 1, 0, 5, 1, 1, 1, 2, 0] 1, opAt Yba.f3 [1, 1, 1, 1, 1, 1, 0, 1, 5, 4, 1, 1, 0, 5, 1, 1, 1, 2, 0] 2, opAt Yba.f3 [1, 1, 1, 1, 1, 1, 0, 1, 5, 4, 1, 1, 0, 5, 1, 1, 1, 2, 0] 3, opAt Yba.f3 [1, 1, 1, 1, 1, 1, 0, 1, 5, 4, 1, 1, 0, 5, 1, 1, 1, 2, 0] 4, opAt Yba.f3 [1, 1, 1, 1, 1, 1, 0, 1, 5, 4, 1, 1, 0, 5, 1, 1, 1, 2, 0] 5] _ _
    refine stMv hK (wn rfl) rfl rfl rfl (by decide) fun a hK => ?_
    refine st hK (wn rfl) (run_mkChan rfl rfl _) rfl (by decide) fun a hK => ?_
    refine stBuild hK (wn rfl) rfl rfl ((by kernel_rfl : _ = Result.ok (Value.agg (reqOf 0 W.heap.size none)) _)) rfl (by decide) fun a hK => ?_
    refine st hK (wn rfl) (run_boxOp 37 _ rfl (reqOf 0 W.heap.size none) (hK.op rfl) _) rfl (by decide) fun a hK => ?_
    refine st hK (wn rfl) (run_idxR 29 28 _ _ rfl 8 Yba.underlying29 rs (hK.op rfl) .u64 k (hK.op rfl) hk8 (fun w => by kernel_rfl) _) rfl (by decide) fun a hK => ?_
    have hB : Fr [] W ((W.alloc chan0).alloc (.cells (reqOf 0 W.heap.size none) 37)) := ((Fr.refl _ _).alloc _).alloc _
    have b1 : ((W.alloc chan0).alloc (.cells (reqOf 0 W.heap.size none) 37)).heap[W.heap.size]? = some chan0 := ((Fr.refl [] (W.alloc chan0)).alloc _).keep (heap_alloc_new W chan0) (by simp)
    have b2 : ((W.alloc chan0).alloc (.cells (reqOf 0 W.heap.size none) 37)).heap[W.heap.size + 1]? = some (.cells (reqOf 0 W.heap.size none) 37 (0, 0)) := by have := heap_alloc_new (W.alloc chan0) (.cells (reqOf 0 W.heap.size none) 37); rwa [size_al] at this
    rw [size_al] at hK
    generalize hc0 : W.heap.size = c at hK b1 b2 hB
    generalize (W.alloc chan0).alloc (.cells (reqOf 0 c none) 37) = W1 at hB b1 b2 ⊢
    have hrs1 := hB.keep hA.rsb (by simp)
    refine stStore hK rfl rfl rfl rfl (fun w => by kernel_rfl) rfl rfl hrs1 hk8 rfl fun W2 f2 _ hrs2 => ?_
    show Code.wp _ (.seq (.region _ (opsOf Yba.f3 [1, 1, 1, 1, 1, 1, 0, 1, 5, 4, 1, 1, 0, 5, 1, 1, 1, 2, 1, 0]) true) (.region _ (opsOf Yba.f3 [1, 1, 1, 1, 1, 1, 0, 1, 5, 4, 1, 1, 0, 5, 1, 1, 1, 2, 1, 1]) false)) _ _ _
    refine wp_seq ?_
    have hH2 := f2.keep (hB.keep hA.hs.hold (by simp)) (by simpa using ne_of hA.hs.hold hA.rsb (by intro e; injection e with _ e2 _; exact absurd e2 (by decide)))
    refine wp_region_held (S := fun W => W.heap[H]? = some (.cells (holdC 0 wm hm) 48 (0, 0)) ∧ W.cell? ⟨rs, k, none⟩ = some (ptr (c + 1))) (by kernel_rfl) ?_
    change wpAnyH _ _ _ _ _ 9 _ _ (World.drew _)
    have hcell2 : W2.cell? ⟨rs, k, none⟩ = some (ptr (c + 1)) := (cell_at hrs2 k).trans (by rw [arr8_set _ _ hk8, arr8_get _ _ hk8, upd_same]; rfl)
    have hS : W2.drew.heap[H]? = some (.cells (holdC 0 wm hm) 48 (0, 0)) ∧ W2.drew.cell? ⟨rs, k, none⟩ = some (ptr (c + 1)) := ⟨hH2, hcell2⟩
    refine sdw hK 0 (oi := opAt Yba.f3 [1, 1, 1, 1, 1, 1, 0, 1, 5, 4, 1, 1, 0, 5, 1, 1, 1, 2, 1, 0] 0) rfl (by kernel_rfl) (by kernel_rfl) (by kernel_rfl) (fun c a d v w h => hP c a d v w h) (wn rfl) (fun W hW => run_mv _ rfl _ (hK.op rfl) W) hS rfl (by decide) fun a hK => ?_
    refine sdw hK 1 (oi := opAt Yba.f3 [1, 1, 1, 1, 1, 1, 0, 1, 5, 4, 1, 1, 0, 5, 1, 1, 1, 2, 1, 0] 1) rfl (by kernel_rfl) (by kernel_rfl) (by kernel_rfl) (fun c a d v w h => hP c a d v w h) (wn rfl) (fun W hW => run_nilCheck _ rfl _ (hK.op rfl) W) hS rfl (by decide) fun a hK => ?_
    refine sdw hK 2 (oi := opAt Yba.f3 [1, 1, 1, 1, 1, 1, 0, 1, 5, 4, 1, 1, 0, 5, 1, 1, 1, 2, 1, 0] 2) rfl (by kernel_rfl) (by kernel_rfl) (by kernel_rfl) (fun c a d v w h => hP c a d v w h) (wn rfl) (fun W hW => run_fieldAddr 48 _ 2 rfl ⟨H, 0, none⟩ ⟨H, 3, none⟩ (hK.op rfl) W (by kernel_rfl)) hS rfl (by decide) fun a hK => ?_
    refine sdw hK 3 (oi := opAt Yba.f3 [1, 1, 1, 1, 1, 1, 0, 1, 5, 4, 1, 1, 0, 5, 1, 1, 1, 2, 1, 0] 3) rfl (by kernel_rfl) (by kernel_rfl) (by kernel_rfl) (fun c a d v w h => hP c a d v w h) (wn rfl) (fun W hW => run_load_one _ _ rfl _ _ (hK.op rfl) W ((cell_at hW.1 3).trans rfl) (by kernel_rfl)) hS rfl (by decide) fun a hK => ?_
    refine sdw hK 4 (oi := opAt Yba.f3 [1, 1, 1, 1, 1, 1, 0, 1, 5, 4, 1, 1, 0, 5, 1, 1, 1, 2, 1, 0] 4) rfl (by kernel_rfl) (by kernel_rfl) (by kernel_rfl) (fun c a d v w h => hP c a d v w h) (wn rfl) (fun W hW => run_mv _ rfl _ (hK.op rfl) W) hS rfl (by decide) fun a hK => ?_
    refine sdw hK 5 (oi := opAt Yba.f3 [1, 1, 1, 1, 1, 1, 0, 1, 5, 4, 1, 1, 0, 5, 1, 1, 1, 2, 1, 0] 5) rfl (by kernel_rfl) (by kernel_rfl) (by kernel_rfl) (fun c a d v w h => hP c a d v w h) (wn rfl) (fun W hW => run_mv _ rfl _ (hK.op rfl) W) hS rfl (by decide) fun a hK => ?_
    refine sdw hK 6 (oi := opAt Yba.f3 [1, 1, 1, 1, 1, 1, 0, 1, 5, 4, 1, 1, 0, 5, 1, 1, 1, 2, 1, 0] 6) rfl (by kernel_rfl) (by kernel_rfl) (by kernel_rfl) (fun c a d v w h => hP c a d v w h) (wn rfl) (fun W hW => run_idxR 29 28 _ _ rfl 8 Yba.underlying29 rs (hK.op rfl) .u64 k (hK.op rfl) hk8 (fun w => by kernel_rfl) W) hS rfl (by decide) fun a hK => ?_
    refine sdw hK 7 (oi := opAt Yba.f3 [1, 1, 1, 1, 1, 1, 0, 1, 5, 4, 1, 1, 0, 5, 1, 1, 1, 2, 1, 0] 7) rfl (by kernel_rfl) (by kernel_rfl) (by kernel_rfl) (fun c a d v w h => hP c a d v w h) (wn rfl) (fun W hW => run_load_one _ _ rfl _ _ (hK.op rfl) W (hW.2) (by kernel_rfl)) hS rfl (by decide) fun a hK => ?_
    obtain ⟨es, d0, w1, hU⟩ := hA.hs.wait
    have l1 := lt_of_block w1
    have l2 := lt_of_block hA.rsb
    have l3 := lt_of_block hA.wtb
    have l4 := lt_of_block hA.hs.hold
    have n1 : wm ≠ rs := ne_of w1 hA.rsb (by intro e; cases e)
    have n2 : wm ≠ wt := ne_of w1 hA.wtb (by intro e; cases e)
    have n3 : rs ≠ wt := ne_of hA.rsb hA.wtb (by intro e; injection e with _ e2 _; exact absurd e2 (by decide))
    have n4 : H ≠ wm := ne_of hA.hs.hold w1 (by intro e; cases e)
    have w2 : W2.drew.heap[wm]? = some (.map es d0) := f2.keep (hB.keep w1 (by simp)) (by simpa using n1)
    obtain ⟨es', d', hput, hU'⟩ := um_put (P := Yba.prog) (w := W2.drew) Yba.underlying45 Yba.underlying22 hU w2 k (ptr (c + 1)) (by unfold waitF PS.start; simp [hRk])
    have f3 := fr_setB W2.drew wm (.map es' d')
    have w3 := heap_setB W2.drew wm (.map es' d') (lt_of_block w2)
    have hH3 := f3.keep (show W2.drew.heap[H]? = _ from hH2) (by simpa using n4)
    have hrs3 := f3.keep (show W2.drew.heap[rs]? = _ from hrs2) (by simpa using Ne.symm n1)
    refine held_oneW (i := 8) (o := opAt Yba.f3 [1, 1, 1, 1, 1, 1, 0, 1, 5, 4, 1, 1, 0, 5, 1, 1, 1, 2, 1, 0] 8) (by kernel_rfl) rfl (wn rfl) ?_
    refine wp_mapPut 45 _ _ _ rfl _ _ _ _ (hK.op rfl) (hK.op rfl) (hK.op rfl) hput rfl ⟨⟨hH3, (f3.cell (p := ⟨rs, k, none⟩) (lt_of_block (show W2.drew.heap[rs]? = _ from hrs2)) (by simpa using Ne.symm n1)).trans hcell2⟩, ?_⟩
    refine wpAnyH_done (by kernel_rfl) ?_ _
    have f23 : Fr [wm, rs] W1 (setB W2.drew wm (.map es' d')) := ((f2.mono (l' := [wm, rs]) (by simp)).drew).andThen f3 (by simp)
    generalize setB W2.drew wm (.map es' d') = W3 at w3 hH3 hrs3 f23 ⊢
    show Code.wp _ (.region _ (opsOf Yba.f3 [1, 1, 1, 1, 1, 1, 0, 1, 5, 4, 1, 1, 0, 5, 1, 1, 1, 2, 1, 1]) false) _ _ _
    refine wp_region_list ?_
    show wpList _ (opsOf Yba.f3 [1, 1, 1, 1, 1, 1, 0, 1, 5, 4, 1, 1, 0, 5, 1, 1, 1, 2, 1, 1]) _ [opAt Yba.f3 [1, 1, 1, 1, 1, 1, 0, 1, 5, 4, 1, 1, 0, 5, 1, 1, 1, 2, 1, 1] 0, opAt Yba.f3 [1, 1, 1, 1, 1, 1, 0, 1, 5, 4, 1, 1, 0, 5, 1, 1, 1, 2, 1, 1] 1, opAt Yba.f3 [1, 1, 1, 1, 1, 1, 0, 1, 5, 4, 1, 1, 0, 5, 1, 1, 1, 2, 1, 1] 2] _ _
    refine stMv hK (wn rfl) rfl rfl rfl (by decide) fun a hK => ?_
    refine st hK (wn rfl) (run_idxR 30 4 _ _ rfl 8 Yba.underlying30 wt (hK.op rfl) .u64 k (hK.op rfl) hk8 (fun w => by kernel_rfl) _) rfl (by decide) fun a hK => ?_
    have hwt3 := f23.keep (hB.keep hA.wtb (by simp)) (by simp [Ne.symm n2, Ne.symm n3])
    refine stStore hK rfl rfl rfl rfl (fun w => by kernel_rfl) rfl rfl hwt3 hk8 rfl fun W4 f4 _ hwt4 => ?_
    have hsz := hB.size
    refine hQ a W4 (hK.sub _ (by repeat (first | exact trivial | refine ⟨rfl, ?_⟩))) ⟨_, hA.add hlo hwh k hk8 hRk ((hB.mono (l' := [wm, rs, wt]) (by simp)).andThen ((f23.mono (l' := [wm, rs, wt]) (by simp <;> omega)).andThen f4 (by simp)) (by simp)) ?_ ?_ (f4.keep w3 (by simpa using n2)) (by rw [hc0]; exact hU') (by rw [hc0]; exact f4.keep hrs3 (by simpa using n3)) hwt4⟩
    · rw [hc0]; exact f4.keep (f23.keep b1 (by simp; omega)) (by simp; omega)
    · rw [hc0]; exact f4.keep (f23.keep b2 (by simp; omega)) (by simp; omega)

set_option maxRecDepth 20000 in
theorem a_loop {Q : Exit → Act → World → Prop} (w0 : World) (H wm hm rs wt idn me : Nat) (hlo : w0.heap.size ≤ wm ∧ w0.heap.size ≤ rs ∧ w0.heap.size ≤ wt) (hwh : wm ≠ hm) (gsl : Value) (xs : List Nat) (hn : xs.length ≤ 1024) (ra : Option Addr) (rc : Nat) (hr : reqsAt ra xs w0) (hP : ∀ c a d v w, Q (.panic c) (Act.put a d v) w → Q (.panic c) a w) (a : Act) (W : World) (hK : Fm 280 [(1, .slice ra xs.length rc), (0, .int .u64 (idn : Nat)), (2, gsl), (7, .int .u64 (me : Nat)), (8, ptr H), (9, ptr rs), (10, ptr wt)] a) (hI : (∃ R, AS w0 R H wm hm rs wt W))
    (hx : ∀ a W, Fm 280 [(0, .int .u64 (idn : Nat)), (2, gsl), (7, .int .u64 (me : Nat)), (8, ptr H), (9, ptr rs), (10, ptr wt)] a → (∃ R, AS w0 R H wm hm rs wt W) → Code.wp Yba.prog (codeOf Yba.f3 [1, 1, 1, 1, 1, 1, 1]) Q a W) :
    Code.wp Yba.prog (codeOf Yba.f3 [1, 1, 1, 1, 1, 1]) Q a W := by
  show Code.wp _ (.seq (.seq (.region _ (opsOf Yba.f3 [1, 1, 1, 1, 1, 1, 0, 0]) false) (.block 0 (.loop (codeOf Yba.f3 [1, 1, 1, 1, 1, 1, 0, 1, 5, 4])))) (codeOf Yba.f3 [1, 1, 1, 1, 1, 1, 1])) _ _ _
  refine wp_seq (srg ?_)
  show wpList _ (opsOf Yba.f3 [1, 1, 1, 1, 1, 1, 0, 0]) _ [opAt Yba.f3 [1, 1, 1, 1, 1, 1, 0, 0] 0, opAt Yba.f3 [1, 1, 1, 1, 1, 1, 0, 0] 1, opAt Yba.f3 [1, 1, 1, 1, 1, 1, 0, 0] 2] _ _
  refine stMv hK (wn rfl) rfl rfl rfl (by decide) fun a hK => ?_
  refine stLenS hK (wn rfl) rfl Yba.underlying23 rfl rfl (by decide) fun a hK => ?_
  refine stMv hK (wn rfl) rfl rfl rfl (by decide) fun a hK => ?_
  show Code.wp _ (.block 0 (.loop (codeOf Yba.f3 [1, 1, 1, 1, 1, 1, 0, 1, 5, 4]))) _ _ _
  refine wp_block (wp_loop (fun a W => ∃ i : Nat, i ≤ xs.length ∧ Fm 280 [(50, .int .i64 i), (48, .slice ra xs.length rc), (49, .int .i64 xs.length), (0, .int .u64 (idn : Nat)), (2, gsl), (7, .int .u64 (me : Nat)), (8, ptr H), (9, ptr rs), (10, ptr wt)] a ∧ (∃ R, AS w0 R H wm hm rs wt W)) (fun a _ => xs.length - (intOf (a.eval (.tmp 50))).toNat) ⟨0, Nat.zero_le _, hK.sub _ (by repeat (first | exact trivial | refine ⟨rfl, ?_⟩)), hI⟩ ?_)
  rintro a W ⟨i, hi, hK, hI⟩
  have him : (intOf (a.eval (.tmp 50))).toNat = i := by rw [hK.get 50 (.int .i64 i) rfl]; simp [intOf]
  show Code.wp _ (.seq (.region _ (opsOf Yba.f3 [1, 1, 1, 1, 1, 1, 0, 1, 5, 4, 0]) false) (.seq (.cond (.tmp 51) .skip (.exit 0)) (.seq (.block 1 (codeOf Yba.f3 [1, 1, 1, 1, 1, 1, 0, 1, 5, 4, 1, 1, 0, 5])) (.region _ (opsOf Yba.f3 [1, 1, 1, 1, 1, 1, 0, 1, 5, 4, 1, 1, 1]) false)))) _ _ _
  refine srg ?_
  show wpList _ (opsOf Yba.f3 [1, 1, 1, 1, 1, 1, 0, 1, 5, 4, 0]) _ [opAt Yba.f3 [1, 1, 1, 1, 1, 1, 0, 1, 5, 4, 0] 0] _ _
  by_cases hlt : i < xs.length
  · refine stBin hK (wn rfl) rfl rfl rfl (i_lt (r := true) (decide_eq_true (by omega))) rfl (by decide) fun a hK => ?_
    refine wp_seq (wp_cond_true (hK.op rfl) (wp_skip ?_))
    refine wp_seq (wp_block ?_)
    refine a_round w0 H wm hm rs wt idn me hlo hwh gsl xs hn ra rc hr (by exact fun c a d v w h => hP c a d v w h) a W i hlt (hK.sub _ (by repeat (first | exact trivial | refine ⟨rfl, ?_⟩))) hI fun a W hK hI => ?_
    show Code.wp _ (.region _ (opsOf Yba.f3 [1, 1, 1, 1, 1, 1, 0, 1, 5, 4, 1, 1, 1]) false) _ _ _
    refine wp_region_list ?_
    show wpList _ (opsOf Yba.f3 [1, 1, 1, 1, 1, 1, 0, 1, 5, 4, 1, 1, 1]) _ [opAt Yba.f3 [1, 1, 1, 1, 1, 1, 0, 1, 5, 4, 1, 1, 1] 0, opAt Yba.f3 [1, 1, 1, 1, 1, 1, 0, 1, 5, 4, 1, 1, 1] 1] _ _
    refine stBin hK (wn rfl) rfl rfl rfl (i_add (y := ((i + 1 : Nat) : Int)) (by omega) (by omega) (by omega)) rfl (by decide) fun a hK => ?_
    refine stMv hK (wn rfl) rfl rfl rfl (by decide) fun a hK => ?_
    refine ⟨⟨i + 1, hlt, hK.sub _ (by repeat (first | exact trivial | refine ⟨rfl, ?_⟩)), hI⟩, ?_⟩
    show xs.length - (intOf (a.eval (.tmp 50))).toNat < _
    rw [hK.get 50 (.int .i64 ((i + 1 : Nat) : Int)) rfl, him]
    simp only [intOf, Int.toNat_natCast]; omega
  · refine stBin hK (wn rfl) rfl rfl rfl (i_lt (r := false) (decide_eq_false (by omega))) rfl (by decide) fun a hK => ?_
    refine wp_seq (wp_cond_false (hK.op rfl) (wp_exit ?_))
    exact hx a W (hK.sub _ (by repeat (first | exact trivial | refine ⟨rfl, ?_⟩))) hI

end Go.Proofs.Ybulkaevs
