import Derived.Test.YbulkaeqwDoorRound
namespace Go.Proofs.YbulkaeqwDoor
open Go.RowKit

set_option maxRecDepth 20000 in
theorem sc_round {Q : Exit → Act → World → Prop} (w0 : World) (rb : Nat) (xs : List UInt8) (hn : xs.length ≤ 1024) (ba : Option Addr) (bc : Nat) (na : Option Addr) (nc : Nat) (ys : List Int) (q : Addr) (hrb : w0.heap.size ≤ rb) (hb : Bs (.slice ba xs.length bc) xs w0) (hE : w0.cell? ⟨0, 0, none⟩ = some (errV q)) (hna : na = none → ys.length = 0) (hns : ∀ ad, na = some ad → ∀ (i : Nat) y, ys[i]? = some y → w0.cell? (ad.add i) = some (.int .i8 y)) (a : Act) (W : World) (j k : Nat) (hj : j < ys.length) (hk : k ≤ xs.length) (fl : Bool) (hK : Fm 122 [(26, .int .i64 j), (6, .int .i64 k), (7, .bool fl), (0, .slice ba xs.length bc), (1, .slice na ys.length nc), (5, ptr rb), (24, .slice na ys.length nc), (25, .int .i64 ys.length)] a) (hSc : Sc w0 rb xs q k fl W)
    (hN : ∀ a W k fl, k ≤ xs.length → Fm 122 [(26, .int .i64 j), (6, .int .i64 k), (7, .bool fl), (0, .slice ba xs.length bc), (1, .slice na ys.length nc), (5, ptr rb), (24, .slice na ys.length nc), (25, .int .i64 ys.length)] a → Sc w0 rb xs q k fl W → Q .normal a W) (hX : ∀ a W k fl, k ≤ xs.length → Fm 122 [(26, .int .i64 j), (6, .int .i64 k), (7, .bool fl), (0, .slice ba xs.length bc), (1, .slice na ys.length nc), (5, ptr rb), (24, .slice na ys.length nc), (25, .int .i64 ys.length)] a → Sc w0 rb xs q k fl W → Q (.exit 1) a W) (hP : ∀ c a d v w, Q (.panic c) (Act.put a d v) w → Q (.panic c) a w) :
    Code.wp Ybad.prog (codeOf Ybad.f4 [1, 1, 1, 1, 1, 0, 1, 5, 4, 1, 1, 0, 5]) Q a W := by
  obtain ⟨hF, ra, rl, rc, hr, hbs, hrc, hrl⟩ := id hSc
  obtain ⟨y, hy⟩ : ∃ y, ys[j]? = some y := ⟨ys[j], List.getElem?_eq_getElem hj⟩
  cases na with
  | none => exact absurd (hna rfl) (by omega)
  | some ad =>
    have hcy := hns ad rfl j y hy
    show Code.wp _ (.seq (.region _ (opsOf Ybad.f4 [1, 1, 1, 1, 1, 0, 1, 5, 4, 1, 1, 0, 5, 0]) false) (codeOf Ybad.f4 [1, 1, 1, 1, 1, 0, 1, 5, 4, 1, 1, 0, 5, 1])) _ _ _
    refine srg ?_
    show wpList _ (opsOf Ybad.f4 [1, 1, 1, 1, 1, 0, 1, 5, 4, 1, 1, 0, 5, 0]) _ [opAt Ybad.f4 [1, 1, 1, 1, 1, 0, 1, 5, 4, 1, 1, 0, 5, 0] 0, opAt Ybad.f4 [1, 1, 1, 1, 1, 0, 1, 5, 4, 1, 1, 0, 5, 0] 1, opAt Ybad.f4 [1, 1, 1, 1, 1, 0, 1, 5, 4, 1, 1, 0, 5, 0] 2] _ _
    refine st hK (wn rfl) (run_idxA 33 34 _ _ rfl Ybad.underlying33 ad ys.length nc (hK.op rfl) j (hK.op rfl) hj (fun w => by kernel_rfl) _) rfl (by decide) fun a hK => ?_
    refine stLd hK (wn rfl) rfl rfl ((hF.cell (cell_block hcy) (by simp)).trans hcy) (fun w => by kernel_rfl) rfl (by decide) fun a hK => ?_
    refine stAs hK (wn rfl) rfl rfl rfl (by decide) fun a hK => ?_
    show Code.wp _ (codeOf Ybad.f4 [1, 1, 1, 1, 1, 0, 1, 5, 4, 1, 1, 0, 5, 1]) _ _ _
    show Code.wp _ (.seq (.region _ (opsOf Ybad.f4 [1, 1, 1, 1, 1, 0, 1, 5, 4, 1, 1, 0, 5, 1, 0]) false) (codeOf Ybad.f4 [1, 1, 1, 1, 1, 0, 1, 5, 4, 1, 1, 0, 5, 1, 1])) _ _ _
    refine srg ?_
    show wpList _ (opsOf Ybad.f4 [1, 1, 1, 1, 1, 0, 1, 5, 4, 1, 1, 0, 5, 1, 0]) _ [opAt Ybad.f4 [1, 1, 1, 1, 1, 0, 1, 5, 4, 1, 1, 0, 5, 1, 0] 0, opAt Ybad.f4 [1, 1, 1, 1, 1, 0, 1, 5, 4, 1, 1, 0, 5, 1, 0] 1, opAt Ybad.f4 [1, 1, 1, 1, 1, 0, 1, 5, 4, 1, 1, 0, 5, 1, 0] 2] _ _
    refine stMv hK (wn rfl) rfl rfl rfl (by decide) fun a hK => ?_
    refine st hK (wn rfl) (run_conv _ _ _ rfl _ _ (hK.op rfl) _ (i8conv y _)) rfl (by decide) fun a hK => ?_
    refine stAs hK (wn rfl) rfl rfl rfl (by decide) fun a hK => ?_
    show Code.wp _ (codeOf Ybad.f4 [1, 1, 1, 1, 1, 0, 1, 5, 4, 1, 1, 0, 5, 1, 1]) _ _ _
    generalize IntKind.wrap .i64 y = kk at hK
    show Code.wp _ (.seq (.region _ (opsOf Ybad.f4 [1, 1, 1, 1, 1, 0, 1, 5, 4, 1, 1, 0, 5, 1, 1, 0]) false) (codeOf Ybad.f4 [1, 1, 1, 1, 1, 0, 1, 5, 4, 1, 1, 0, 5, 1, 1, 1])) _ _ _
    refine srg ?_
    show wpList _ (opsOf Ybad.f4 [1, 1, 1, 1, 1, 0, 1, 5, 4, 1, 1, 0, 5, 1, 1, 0]) _ [opAt Ybad.f4 [1, 1, 1, 1, 1, 0, 1, 5, 4, 1, 1, 0, 5, 1, 1, 0] 0, opAt Ybad.f4 [1, 1, 1, 1, 1, 0, 1, 5, 4, 1, 1, 0, 5, 1, 1, 0] 1, opAt Ybad.f4 [1, 1, 1, 1, 1, 0, 1, 5, 4, 1, 1, 0, 5, 1, 1, 0] 2, opAt Ybad.f4 [1, 1, 1, 1, 1, 0, 1, 5, 4, 1, 1, 0, 5, 1, 1, 0] 3] _ _
    refine stMv hK (wn rfl) rfl rfl rfl (by decide) fun a hK => ?_
    refine stMv hK (wn rfl) rfl rfl rfl (by decide) fun a hK => ?_
    cases fl with
    | true =>
      refine stCall hK rfl rfl rfl (R := fun v w' => v = nilS ∧ w' = W) (fun w => by kernel_rfl) ((next_err rb kk _ q W hr).mono fun _ _ h => ⟨_, h.1, rfl, h.2⟩) rfl (by decide) fun v a W' hR hK => ?_
      obtain ⟨rfl, rfl⟩ := hR
      refine stAs hK (wn rfl) rfl rfl rfl (by decide) fun a hK => ?_
      show Code.wp _ (codeOf Ybad.f4 [1, 1, 1, 1, 1, 0, 1, 5, 4, 1, 1, 0, 5, 1, 1, 1]) _ _ _
      exact sc_failed w0 rb xs hn ba bc (some ad) nc ys q hrb hb hE _ _ j k hk kk (hK.sub _ (by repeat (first | exact trivial | refine ⟨rfl, ?_⟩))) hSc hN hX hP
    | false =>
      by_cases hs : kk < 0 ∨ (rl : Int) < kk
      · refine stCall hK rfl rfl rfl (R := fun v w' => v = nilS ∧ Fr [rb] W w' ∧ w'.heap[rb]? = some (rdr (.slice ra rl rc) (errV q))) (fun w => by kernel_rfl) ((next_short rb kk ra rl rc q hs W hr ((hF.cell (cell_block hE) (by simp)).trans hE)).mono fun _ _ h => ⟨_, h.1, rfl, h.2⟩) rfl (by decide) fun v a W' hR hK => ?_
        obtain ⟨rfl, hF', hr'⟩ := hR
        refine stAs hK (wn rfl) rfl rfl rfl (by decide) fun a hK => ?_
        show Code.wp _ (codeOf Ybad.f4 [1, 1, 1, 1, 1, 0, 1, 5, 4, 1, 1, 0, 5, 1, 1, 1]) _ _ _
        exact sc_short w0 rb xs hn ba bc (some ad) nc ys q hrb hb hE _ _ j k hk kk (by omega) (hK.sub _ (by repeat (first | exact trivial | refine ⟨rfl, ?_⟩))) (Sc.of (hF.andThen hF' (fun i hi => by simp at hi; omega)) hr' (hbs.keepR hF' hr (fun x => by simp))) hN hX hP
      · obtain ⟨m, rfl⟩ : ∃ m : Nat, kk = (m : Int) := ⟨kk.toNat, by omega⟩
        refine stCall hK rfl rfl rfl (R := fun v w' => v = sliced ra 0 m rc 1 ∧ Fr [rb] W w' ∧ w'.heap[rb]? = some (rdr (sliced ra m rl rc 1) .nilIface)) (fun w => by kernel_rfl) ((next_ok rb m ra rl rc (by omega) hrc W hr).mono fun _ _ h => ⟨_, h.1, rfl, h.2⟩) rfl (by decide) fun v a W' hR hK => ?_
        obtain ⟨rfl, hF', hr'⟩ := hR
        refine stAs hK (wn rfl) rfl rfl rfl (by decide) fun a hK => ?_
        show Code.wp _ (codeOf Ybad.f4 [1, 1, 1, 1, 1, 0, 1, 5, 4, 1, 1, 0, 5, 1, 1, 1]) _ _ _
        have hlen : (xs.drop k).length = xs.length - k := by simp
        have hd : Bs (sliced ra m rl rc 1) (xs.drop (k + m)) W := by have h := hbs.drop m (by omega); rwa [List.drop_drop] at h
        exact sc_ok w0 rb xs hn ba bc (some ad) nc ys q hrb hb hE _ _ j k hk m (by omega) _ ((hbs.take m (by omega)).keepR hF' hr (fun x => by simp)) (hK.sub _ (by repeat (first | exact trivial | refine ⟨rfl, ?_⟩))) (Sc.of (hF.andThen hF' (fun i hi => by simp at hi; omega)) hr' (hd.keepR hF' hr (fun x => by simp))) hN hX hP

set_option maxRecDepth 20000 in
theorem sc_loop {Q : Exit → Act → World → Prop} (w0 : World) (rb : Nat) (xs : List UInt8) (hn : xs.length ≤ 1024) (ba : Option Addr) (bc : Nat) (na : Option Addr) (nc : Nat) (ys : List Int) (q : Addr) (hrb : w0.heap.size ≤ rb) (hb : Bs (.slice ba xs.length bc) xs w0) (hE : w0.cell? ⟨0, 0, none⟩ = some (errV q)) (hna : na = none → ys.length = 0) (hns : ∀ ad, na = some ad → ∀ (i : Nat) y, ys[i]? = some y → w0.cell? (ad.add i) = some (.int .i8 y)) (hm : ys.length ≤ 256) (a : Act) (W : World) (hK : Fm 122 [(6, .int .i64 0), (7, .bool false), (0, .slice ba xs.length bc), (1, .slice na ys.length nc), (5, ptr rb)] a) (hSc : Sc w0 rb xs q 0 false W) (hP : ∀ c a d v w, Q (.panic c) (Act.put a d v) w → Q (.panic c) a w)
    (hn2 : ∀ a W k fl, k ≤ xs.length → Fm 122 [(6, .int .i64 k), (7, .bool fl), (0, .slice ba xs.length bc), (1, .slice na ys.length nc), (5, ptr rb)] a → Sc w0 rb xs q k fl W → Code.wp Ybad.prog (codeOf Ybad.f4 [1, 1, 1, 1, 1, 1]) Q a W) :
    Code.wp Ybad.prog (codeOf Ybad.f4 [1, 1, 1, 1, 1]) Q a W := by
  show Code.wp _ (.seq (.seq (.region _ (opsOf Ybad.f4 [1, 1, 1, 1, 1, 0, 0]) false) (.block 0 (.loop (codeOf Ybad.f4 [1, 1, 1, 1, 1, 0, 1, 5, 4])))) (codeOf Ybad.f4 [1, 1, 1, 1, 1, 1])) _ _ _
  refine wp_seq (srg ?_)
  show wpList _ (opsOf Ybad.f4 [1, 1, 1, 1, 1, 0, 0]) _ [opAt Ybad.f4 [1, 1, 1, 1, 1, 0, 0] 0, opAt Ybad.f4 [1, 1, 1, 1, 1, 0, 0] 1, opAt Ybad.f4 [1, 1, 1, 1, 1, 0, 0] 2] _ _
  refine stMv hK (wn rfl) rfl rfl rfl (by decide) fun a hK => ?_
  refine stLenS hK (wn rfl) rfl Ybad.underlying33 rfl rfl (by decide) fun a hK => ?_
  refine stMv hK (wn rfl) rfl rfl rfl (by decide) fun a hK => ?_
  show Code.wp _ (.block 0 (.loop (codeOf Ybad.f4 [1, 1, 1, 1, 1, 0, 1, 5, 4]))) _ _ _
  refine wp_block (wp_loop (fun a W => ∃ (j k : Nat) (fl : Bool), j ≤ ys.length ∧ k ≤ xs.length ∧ Fm 122 [(26, .int .i64 j), (6, .int .i64 k), (7, .bool fl), (0, .slice ba xs.length bc), (1, .slice na ys.length nc), (5, ptr rb), (24, .slice na ys.length nc), (25, .int .i64 ys.length)] a ∧ Sc w0 rb xs q k fl W) (fun a _ => ys.length - (intOf (a.eval (.tmp 26))).toNat) ⟨0, 0, false, Nat.zero_le _, Nat.zero_le _, hK.sub _ (by repeat (first | exact trivial | refine ⟨rfl, ?_⟩)), hSc⟩ ?_)
  rintro a W ⟨j, k, fl, hj, hk, hK, hSc⟩
  have hjm : (intOf (a.eval (.tmp 26))).toNat = j := by rw [hK.get 26 (.int .i64 j) rfl]; simp [intOf]
  show Code.wp _ (.seq (.region _ (opsOf Ybad.f4 [1, 1, 1, 1, 1, 0, 1, 5, 4, 0]) false) (.seq (.cond (.tmp 27) .skip (.exit 0)) (.seq (.block 1 (codeOf Ybad.f4 [1, 1, 1, 1, 1, 0, 1, 5, 4, 1, 1, 0, 5])) (.region _ (opsOf Ybad.f4 [1, 1, 1, 1, 1, 0, 1, 5, 4, 1, 1, 1]) false)))) _ _ _
  refine srg ?_
  show wpList _ (opsOf Ybad.f4 [1, 1, 1, 1, 1, 0, 1, 5, 4, 0]) _ [opAt Ybad.f4 [1, 1, 1, 1, 1, 0, 1, 5, 4, 0] 0] _ _
  by_cases hlt : j < ys.length
  · refine stBin hK (wn rfl) rfl rfl rfl (lssT (by omega)) rfl (by decide) fun a hK => ?_
    refine wp_seq (wp_cond_true (hK.op rfl) (wp_skip ?_))
    refine wp_seq (wp_block ?_)
    have h23 : ∀ a W k fl, k ≤ xs.length → Fm 122 [(26, .int .i64 j), (6, .int .i64 k), (7, .bool fl), (0, .slice ba xs.length bc), (1, .slice na ys.length nc), (5, ptr rb), (24, .slice na ys.length nc), (25, .int .i64 ys.length)] a → Sc w0 rb xs q k fl W → Code.wp Ybad.prog (.region 23 (opsOf Ybad.f4 [1, 1, 1, 1, 1, 0, 1, 5, 4, 1, 1, 1]) false) (Exit.then (fun a' w' => (∃ (j k : Nat) (fl : Bool), j ≤ ys.length ∧ k ≤ xs.length ∧ Fm 122 [(26, .int .i64 j), (6, .int .i64 k), (7, .bool fl), (0, .slice ba xs.length bc), (1, .slice na ys.length nc), (5, ptr rb), (24, .slice na ys.length nc), (25, .int .i64 ys.length)] a' ∧ Sc w0 rb xs q k fl w') ∧ ys.length - (intOf (a'.eval (.tmp 26))).toNat < ys.length - j) (Exit.inBlock 0 (Exit.then (Code.wp Ybad.prog (codeOf Ybad.f4 [1, 1, 1, 1, 1, 1]) Q) Q))) a W := by
      intro a W k fl hk hK hSc
      refine wp_region_list ?_
      show wpList _ (opsOf Ybad.f4 [1, 1, 1, 1, 1, 0, 1, 5, 4, 1, 1, 1]) _ [opAt Ybad.f4 [1, 1, 1, 1, 1, 0, 1, 5, 4, 1, 1, 1] 0, opAt Ybad.f4 [1, 1, 1, 1, 1, 0, 1, 5, 4, 1, 1, 1] 1] _ _
      refine stBin hK (wn rfl) rfl rfl rfl (int_add (y := ((j + 1 : Nat) : Int)) (by omega) (by omega) (by omega)) rfl (by decide) fun a hK => ?_
      refine stMv hK (wn rfl) rfl rfl rfl (by decide) fun a hK => ?_
      refine ⟨⟨j + 1, k, fl, hlt, hk, hK.sub _ (by repeat (first | exact trivial | refine ⟨rfl, ?_⟩)), hSc⟩, ?_⟩
      show ys.length - (intOf (a.eval (.tmp 26))).toNat < _
      rw [hK.get 26 (.int .i64 ((j + 1 : Nat) : Int)) rfl]
      simp only [intOf, Int.toNat_natCast]; omega
    rw [hjm]
    exact sc_round w0 rb xs hn ba bc na nc ys q hrb hb hE hna hns a W j k hlt hk fl (hK.sub _ (by repeat (first | exact trivial | refine ⟨rfl, ?_⟩))) hSc h23 h23 (fun c a d v w h => hP c a d v w h)
  · refine stBin hK (wn rfl) rfl rfl rfl (lssF (by omega)) rfl (by decide) fun a hK => ?_
    refine wp_seq (wp_cond_false (hK.op rfl) (wp_exit ?_))
    exact hn2 a W k fl hk (hK.sub _ (by repeat (first | exact trivial | refine ⟨rfl, ?_⟩))) hSc

set_option maxRecDepth 20000 in
theorem sc_last {Q : Exit → Act → World → Prop} (w0 : World) (rb : Nat) (xs : List UInt8) (ba : Option Addr) (bc : Nat) (na : Option Addr) (nc : Nat) (ys : List Int) (q : Addr) (hb : Bs (.slice ba xs.length bc) xs w0) (a : Act) (W : World) (k : Nat) (fl : Bool) (hk : k ≤ xs.length) (hK : Fm 122 [(6, .int .i64 k), (7, .bool fl), (0, .slice ba xs.length bc), (1, .slice na ys.length nc), (5, ptr rb)] a) (hSc : Sc w0 rb xs q k fl W) (hP : ∀ c a d v w, Q (.panic c) (Act.put a d v) w → Q (.panic c) a w)
    (hn2 : ∀ a W, Fm 122 [(4, .bool true)] a → Fr [] w0 W → Q .ret a W) :
    Code.wp Ybad.prog (codeOf Ybad.f4 [1, 1, 1, 1, 1, 1]) Q a W := by
  obtain ⟨hF, ra, rl, rc, hr, hbs, hrc, hrl⟩ := hSc
  show Code.wp _ (.seq (.region _ (opsOf Ybad.f4 [1, 1, 1, 1, 1, 1, 0]) true) .ret) _ _ _
  refine wp_seq ?_
  refine wp_region_held (S := fun W => W.cell? ⟨rb, 0, none⟩ = some (.slice ra rl rc)) (by kernel_rfl) ?_
  change wpAnyH _ _ _ _ _ 9 _ _ (World.drew _)
  have hS : W.drew.cell? ⟨rb, 0, none⟩ = some (.slice ra rl rc) := (cell_at (w := W.drew) hr 0).trans rfl
  refine sdw hK 0 (oi := opAt Ybad.f4 [1, 1, 1, 1, 1, 1, 0] 0) rfl (by kernel_rfl) (by kernel_rfl) (by kernel_rfl) (fun c a d v w h => hP c a d v w h) (wn rfl) (fun W hW => run_mv _ rfl _ (hK.op rfl) W) hS rfl (by decide) fun a hK => ?_
  refine sdw hK 1 (oi := opAt Ybad.f4 [1, 1, 1, 1, 1, 1, 0] 1) rfl (by kernel_rfl) (by kernel_rfl) (by kernel_rfl) (fun c a d v w h => hP c a d v w h) (wn rfl) (fun W hW => run_nilCheck _ rfl _ (hK.op rfl) W) hS rfl (by decide) fun a hK => ?_
  refine sdw hK 2 (oi := opAt Ybad.f4 [1, 1, 1, 1, 1, 1, 0] 2) rfl (by kernel_rfl) (by kernel_rfl) (by kernel_rfl) (fun c a d v w h => hP c a d v w h) (wn rfl) (fun W hW => run_fieldAddr 29 _ 0 rfl ⟨rb, 0, none⟩ ⟨rb, 0, none⟩ (hK.op rfl) W (by kernel_rfl)) hS rfl (by decide) fun a hK => ?_
  refine sdw hK 3 (oi := opAt Ybad.f4 [1, 1, 1, 1, 1, 1, 0] 3) rfl (by kernel_rfl) (by kernel_rfl) (by kernel_rfl) (fun c a d v w h => hP c a d v w h) (wn rfl) (fun W hW => run_load_one _ _ rfl _ _ (hK.op rfl) W (hW) (by kernel_rfl)) hS rfl (by decide) fun a hK => ?_
  refine sdw hK 4 (oi := opAt Ybad.f4 [1, 1, 1, 1, 1, 1, 0] 4) rfl (by kernel_rfl) (by kernel_rfl) (by kernel_rfl) (fun c a d v w h => hP c a d v w h) (wn rfl) (fun W hW => run_mv _ rfl _ (hK.op rfl) W) hS rfl (by decide) fun a hK => ?_
  refine sdw hK 5 (oi := opAt Ybad.f4 [1, 1, 1, 1, 1, 1, 0] 5) rfl (by kernel_rfl) (by kernel_rfl) (by kernel_rfl) (fun c a d v w h => hP c a d v w h) (wn rfl) (fun W hW => run_mv _ rfl _ (hK.op rfl) W) hS rfl (by decide) fun a hK => ?_
  refine sdw hK 6 (oi := opAt Ybad.f4 [1, 1, 1, 1, 1, 1, 0] 6) rfl (by kernel_rfl) (by kernel_rfl) (by kernel_rfl) (fun c a d v w h => hP c a d v w h) (wn rfl) (fun W hW => run_slL 22 _ _ rfl elem22 size22 ba xs.length bc k (hK.op rfl) (hK.op rfl) hk W) hS rfl (by decide) fun a hK => ?_
  refine held_one (i := 7) (o := opAt Ybad.f4 [1, 1, 1, 1, 1, 1, 0] 7) (by kernel_rfl) rfl rfl ?_
  refine wp_enter (run_callFn 8 _ _ rfl rfl _ (hK.opA rfl) _ (by kernel_rfl)) ?_
  refine (equal_yes (xs := xs.drop k) (hbs.keep ((Fr.refl [] W).drew)) (((hb.keep hF.drew).drop k hk))).mono ?_
  rintro e W' ⟨rfl, rfl⟩
  refine ⟨_, rfl, hS, ?_⟩
  have hK := hK.put (d := 121) (by decide) (.bool true)
  change wpAnyH _ _ _ _ _ _ _ (Act.put _ (some 121) _) _
  generalize Act.put _ (some 121) (.bool true) = a at hK ⊢
  refine sdw hK 8 (oi := opAt Ybad.f4 [1, 1, 1, 1, 1, 1, 0] 8) rfl (by kernel_rfl) (by kernel_rfl) (by kernel_rfl) (fun c a d v w h => hP c a d v w h) (wn rfl) (fun W hW => run_asg _ rfl _ (hK.op rfl) W) hS rfl (by decide) fun a hK => ?_
  refine wpAnyH_done (by kernel_rfl) ?_ _
  show Code.wp _ .ret _ _ _
  exact wp_ret (hn2 a _ (hK.sub _ ⟨rfl, trivial⟩) hF.drew)

end Go.Proofs.YbulkaeqwDoor
