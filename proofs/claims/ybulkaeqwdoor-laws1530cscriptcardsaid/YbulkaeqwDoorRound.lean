import Derived.Test.YbulkaeqwDoorMore
namespace Go.Proofs.YbulkaeqwDoor
open Go.RowKit
/-- How it stands at the head of a round: k bytes are read; fl: a read has failed. -/
def Sc (w0 : World) (rb : Nat) (xs : List UInt8) (q : Addr) (k : Nat) (fl : Bool) (W : World) : Prop :=
  Fr [] w0 W ∧ ∃ ra rl rc, W.heap[rb]? = some (rdr (.slice ra rl rc) (if fl then errV q else .nilIface)) ∧ Bs (.slice ra rl rc) (xs.drop k) W ∧ rl ≤ rc ∧ rl = xs.length - k
theorem Bs.len {a : Option Addr} {l c : Nat} {xs : List UInt8} {w : World} (h : Bs (.slice a l c) xs w) : l = xs.length ∧ l ≤ c := by
  obtain ⟨a', c', h1, h2, _⟩ := h
  cases h1; exact ⟨rfl, h2⟩
theorem Sc.of {w0 W : World} {rb : Nat} {xs : List UInt8} {q : Addr} {k : Nat} {fl : Bool} {ra : Option Addr} {rl rc : Nat} (h1 : Fr [] w0 W) (h2 : W.heap[rb]? = some (rdr (.slice ra rl rc) (if fl then errV q else .nilIface))) (h3 : Bs (.slice ra rl rc) (xs.drop k) W) : Sc w0 rb xs q k fl W :=
  ⟨h1, ra, rl, rc, h2, h3, h3.len.2, by rw [h3.len.1]; simp⟩

set_option maxRecDepth 20000 in
theorem sc_failed {Q : Exit → Act → World → Prop} (w0 : World) (rb : Nat) (xs : List UInt8) (hn : xs.length ≤ 1024) (ba : Option Addr) (bc : Nat) (na : Option Addr) (nc : Nat) (ys : List Int) (q : Addr) (hrb : w0.heap.size ≤ rb) (hb : Bs (.slice ba xs.length bc) xs w0) (hE : w0.cell? ⟨0, 0, none⟩ = some (errV q)) (a : Act) (W : World) (j k : Nat) (hk : k ≤ xs.length) (kk : Int)
    (hK : Fm 122 ((11, nilS) :: (10, .int .i64 kk) :: [(26, .int .i64 j), (6, .int .i64 k), (7, .bool true), (0, .slice ba xs.length bc), (1, .slice na ys.length nc), (5, ptr rb), (24, .slice na ys.length nc), (25, .int .i64 ys.length)]) a) (hSc : Sc w0 rb xs q k true W)
    (hN : ∀ a W k fl, k ≤ xs.length → Fm 122 [(26, .int .i64 j), (6, .int .i64 k), (7, .bool fl), (0, .slice ba xs.length bc), (1, .slice na ys.length nc), (5, ptr rb), (24, .slice na ys.length nc), (25, .int .i64 ys.length)] a → Sc w0 rb xs q k fl W → Q .normal a W) (hX : ∀ a W k fl, k ≤ xs.length → Fm 122 [(26, .int .i64 j), (6, .int .i64 k), (7, .bool fl), (0, .slice ba xs.length bc), (1, .slice na ys.length nc), (5, ptr rb), (24, .slice na ys.length nc), (25, .int .i64 ys.length)] a → Sc w0 rb xs q k fl W → Q (.exit 1) a W) (hP : ∀ c a d v w, Q (.panic c) (Act.put a d v) w → Q (.panic c) a w) :
    Code.wp Ybad.prog (codeOf Ybad.f4 [1, 1, 1, 1, 1, 0, 1, 5, 4, 1, 1, 0, 5, 1, 1, 1]) Q a W := by
  have _used := And.intro hn (And.intro hrb (And.intro hb (And.intro hE (And.intro hN (And.intro hX hP)))))
  show Code.wp _ (.seq (.seq (.region _ (opsOf Ybad.f4 [1, 1, 1, 1, 1, 0, 1, 5, 4, 1, 1, 0, 5, 1, 1, 1, 0, 0]) false) (codeOf Ybad.f4 [1, 1, 1, 1, 1, 0, 1, 5, 4, 1, 1, 0, 5, 1, 1, 1, 0, 1])) (codeOf Ybad.f4 [1, 1, 1, 1, 1, 0, 1, 5, 4, 1, 1, 0, 5, 1, 1, 1, 1])) _ _ _
  refine wp_seq (srg ?_)
  show wpList _ (opsOf Ybad.f4 [1, 1, 1, 1, 1, 0, 1, 5, 4, 1, 1, 0, 5, 1, 1, 1, 0, 0]) _ [opAt Ybad.f4 [1, 1, 1, 1, 1, 0, 1, 5, 4, 1, 1, 0, 5, 1, 1, 1, 0, 0] 0] _ _
  refine stMv hK (wn rfl) rfl rfl rfl (by decide) fun a hK => ?_
  show Code.wp _ (.cond (.tmp 35) (codeOf Ybad.f4 [1, 1, 1, 1, 1, 0, 1, 5, 4, 1, 1, 0, 5, 1, 1, 1, 0, 1, 2]) .skip) _ _ _
  refine wp_cond_true (hK.op rfl) ?_
  show Code.wp _ (.seq (.seq (.region _ (opsOf Ybad.f4 [1, 1, 1, 1, 1, 0, 1, 5, 4, 1, 1, 0, 5, 1, 1, 1, 0, 1, 2, 0, 0]) true) (.cond (.tmp 45) (codeOf Ybad.f4 [1, 1, 1, 1, 1, 0, 1, 5, 4, 1, 1, 0, 5, 1, 1, 1, 0, 1, 2, 0, 1, 2]) .skip)) (.exit 1)) _ _ _
  refine wp_seq (wp_seq ?_)
  obtain ⟨hF, ra, rl, rc, hr, hbs, hrc, hrl⟩ := hSc
  refine wp_region_held (S := fun W => W.cell? ⟨rb, 1, none⟩ = some (errV q) ∧ W.cell? ⟨0, 0, none⟩ = some (errV q) ∧ True) (by kernel_rfl) ?_
  change wpAnyH _ _ _ _ _ 10 _ _ (World.drew _)
  have hS : W.drew.cell? ⟨rb, 1, none⟩ = some (errV q) ∧ W.drew.cell? ⟨0, 0, none⟩ = some (errV q) ∧ True := ⟨(cell_at (w := W.drew) hr 1).trans rfl, (hF.drew.cell (cell_block hE) (by simp)).trans hE, trivial⟩
  refine sdw hK 0 (oi := opAt Ybad.f4 [1, 1, 1, 1, 1, 0, 1, 5, 4, 1, 1, 0, 5, 1, 1, 1, 0, 1, 2, 0, 0] 0) rfl (by kernel_rfl) (by kernel_rfl) (by kernel_rfl) (fun c a d v w h => hP c a d v w h) (wn rfl) (fun W hW => run_mv _ rfl _ (hK.op rfl) W) hS rfl (by decide) fun a hK => ?_
  refine sdw hK 1 (oi := opAt Ybad.f4 [1, 1, 1, 1, 1, 0, 1, 5, 4, 1, 1, 0, 5, 1, 1, 1, 0, 1, 2, 0, 0] 1) rfl (by kernel_rfl) (by kernel_rfl) (by kernel_rfl) (fun c a d v w h => hP c a d v w h) (wn rfl) (fun W hW => run_bin .neq 22 _ _ 22 rfl _ _ _ (hK.op rfl) (hK.op rfl) W ((by kernel_rfl : _ = Result.ok (Value.bool false) _))) hS rfl (by decide) fun a hK => ?_
  refine sdw hK 2 (oi := opAt Ybad.f4 [1, 1, 1, 1, 1, 0, 1, 5, 4, 1, 1, 0, 5, 1, 1, 1, 0, 1, 2, 0, 0] 2) rfl (by kernel_rfl) (by kernel_rfl) (by kernel_rfl) (fun c a d v w h => hP c a d v w h) (wn rfl) (fun W hW => run_mv _ rfl _ (hK.op rfl) W) hS rfl (by decide) fun a hK => ?_
  refine sdw hK 3 (oi := opAt Ybad.f4 [1, 1, 1, 1, 1, 0, 1, 5, 4, 1, 1, 0, 5, 1, 1, 1, 0, 1, 2, 0, 0] 3) rfl (by kernel_rfl) (by kernel_rfl) (by kernel_rfl) (fun c a d v w h => hP c a d v w h) (hK.wy rfl rfl rfl (by decide)) (fun W hW => run_mv _ rfl _ (hK.op rfl) W) hS rfl (by decide) fun a hK => ?_
  refine sdw hK 4 (oi := opAt Ybad.f4 [1, 1, 1, 1, 1, 0, 1, 5, 4, 1, 1, 0, 5, 1, 1, 1, 0, 1, 2, 0, 0] 4) rfl (by kernel_rfl) (by kernel_rfl) (by kernel_rfl) (fun c a d v w h => hP c a d v w h) (hK.wy rfl rfl rfl (by decide)) (fun W hW => run_nilCheck _ rfl _ (hK.op rfl) W) hS rfl (by decide) fun a hK => ?_
  refine sdw hK 5 (oi := opAt Ybad.f4 [1, 1, 1, 1, 1, 0, 1, 5, 4, 1, 1, 0, 5, 1, 1, 1, 0, 1, 2, 0, 0] 5) rfl (by kernel_rfl) (by kernel_rfl) (by kernel_rfl) (fun c a d v w h => hP c a d v w h) (hK.wy rfl rfl rfl (by decide)) (fun W hW => run_fieldAddr 29 _ 1 rfl ⟨rb, 0, none⟩ ⟨rb, 1, none⟩ (hK.op rfl) W (by kernel_rfl)) hS rfl (by decide) fun a hK => ?_
  refine sdw hK 6 (oi := opAt Ybad.f4 [1, 1, 1, 1, 1, 0, 1, 5, 4, 1, 1, 0, 5, 1, 1, 1, 0, 1, 2, 0, 0] 6) rfl (by kernel_rfl) (by kernel_rfl) (by kernel_rfl) (fun c a d v w h => hP c a d v w h) (hK.wy rfl rfl rfl (by decide)) (fun W hW => run_load_one _ _ rfl _ _ (hK.op rfl) W (hW.1) (by kernel_rfl)) hS rfl (by decide) fun a hK => ?_
  refine sdw hK 7 (oi := opAt Ybad.f4 [1, 1, 1, 1, 1, 0, 1, 5, 4, 1, 1, 0, 5, 1, 1, 1, 0, 1, 2, 0, 0] 7) rfl (by kernel_rfl) (by kernel_rfl) (by kernel_rfl) (fun c a d v w h => hP c a d v w h) (hK.wy rfl rfl rfl (by decide)) (fun W hW => run_load_one _ _ rfl _ _ (hK.op rfl) W (hW.2.1) (by kernel_rfl)) hS rfl (by decide) fun a hK => ?_
  refine sdw hK 8 (oi := opAt Ybad.f4 [1, 1, 1, 1, 1, 0, 1, 5, 4, 1, 1, 0, 5, 1, 1, 1, 0, 1, 2, 0, 0] 8) rfl (by kernel_rfl) (by kernel_rfl) (by kernel_rfl) (fun c a d v w h => hP c a d v w h) (hK.wy rfl rfl rfl (by decide)) (fun W hW => run_bin .neq 25 _ _ 25 rfl _ _ _ (hK.op rfl) (hK.op rfl) W (err_neq _ _ _ _)) hS rfl (by decide) fun a hK => ?_
  refine sdw hK 9 (oi := opAt Ybad.f4 [1, 1, 1, 1, 1, 0, 1, 5, 4, 1, 1, 0, 5, 1, 1, 1, 0, 1, 2, 0, 0] 9) rfl (by kernel_rfl) (by kernel_rfl) (by kernel_rfl) (fun c a d v w h => hP c a d v w h) (wn rfl) (fun W hW => run_pick _ _ _ rfl _ _ _ (hK.op rfl) (hK.op rfl) (hK.op rfl) W) hS rfl (by decide) fun a hK => ?_
  refine wpAnyH_done (by kernel_rfl) ?_ _
  show Code.wp _ (.cond (.tmp 45) (codeOf Ybad.f4 [1, 1, 1, 1, 1, 0, 1, 5, 4, 1, 1, 0, 5, 1, 1, 1, 0, 1, 2, 0, 1, 2]) .skip) _ _ _
  refine wp_cond_false (hK.op rfl) (wp_skip ?_)
  show Code.wp _ (.exit 1) _ _ _
  refine wp_exit ?_
  exact hX _ _ k true hk (hK.sub _ (by repeat (first | exact trivial | refine ⟨rfl, ?_⟩))) (Sc.of hF.drew hr hbs)

set_option maxRecDepth 20000 in
theorem sc_short {Q : Exit → Act → World → Prop} (w0 : World) (rb : Nat) (xs : List UInt8) (hn : xs.length ≤ 1024) (ba : Option Addr) (bc : Nat) (na : Option Addr) (nc : Nat) (ys : List Int) (q : Addr) (hrb : w0.heap.size ≤ rb) (hb : Bs (.slice ba xs.length bc) xs w0) (hE : w0.cell? ⟨0, 0, none⟩ = some (errV q)) (a : Act) (W : World) (j k : Nat) (hk : k ≤ xs.length) (kk : Int) (hkk : kk < 0 ∨ (xs.length : Int) - k < kk)
    (hK : Fm 122 ((11, nilS) :: (10, .int .i64 kk) :: [(26, .int .i64 j), (6, .int .i64 k), (7, .bool false), (0, .slice ba xs.length bc), (1, .slice na ys.length nc), (5, ptr rb), (24, .slice na ys.length nc), (25, .int .i64 ys.length)]) a) (hSc : Sc w0 rb xs q k true W)
    (hN : ∀ a W k fl, k ≤ xs.length → Fm 122 [(26, .int .i64 j), (6, .int .i64 k), (7, .bool fl), (0, .slice ba xs.length bc), (1, .slice na ys.length nc), (5, ptr rb), (24, .slice na ys.length nc), (25, .int .i64 ys.length)] a → Sc w0 rb xs q k fl W → Q .normal a W) (hX : ∀ a W k fl, k ≤ xs.length → Fm 122 [(26, .int .i64 j), (6, .int .i64 k), (7, .bool fl), (0, .slice ba xs.length bc), (1, .slice na ys.length nc), (5, ptr rb), (24, .slice na ys.length nc), (25, .int .i64 ys.length)] a → Sc w0 rb xs q k fl W → Q (.exit 1) a W) (hP : ∀ c a d v w, Q (.panic c) (Act.put a d v) w → Q (.panic c) a w) :
    Code.wp Ybad.prog (codeOf Ybad.f4 [1, 1, 1, 1, 1, 0, 1, 5, 4, 1, 1, 0, 5, 1, 1, 1]) Q a W := by
  have _used := And.intro hn (And.intro hrb (And.intro hb (And.intro hE (And.intro hN (And.intro hX hP)))))
  show Code.wp _ (.seq (.seq (.region _ (opsOf Ybad.f4 [1, 1, 1, 1, 1, 0, 1, 5, 4, 1, 1, 0, 5, 1, 1, 1, 0, 0]) false) (codeOf Ybad.f4 [1, 1, 1, 1, 1, 0, 1, 5, 4, 1, 1, 0, 5, 1, 1, 1, 0, 1])) (codeOf Ybad.f4 [1, 1, 1, 1, 1, 0, 1, 5, 4, 1, 1, 0, 5, 1, 1, 1, 1])) _ _ _
  refine wp_seq (srg ?_)
  show wpList _ (opsOf Ybad.f4 [1, 1, 1, 1, 1, 0, 1, 5, 4, 1, 1, 0, 5, 1, 1, 1, 0, 0]) _ [opAt Ybad.f4 [1, 1, 1, 1, 1, 0, 1, 5, 4, 1, 1, 0, 5, 1, 1, 1, 0, 0] 0] _ _
  refine stMv hK (wn rfl) rfl rfl rfl (by decide) fun a hK => ?_
  show Code.wp _ (.cond (.tmp 35) (codeOf Ybad.f4 [1, 1, 1, 1, 1, 0, 1, 5, 4, 1, 1, 0, 5, 1, 1, 1, 0, 1, 2]) .skip) _ _ _
  refine wp_cond_false (hK.op rfl) (wp_skip ?_)
  show Code.wp _ (codeOf Ybad.f4 [1, 1, 1, 1, 1, 0, 1, 5, 4, 1, 1, 0, 5, 1, 1, 1, 1]) _ _ _
  obtain ⟨hF, ra, rl, rc, hr, hbs, hrc, hrl⟩ := hSc
  have h77 : ∀ a, Fm 122 ((11, nilS) :: (10, .int .i64 kk) :: [(26, .int .i64 j), (6, .int .i64 k), (7, .bool false), (0, .slice ba xs.length bc), (1, .slice na ys.length nc), (5, ptr rb), (24, .slice na ys.length nc), (25, .int .i64 ys.length)]) a → Code.wp Ybad.prog (codeOf Ybad.f4 [1, 1, 1, 1, 1, 0, 1, 5, 4, 1, 1, 0, 5, 1, 1, 1, 1, 0, 1, 2]) (Exit.then (Code.wp Ybad.prog (codeOf Ybad.f4 [1, 1, 1, 1, 1, 0, 1, 5, 4, 1, 1, 0, 5, 1, 1, 1, 1, 1]) Q) Q) a W := by
    intro a hK
    show Code.wp _ (.seq (.region _ (opsOf Ybad.f4 [1, 1, 1, 1, 1, 0, 1, 5, 4, 1, 1, 0, 5, 1, 1, 1, 1, 0, 1, 2, 0]) false) (codeOf Ybad.f4 [1, 1, 1, 1, 1, 0, 1, 5, 4, 1, 1, 0, 5, 1, 1, 1, 1, 0, 1, 2, 1])) _ _ _
    refine srg ?_
    show wpList _ (opsOf Ybad.f4 [1, 1, 1, 1, 1, 0, 1, 5, 4, 1, 1, 0, 5, 1, 1, 1, 1, 0, 1, 2, 0]) _ [opAt Ybad.f4 [1, 1, 1, 1, 1, 0, 1, 5, 4, 1, 1, 0, 5, 1, 1, 1, 1, 0, 1, 2, 0] 0] _ _
    refine stAs hK (wn rfl) rfl rfl rfl (by decide) fun a hK => ?_
    show Code.wp _ (codeOf Ybad.f4 [1, 1, 1, 1, 1, 0, 1, 5, 4, 1, 1, 0, 5, 1, 1, 1, 1, 0, 1, 2, 1]) _ _ _
    show Code.wp _ (.seq (.seq (.region _ (opsOf Ybad.f4 [1, 1, 1, 1, 1, 0, 1, 5, 4, 1, 1, 0, 5, 1, 1, 1, 1, 0, 1, 2, 1, 0, 0]) true) (.cond (.tmp 77) (codeOf Ybad.f4 [1, 1, 1, 1, 1, 0, 1, 5, 4, 1, 1, 0, 5, 1, 1, 1, 1, 0, 1, 2, 1, 0, 1, 2]) .skip)) (.exit 1)) _ _ _
    refine wp_seq (wp_seq ?_)
    refine wp_region_held (S := fun W => W.cell? ⟨rb, 1, none⟩ = some (errV q) ∧ W.cell? ⟨0, 0, none⟩ = some (errV q) ∧ W.cell? ⟨rb, 0, none⟩ = some (.slice ra rl rc)) (by kernel_rfl) ?_
    change wpAnyH _ _ _ _ _ 22 _ _ (World.drew _)
    have hS : W.drew.cell? ⟨rb, 1, none⟩ = some (errV q) ∧ W.drew.cell? ⟨0, 0, none⟩ = some (errV q) ∧ W.drew.cell? ⟨rb, 0, none⟩ = some (.slice ra rl rc) := ⟨(cell_at (w := W.drew) hr 1).trans rfl, (hF.drew.cell (cell_block hE) (by simp)).trans hE, (cell_at (w := W.drew) hr 0).trans rfl⟩
    refine sdw hK 0 (oi := opAt Ybad.f4 [1, 1, 1, 1, 1, 0, 1, 5, 4, 1, 1, 0, 5, 1, 1, 1, 1, 0, 1, 2, 1, 0, 0] 0) rfl (by kernel_rfl) (by kernel_rfl) (by kernel_rfl) (fun c a d v w h => hP c a d v w h) (wn rfl) (fun W hW => run_mv _ rfl _ (hK.op rfl) W) hS rfl (by decide) fun a hK => ?_
    refine sdw hK 1 (oi := opAt Ybad.f4 [1, 1, 1, 1, 1, 0, 1, 5, 4, 1, 1, 0, 5, 1, 1, 1, 1, 0, 1, 2, 1, 0, 0] 1) rfl (by kernel_rfl) (by kernel_rfl) (by kernel_rfl) (fun c a d v w h => hP c a d v w h) (wn rfl) (fun W hW => run_bin .neq 22 _ _ 22 rfl _ _ _ (hK.op rfl) (hK.op rfl) W ((by kernel_rfl : _ = Result.ok (Value.bool false) _))) hS rfl (by decide) fun a hK => ?_
    refine sdw hK 2 (oi := opAt Ybad.f4 [1, 1, 1, 1, 1, 0, 1, 5, 4, 1, 1, 0, 5, 1, 1, 1, 1, 0, 1, 2, 1, 0, 0] 2) rfl (by kernel_rfl) (by kernel_rfl) (by kernel_rfl) (fun c a d v w h => hP c a d v w h) (wn rfl) (fun W hW => run_mv _ rfl _ (hK.op rfl) W) hS rfl (by decide) fun a hK => ?_
    refine sdw hK 3 (oi := opAt Ybad.f4 [1, 1, 1, 1, 1, 0, 1, 5, 4, 1, 1, 0, 5, 1, 1, 1, 1, 0, 1, 2, 1, 0, 0] 3) rfl (by kernel_rfl) (by kernel_rfl) (by kernel_rfl) (fun c a d v w h => hP c a d v w h) (hK.wy rfl rfl rfl (by decide)) (fun W hW => run_mv _ rfl _ (hK.op rfl) W) hS rfl (by decide) fun a hK => ?_
    refine sdw hK 4 (oi := opAt Ybad.f4 [1, 1, 1, 1, 1, 0, 1, 5, 4, 1, 1, 0, 5, 1, 1, 1, 1, 0, 1, 2, 1, 0, 0] 4) rfl (by kernel_rfl) (by kernel_rfl) (by kernel_rfl) (fun c a d v w h => hP c a d v w h) (hK.wy rfl rfl rfl (by decide)) (fun W hW => run_nilCheck _ rfl _ (hK.op rfl) W) hS rfl (by decide) fun a hK => ?_
    refine sdw hK 5 (oi := opAt Ybad.f4 [1, 1, 1, 1, 1, 0, 1, 5, 4, 1, 1, 0, 5, 1, 1, 1, 1, 0, 1, 2, 1, 0, 0] 5) rfl (by kernel_rfl) (by kernel_rfl) (by kernel_rfl) (fun c a d v w h => hP c a d v w h) (hK.wy rfl rfl rfl (by decide)) (fun W hW => run_fieldAddr 29 _ 1 rfl ⟨rb, 0, none⟩ ⟨rb, 1, none⟩ (hK.op rfl) W (by kernel_rfl)) hS rfl (by decide) fun a hK => ?_
    refine sdw hK 6 (oi := opAt Ybad.f4 [1, 1, 1, 1, 1, 0, 1, 5, 4, 1, 1, 0, 5, 1, 1, 1, 1, 0, 1, 2, 1, 0, 0] 6) rfl (by kernel_rfl) (by kernel_rfl) (by kernel_rfl) (fun c a d v w h => hP c a d v w h) (hK.wy rfl rfl rfl (by decide)) (fun W hW => run_load_one _ _ rfl _ _ (hK.op rfl) W (hW.1) (by kernel_rfl)) hS rfl (by decide) fun a hK => ?_
    refine sdw hK 7 (oi := opAt Ybad.f4 [1, 1, 1, 1, 1, 0, 1, 5, 4, 1, 1, 0, 5, 1, 1, 1, 1, 0, 1, 2, 1, 0, 0] 7) rfl (by kernel_rfl) (by kernel_rfl) (by kernel_rfl) (fun c a d v w h => hP c a d v w h) (hK.wy rfl rfl rfl (by decide)) (fun W hW => run_load_one _ _ rfl _ _ (hK.op rfl) W (hW.2.1) (by kernel_rfl)) hS rfl (by decide) fun a hK => ?_
    refine sdw hK 8 (oi := opAt Ybad.f4 [1, 1, 1, 1, 1, 0, 1, 5, 4, 1, 1, 0, 5, 1, 1, 1, 1, 0, 1, 2, 1, 0, 0] 8) rfl (by kernel_rfl) (by kernel_rfl) (by kernel_rfl) (fun c a d v w h => hP c a d v w h) (hK.wy rfl rfl rfl (by decide)) (fun W hW => run_bin .neq 25 _ _ 25 rfl _ _ _ (hK.op rfl) (hK.op rfl) W (err_neq _ _ _ _)) hS rfl (by decide) fun a hK => ?_
    refine sdw hK 9 (oi := opAt Ybad.f4 [1, 1, 1, 1, 1, 0, 1, 5, 4, 1, 1, 0, 5, 1, 1, 1, 1, 0, 1, 2, 1, 0, 0] 9) rfl (by kernel_rfl) (by kernel_rfl) (by kernel_rfl) (fun c a d v w h => hP c a d v w h) (wn rfl) (fun W hW => run_pick _ _ _ rfl _ _ _ (hK.op rfl) (hK.op rfl) (hK.op rfl) W) hS rfl (by decide) fun a hK => ?_
    refine sdw hK 10 (oi := opAt Ybad.f4 [1, 1, 1, 1, 1, 0, 1, 5, 4, 1, 1, 0, 5, 1, 1, 1, 1, 0, 1, 2, 1, 0, 0] 10) rfl (by kernel_rfl) (by kernel_rfl) (by kernel_rfl) (fun c a d v w h => hP c a d v w h) (wn rfl) (fun W hW => run_mv _ rfl _ (hK.op rfl) W) hS rfl (by decide) fun a hK => ?_
    refine sdw hK 11 (oi := opAt Ybad.f4 [1, 1, 1, 1, 1, 0, 1, 5, 4, 1, 1, 0, 5, 1, 1, 1, 1, 0, 1, 2, 1, 0, 0] 11) rfl (by kernel_rfl) (by kernel_rfl) (by kernel_rfl) (fun c a d v w h => hP c a d v w h) (hK.wy rfl rfl rfl (by decide)) (fun W hW => run_mv _ rfl _ (hK.op rfl) W) hS rfl (by decide) fun a hK => ?_
    refine sdw hK 12 (oi := opAt Ybad.f4 [1, 1, 1, 1, 1, 0, 1, 5, 4, 1, 1, 0, 5, 1, 1, 1, 1, 0, 1, 2, 1, 0, 0] 12) rfl (by kernel_rfl) (by kernel_rfl) (by kernel_rfl) (fun c a d v w h => hP c a d v w h) (hK.wy rfl rfl rfl (by decide)) (fun W hW => run_nilCheck _ rfl _ (hK.op rfl) W) hS rfl (by decide) fun a hK => ?_
    refine sdw hK 13 (oi := opAt Ybad.f4 [1, 1, 1, 1, 1, 0, 1, 5, 4, 1, 1, 0, 5, 1, 1, 1, 1, 0, 1, 2, 1, 0, 0] 13) rfl (by kernel_rfl) (by kernel_rfl) (by kernel_rfl) (fun c a d v w h => hP c a d v w h) (hK.wy rfl rfl rfl (by decide)) (fun W hW => run_fieldAddr 29 _ 0 rfl ⟨rb, 0, none⟩ ⟨rb, 0, none⟩ (hK.op rfl) W (by kernel_rfl)) hS rfl (by decide) fun a hK => ?_
    refine sdw hK 14 (oi := opAt Ybad.f4 [1, 1, 1, 1, 1, 0, 1, 5, 4, 1, 1, 0, 5, 1, 1, 1, 1, 0, 1, 2, 1, 0, 0] 14) rfl (by kernel_rfl) (by kernel_rfl) (by kernel_rfl) (fun c a d v w h => hP c a d v w h) (hK.wy rfl rfl rfl (by decide)) (fun W hW => run_load_one _ _ rfl _ _ (hK.op rfl) W (hW.2.2) (by kernel_rfl)) hS rfl (by decide) fun a hK => ?_
    refine sdw hK 15 (oi := opAt Ybad.f4 [1, 1, 1, 1, 1, 0, 1, 5, 4, 1, 1, 0, 5, 1, 1, 1, 1, 0, 1, 2, 1, 0, 0] 15) rfl (by kernel_rfl) (by kernel_rfl) (by kernel_rfl) (fun c a d v w h => hP c a d v w h) (hK.wy rfl rfl rfl (by decide)) (fun W hW => run_lenS 22 5 _ rfl Ybad.underlying22 _ _ _ (hK.op rfl) W) hS rfl (by decide) fun a hK => ?_
    refine sdw hK 16 (oi := opAt Ybad.f4 [1, 1, 1, 1, 1, 0, 1, 5, 4, 1, 1, 0, 5, 1, 1, 1, 1, 0, 1, 2, 1, 0, 0] 16) rfl (by kernel_rfl) (by kernel_rfl) (by kernel_rfl) (fun c a d v w h => hP c a d v w h) (hK.wy rfl rfl rfl (by decide)) (fun W hW => run_mv _ rfl _ (hK.op rfl) W) hS rfl (by decide) fun a hK => ?_
    refine sdw hK 17 (oi := opAt Ybad.f4 [1, 1, 1, 1, 1, 0, 1, 5, 4, 1, 1, 0, 5, 1, 1, 1, 1, 0, 1, 2, 1, 0, 0] 17) rfl (by kernel_rfl) (by kernel_rfl) (by kernel_rfl) (fun c a d v w h => hP c a d v w h) (hK.wy rfl rfl rfl (by decide)) (fun W hW => run_lenS 22 5 _ rfl Ybad.underlying22 _ _ _ (hK.op rfl) W) hS rfl (by decide) fun a hK => ?_
    refine sdw hK 18 (oi := opAt Ybad.f4 [1, 1, 1, 1, 1, 0, 1, 5, 4, 1, 1, 0, 5, 1, 1, 1, 1, 0, 1, 2, 1, 0, 0] 18) rfl (by kernel_rfl) (by kernel_rfl) (by kernel_rfl) (fun c a d v w h => hP c a d v w h) (hK.wy rfl rfl rfl (by decide)) (fun W hW => run_mv _ rfl _ (hK.op rfl) W) hS rfl (by decide) fun a hK => ?_
    refine sdw hK 19 (oi := opAt Ybad.f4 [1, 1, 1, 1, 1, 0, 1, 5, 4, 1, 1, 0, 5, 1, 1, 1, 1, 0, 1, 2, 1, 0, 0] 19) rfl (by kernel_rfl) (by kernel_rfl) (by kernel_rfl) (fun c a d v w h => hP c a d v w h) (hK.wy rfl rfl rfl (by decide)) (fun W hW => run_bin .sub 3 _ _ 3 rfl _ _ _ (hK.op rfl) (hK.op rfl) W (int_sub (y := (rl : Int)) (by omega) (by omega) (by omega))) hS rfl (by decide) fun a hK => ?_
    refine sdw hK 20 (oi := opAt Ybad.f4 [1, 1, 1, 1, 1, 0, 1, 5, 4, 1, 1, 0, 5, 1, 1, 1, 1, 0, 1, 2, 1, 0, 0] 20) rfl (by kernel_rfl) (by kernel_rfl) (by kernel_rfl) (fun c a d v w h => hP c a d v w h) (hK.wy rfl rfl rfl (by decide)) (fun W hW => run_bin .neq 3 _ _ 3 rfl _ _ _ (hK.op rfl) (hK.op rfl) W (int_neq rfl)) hS rfl (by decide) fun a hK => ?_
    refine sdw hK 21 (oi := opAt Ybad.f4 [1, 1, 1, 1, 1, 0, 1, 5, 4, 1, 1, 0, 5, 1, 1, 1, 1, 0, 1, 2, 1, 0, 0] 21) rfl (by kernel_rfl) (by kernel_rfl) (by kernel_rfl) (fun c a d v w h => hP c a d v w h) (wn rfl) (fun W hW => run_pick _ _ _ rfl _ _ _ (hK.op rfl) (hK.op rfl) (hK.op rfl) W) hS rfl (by decide) fun a hK => ?_
    refine wpAnyH_done (by kernel_rfl) ?_ _
    show Code.wp _ (.cond (.tmp 77) (codeOf Ybad.f4 [1, 1, 1, 1, 1, 0, 1, 5, 4, 1, 1, 0, 5, 1, 1, 1, 1, 0, 1, 2, 1, 0, 1, 2]) .skip) _ _ _
    refine wp_cond_false (hK.op rfl) (wp_skip ?_)
    show Code.wp _ (.exit 1) _ _ _
    refine wp_exit ?_
    exact hX _ _ k true hk (hK.sub _ (by repeat (first | exact trivial | refine ⟨rfl, ?_⟩))) (Sc.of hF.drew hr hbs)
  show Code.wp _ (.seq (.seq (.region _ (opsOf Ybad.f4 [1, 1, 1, 1, 1, 0, 1, 5, 4, 1, 1, 0, 5, 1, 1, 1, 1, 0, 0]) false) (codeOf Ybad.f4 [1, 1, 1, 1, 1, 0, 1, 5, 4, 1, 1, 0, 5, 1, 1, 1, 1, 0, 1])) (codeOf Ybad.f4 [1, 1, 1, 1, 1, 0, 1, 5, 4, 1, 1, 0, 5, 1, 1, 1, 1, 1])) _ _ _
  refine wp_seq (srg ?_)
  show wpList _ (opsOf Ybad.f4 [1, 1, 1, 1, 1, 0, 1, 5, 4, 1, 1, 0, 5, 1, 1, 1, 1, 0, 0]) _ [opAt Ybad.f4 [1, 1, 1, 1, 1, 0, 1, 5, 4, 1, 1, 0, 5, 1, 1, 1, 1, 0, 0] 0, opAt Ybad.f4 [1, 1, 1, 1, 1, 0, 1, 5, 4, 1, 1, 0, 5, 1, 1, 1, 1, 0, 0] 1, opAt Ybad.f4 [1, 1, 1, 1, 1, 0, 1, 5, 4, 1, 1, 0, 5, 1, 1, 1, 1, 0, 0] 2, opAt Ybad.f4 [1, 1, 1, 1, 1, 0, 1, 5, 4, 1, 1, 0, 5, 1, 1, 1, 1, 0, 0] 3, opAt Ybad.f4 [1, 1, 1, 1, 1, 0, 1, 5, 4, 1, 1, 0, 5, 1, 1, 1, 1, 0, 0] 4, opAt Ybad.f4 [1, 1, 1, 1, 1, 0, 1, 5, 4, 1, 1, 0, 5, 1, 1, 1, 1, 0, 0] 5, opAt Ybad.f4 [1, 1, 1, 1, 1, 0, 1, 5, 4, 1, 1, 0, 5, 1, 1, 1, 1, 0, 0] 6, opAt Ybad.f4 [1, 1, 1, 1, 1, 0, 1, 5, 4, 1, 1, 0, 5, 1, 1, 1, 1, 0, 0] 7, opAt Ybad.f4 [1, 1, 1, 1, 1, 0, 1, 5, 4, 1, 1, 0, 5, 1, 1, 1, 1, 0, 0] 8, opAt Ybad.f4 [1, 1, 1, 1, 1, 0, 1, 5, 4, 1, 1, 0, 5, 1, 1, 1, 1, 0, 0] 9] _ _
  refine stMv hK (wn rfl) rfl rfl rfl (by decide) fun a hK => ?_
  by_cases hneg : kk < 0
  · refine stBin hK (wn rfl) rfl rfl rfl (lssT hneg) rfl (by decide) fun a hK => ?_
    refine stMv hK (wn rfl) rfl rfl rfl (by decide) fun a hK => ?_
    refine stSkip hK (hK.wno rfl rfl rfl (by decide)) rfl (by decide) fun a hK => ?_
    refine stSkip hK (hK.wno rfl rfl rfl (by decide)) rfl (by decide) fun a hK => ?_
    refine stSkip hK (hK.wno rfl rfl rfl (by decide)) rfl (by decide) fun a hK => ?_
    refine stSkip hK (hK.wno rfl rfl rfl (by decide)) rfl (by decide) fun a hK => ?_
    refine stSkip hK (hK.wno rfl rfl rfl (by decide)) rfl (by decide) fun a hK => ?_
    refine stSkip hK (hK.wno rfl rfl rfl (by decide)) rfl (by decide) fun a hK => ?_
    refine stPick hK (wn rfl) rfl rfl rfl rfl rfl (by decide) fun a hK => ?_
    show Code.wp _ (.cond (.tmp 55) (codeOf Ybad.f4 [1, 1, 1, 1, 1, 0, 1, 5, 4, 1, 1, 0, 5, 1, 1, 1, 1, 0, 1, 2]) .skip) _ _ _
    refine wp_cond_true (hK.op rfl) ?_
    exact h77 _ (hK.sub _ (by repeat (first | exact trivial | refine ⟨rfl, ?_⟩)))
  · refine stBin hK (wn rfl) rfl rfl rfl (lssF hneg) rfl (by decide) fun a hK => ?_
    refine stMv hK (wn rfl) rfl rfl rfl (by decide) fun a hK => ?_
    refine stMv hK (hK.wy rfl rfl rfl (by decide)) rfl rfl rfl (by decide) fun a hK => ?_
    refine stMv hK (hK.wy rfl rfl rfl (by decide)) rfl rfl rfl (by decide) fun a hK => ?_
    refine stLenS hK (hK.wy rfl rfl rfl (by decide)) rfl Ybad.underlying22 rfl rfl (by decide) fun a hK => ?_
    refine stMv hK (hK.wy rfl rfl rfl (by decide)) rfl rfl rfl (by decide) fun a hK => ?_
    refine stBin hK (hK.wy rfl rfl rfl (by decide)) rfl rfl rfl (int_sub (y := (xs.length : Int) - k) (by omega) (by omega) (by omega)) rfl (by decide) fun a hK => ?_
    refine stBin hK (hK.wy rfl rfl rfl (by decide)) rfl rfl rfl (gtrT (by omega)) rfl (by decide) fun a hK => ?_
    refine stPick hK (wn rfl) rfl rfl rfl rfl rfl (by decide) fun a hK => ?_
    show Code.wp _ (.cond (.tmp 55) (codeOf Ybad.f4 [1, 1, 1, 1, 1, 0, 1, 5, 4, 1, 1, 0, 5, 1, 1, 1, 1, 0, 1, 2]) .skip) _ _ _
    refine wp_cond_true (hK.op rfl) ?_
    exact h77 _ (hK.sub _ (by repeat (first | exact trivial | refine ⟨rfl, ?_⟩)))

set_option maxRecDepth 20000 in
theorem sc_ok {Q : Exit → Act → World → Prop} (w0 : World) (rb : Nat) (xs : List UInt8) (hn : xs.length ≤ 1024) (ba : Option Addr) (bc : Nat) (na : Option Addr) (nc : Nat) (ys : List Int) (q : Addr) (hrb : w0.heap.size ≤ rb) (hb : Bs (.slice ba xs.length bc) xs w0) (hE : w0.cell? ⟨0, 0, none⟩ = some (errV q)) (a : Act) (W : World) (j k : Nat) (hk : k ≤ xs.length) (m : Nat) (hm : k + m ≤ xs.length) (pv : Value) (hp : Bs pv ((xs.drop k).take m) W)
    (hK : Fm 122 ((11, pv) :: (10, .int .i64 m) :: [(26, .int .i64 j), (6, .int .i64 k), (7, .bool false), (0, .slice ba xs.length bc), (1, .slice na ys.length nc), (5, ptr rb), (24, .slice na ys.length nc), (25, .int .i64 ys.length)]) a) (hSc : Sc w0 rb xs q (k + m) false W)
    (hN : ∀ a W k fl, k ≤ xs.length → Fm 122 [(26, .int .i64 j), (6, .int .i64 k), (7, .bool fl), (0, .slice ba xs.length bc), (1, .slice na ys.length nc), (5, ptr rb), (24, .slice na ys.length nc), (25, .int .i64 ys.length)] a → Sc w0 rb xs q k fl W → Q .normal a W) (hX : ∀ a W k fl, k ≤ xs.length → Fm 122 [(26, .int .i64 j), (6, .int .i64 k), (7, .bool fl), (0, .slice ba xs.length bc), (1, .slice na ys.length nc), (5, ptr rb), (24, .slice na ys.length nc), (25, .int .i64 ys.length)] a → Sc w0 rb xs q k fl W → Q (.exit 1) a W) (hP : ∀ c a d v w, Q (.panic c) (Act.put a d v) w → Q (.panic c) a w) :
    Code.wp Ybad.prog (codeOf Ybad.f4 [1, 1, 1, 1, 1, 0, 1, 5, 4, 1, 1, 0, 5, 1, 1, 1]) Q a W := by
  have _used := And.intro hn (And.intro hrb (And.intro hb (And.intro hE (And.intro hN (And.intro hX hP)))))
  obtain ⟨hF, ra, rl, rc, hr, hbs, hrc, hrl⟩ := hSc
  obtain ⟨pa, pc, rfl, hp2, _⟩ := id hp
  have hpl : ((xs.drop k).take m).length = m := by simp; omega
  show Code.wp _ (.seq (.seq (.region _ (opsOf Ybad.f4 [1, 1, 1, 1, 1, 0, 1, 5, 4, 1, 1, 0, 5, 1, 1, 1, 0, 0]) false) (codeOf Ybad.f4 [1, 1, 1, 1, 1, 0, 1, 5, 4, 1, 1, 0, 5, 1, 1, 1, 0, 1])) (codeOf Ybad.f4 [1, 1, 1, 1, 1, 0, 1, 5, 4, 1, 1, 0, 5, 1, 1, 1, 1])) _ _ _
  refine wp_seq (srg ?_)
  show wpList _ (opsOf Ybad.f4 [1, 1, 1, 1, 1, 0, 1, 5, 4, 1, 1, 0, 5, 1, 1, 1, 0, 0]) _ [opAt Ybad.f4 [1, 1, 1, 1, 1, 0, 1, 5, 4, 1, 1, 0, 5, 1, 1, 1, 0, 0] 0] _ _
  refine stMv hK (wn rfl) rfl rfl rfl (by decide) fun a hK => ?_
  show Code.wp _ (.cond (.tmp 35) (codeOf Ybad.f4 [1, 1, 1, 1, 1, 0, 1, 5, 4, 1, 1, 0, 5, 1, 1, 1, 0, 1, 2]) .skip) _ _ _
  refine wp_cond_false (hK.op rfl) (wp_skip ?_)
  show Code.wp _ (codeOf Ybad.f4 [1, 1, 1, 1, 1, 0, 1, 5, 4, 1, 1, 0, 5, 1, 1, 1, 1]) _ _ _
  show Code.wp _ (.seq (.seq (.region _ (opsOf Ybad.f4 [1, 1, 1, 1, 1, 0, 1, 5, 4, 1, 1, 0, 5, 1, 1, 1, 1, 0, 0]) false) (codeOf Ybad.f4 [1, 1, 1, 1, 1, 0, 1, 5, 4, 1, 1, 0, 5, 1, 1, 1, 1, 0, 1])) (codeOf Ybad.f4 [1, 1, 1, 1, 1, 0, 1, 5, 4, 1, 1, 0, 5, 1, 1, 1, 1, 1])) _ _ _
  refine wp_seq (srg ?_)
  show wpList _ (opsOf Ybad.f4 [1, 1, 1, 1, 1, 0, 1, 5, 4, 1, 1, 0, 5, 1, 1, 1, 1, 0, 0]) _ [opAt Ybad.f4 [1, 1, 1, 1, 1, 0, 1, 5, 4, 1, 1, 0, 5, 1, 1, 1, 1, 0, 0] 0, opAt Ybad.f4 [1, 1, 1, 1, 1, 0, 1, 5, 4, 1, 1, 0, 5, 1, 1, 1, 1, 0, 0] 1, opAt Ybad.f4 [1, 1, 1, 1, 1, 0, 1, 5, 4, 1, 1, 0, 5, 1, 1, 1, 1, 0, 0] 2, opAt Ybad.f4 [1, 1, 1, 1, 1, 0, 1, 5, 4, 1, 1, 0, 5, 1, 1, 1, 1, 0, 0] 3, opAt Ybad.f4 [1, 1, 1, 1, 1, 0, 1, 5, 4, 1, 1, 0, 5, 1, 1, 1, 1, 0, 0] 4, opAt Ybad.f4 [1, 1, 1, 1, 1, 0, 1, 5, 4, 1, 1, 0, 5, 1, 1, 1, 1, 0, 0] 5, opAt Ybad.f4 [1, 1, 1, 1, 1, 0, 1, 5, 4, 1, 1, 0, 5, 1, 1, 1, 1, 0, 0] 6, opAt Ybad.f4 [1, 1, 1, 1, 1, 0, 1, 5, 4, 1, 1, 0, 5, 1, 1, 1, 1, 0, 0] 7, opAt Ybad.f4 [1, 1, 1, 1, 1, 0, 1, 5, 4, 1, 1, 0, 5, 1, 1, 1, 1, 0, 0] 8, opAt Ybad.f4 [1, 1, 1, 1, 1, 0, 1, 5, 4, 1, 1, 0, 5, 1, 1, 1, 1, 0, 0] 9] _ _
  refine stMv hK (wn rfl) rfl rfl rfl (by decide) fun a hK => ?_
  refine stBin hK (wn rfl) rfl rfl rfl (lssF (by omega)) rfl (by decide) fun a hK => ?_
  refine stMv hK (wn rfl) rfl rfl rfl (by decide) fun a hK => ?_
  refine stMv hK (hK.wy rfl rfl rfl (by decide)) rfl rfl rfl (by decide) fun a hK => ?_
  refine stMv hK (hK.wy rfl rfl rfl (by decide)) rfl rfl rfl (by decide) fun a hK => ?_
  refine stLenS hK (hK.wy rfl rfl rfl (by decide)) rfl Ybad.underlying22 rfl rfl (by decide) fun a hK => ?_
  refine stMv hK (hK.wy rfl rfl rfl (by decide)) rfl rfl rfl (by decide) fun a hK => ?_
  refine stBin hK (hK.wy rfl rfl rfl (by decide)) rfl rfl rfl (int_sub (y := (xs.length : Int) - k) (by omega) (by omega) (by omega)) rfl (by decide) fun a hK => ?_
  refine stBin hK (hK.wy rfl rfl rfl (by decide)) rfl rfl rfl (gtrF (by omega)) rfl (by decide) fun a hK => ?_
  refine stPick hK (wn rfl) rfl rfl rfl rfl rfl (by decide) fun a hK => ?_
  show Code.wp _ (.cond (.tmp 55) (codeOf Ybad.f4 [1, 1, 1, 1, 1, 0, 1, 5, 4, 1, 1, 0, 5, 1, 1, 1, 1, 0, 1, 2]) .skip) _ _ _
  refine wp_cond_false (hK.op rfl) (wp_skip ?_)
  show Code.wp _ (codeOf Ybad.f4 [1, 1, 1, 1, 1, 0, 1, 5, 4, 1, 1, 0, 5, 1, 1, 1, 1, 1]) _ _ _
  show Code.wp _ (.seq (.seq (.region _ (opsOf Ybad.f4 [1, 1, 1, 1, 1, 0, 1, 5, 4, 1, 1, 0, 5, 1, 1, 1, 1, 1, 0, 0]) false) (codeOf Ybad.f4 [1, 1, 1, 1, 1, 0, 1, 5, 4, 1, 1, 0, 5, 1, 1, 1, 1, 1, 0, 1])) (codeOf Ybad.f4 [1, 1, 1, 1, 1, 0, 1, 5, 4, 1, 1, 0, 5, 1, 1, 1, 1, 1, 1])) _ _ _
  refine wp_seq (srg ?_)
  show wpList _ (opsOf Ybad.f4 [1, 1, 1, 1, 1, 0, 1, 5, 4, 1, 1, 0, 5, 1, 1, 1, 1, 1, 0, 0]) _ [opAt Ybad.f4 [1, 1, 1, 1, 1, 0, 1, 5, 4, 1, 1, 0, 5, 1, 1, 1, 1, 1, 0, 0] 0, opAt Ybad.f4 [1, 1, 1, 1, 1, 0, 1, 5, 4, 1, 1, 0, 5, 1, 1, 1, 1, 1, 0, 0] 1, opAt Ybad.f4 [1, 1, 1, 1, 1, 0, 1, 5, 4, 1, 1, 0, 5, 1, 1, 1, 1, 1, 0, 0] 2, opAt Ybad.f4 [1, 1, 1, 1, 1, 0, 1, 5, 4, 1, 1, 0, 5, 1, 1, 1, 1, 1, 0, 0] 3, opAt Ybad.f4 [1, 1, 1, 1, 1, 0, 1, 5, 4, 1, 1, 0, 5, 1, 1, 1, 1, 1, 0, 0] 4, opAt Ybad.f4 [1, 1, 1, 1, 1, 0, 1, 5, 4, 1, 1, 0, 5, 1, 1, 1, 1, 1, 0, 0] 5, opAt Ybad.f4 [1, 1, 1, 1, 1, 0, 1, 5, 4, 1, 1, 0, 5, 1, 1, 1, 1, 1, 0, 0] 6, opAt Ybad.f4 [1, 1, 1, 1, 1, 0, 1, 5, 4, 1, 1, 0, 5, 1, 1, 1, 1, 1, 0, 0] 7, opAt Ybad.f4 [1, 1, 1, 1, 1, 0, 1, 5, 4, 1, 1, 0, 5, 1, 1, 1, 1, 1, 0, 0] 8, opAt Ybad.f4 [1, 1, 1, 1, 1, 0, 1, 5, 4, 1, 1, 0, 5, 1, 1, 1, 1, 1, 0, 0] 9, opAt Ybad.f4 [1, 1, 1, 1, 1, 0, 1, 5, 4, 1, 1, 0, 5, 1, 1, 1, 1, 1, 0, 0] 10, opAt Ybad.f4 [1, 1, 1, 1, 1, 0, 1, 5, 4, 1, 1, 0, 5, 1, 1, 1, 1, 1, 0, 0] 11, opAt Ybad.f4 [1, 1, 1, 1, 1, 0, 1, 5, 4, 1, 1, 0, 5, 1, 1, 1, 1, 1, 0, 0] 12, opAt Ybad.f4 [1, 1, 1, 1, 1, 0, 1, 5, 4, 1, 1, 0, 5, 1, 1, 1, 1, 1, 0, 0] 13, opAt Ybad.f4 [1, 1, 1, 1, 1, 0, 1, 5, 4, 1, 1, 0, 5, 1, 1, 1, 1, 1, 0, 0] 14, opAt Ybad.f4 [1, 1, 1, 1, 1, 0, 1, 5, 4, 1, 1, 0, 5, 1, 1, 1, 1, 1, 0, 0] 15, opAt Ybad.f4 [1, 1, 1, 1, 1, 0, 1, 5, 4, 1, 1, 0, 5, 1, 1, 1, 1, 1, 0, 0] 16, opAt Ybad.f4 [1, 1, 1, 1, 1, 0, 1, 5, 4, 1, 1, 0, 5, 1, 1, 1, 1, 1, 0, 0] 17, opAt Ybad.f4 [1, 1, 1, 1, 1, 0, 1, 5, 4, 1, 1, 0, 5, 1, 1, 1, 1, 1, 0, 0] 18, opAt Ybad.f4 [1, 1, 1, 1, 1, 0, 1, 5, 4, 1, 1, 0, 5, 1, 1, 1, 1, 1, 0, 0] 19, opAt Ybad.f4 [1, 1, 1, 1, 1, 0, 1, 5, 4, 1, 1, 0, 5, 1, 1, 1, 1, 1, 0, 0] 20, opAt Ybad.f4 [1, 1, 1, 1, 1, 0, 1, 5, 4, 1, 1, 0, 5, 1, 1, 1, 1, 1, 0, 0] 21] _ _
  refine stMv hK (wn rfl) rfl rfl rfl (by decide) fun a hK => ?_
  refine stNil hK (wn rfl) rfl rfl rfl (by decide) fun a hK => ?_
  refine stFa hK (wn rfl) rfl rfl 1 (fun b w => by kernel_rfl) rfl (by decide) fun a hK => ?_
  refine stLd hK (wn rfl) rfl rfl ((cell_at hr 1).trans (rfl : _ = some Value.nilIface)) (fun w => by kernel_rfl) rfl (by decide) fun a hK => ?_
  refine stBin hK (wn rfl) rfl rfl rfl ((by kernel_rfl : _ = Result.ok (Value.bool false) _)) rfl (by decide) fun a hK => ?_
  refine stMv hK (wn rfl) rfl rfl rfl (by decide) fun a hK => ?_
  refine stMv hK (hK.wy rfl rfl rfl (by decide)) rfl rfl rfl (by decide) fun a hK => ?_
  refine stLenS hK (hK.wy rfl rfl rfl (by decide)) rfl Ybad.underlying22 rfl rfl (by decide) fun a hK => ?_
  refine stMv hK (hK.wy rfl rfl rfl (by decide)) rfl rfl rfl (by decide) fun a hK => ?_
  refine stBin hK (hK.wy rfl rfl rfl (by decide)) rfl rfl rfl (int_neq (by rw [hpl])) rfl (by decide) fun a hK => ?_
  refine stPick hK (wn rfl) rfl rfl rfl rfl rfl (by decide) fun a hK => ?_
  refine stMv hK (wn rfl) rfl rfl rfl (by decide) fun a hK => ?_
  refine stMv hK (hK.wy rfl rfl rfl (by decide)) rfl rfl rfl (by decide) fun a hK => ?_
  refine stMv hK (hK.wy rfl rfl rfl (by decide)) rfl rfl rfl (by decide) fun a hK => ?_
  refine stMv hK (hK.wy rfl rfl rfl (by decide)) rfl rfl rfl (by decide) fun a hK => ?_
  refine stMv hK (hK.wy rfl rfl rfl (by decide)) rfl rfl rfl (by decide) fun a hK => ?_
  refine stMv hK (hK.wy rfl rfl rfl (by decide)) rfl rfl rfl (by decide) fun a hK => ?_
  refine stBin hK (hK.wy rfl rfl rfl (by decide)) rfl rfl rfl (int_add (y := ((k + m : Nat) : Int)) (by omega) (by omega) (by omega)) rfl (by decide) fun a hK => ?_
  refine st hK (hK.wy rfl rfl rfl (by decide)) (run_slLH 22 _ _ _ rfl elem22 size22 ba xs.length bc k (k + m) (hK.op rfl) (hK.op rfl) (hK.op rfl) (by omega) (by have := hb.len; omega) _) rfl (by decide) fun a hK => ?_
  refine stCallW hK (hK.wy rfl rfl rfl (by decide)) rfl rfl (R := fun v w' => v = .bool true ∧ w' = W) (fun w => by kernel_rfl) ((equal_yes hp (by have h := (hb.keep hF).mid k (k + m) (by omega) (by omega); rwa [Nat.add_sub_cancel_left] at h)).mono fun _ _ h => ⟨_, h.1, rfl, h.2⟩) rfl (by decide) fun v a W' hR hK => ?_
  obtain ⟨rfl, rfl⟩ := hR
  refine stNot hK (hK.wy rfl rfl rfl (by decide)) rfl rfl rfl (by decide) fun a hK => ?_
  refine stPick hK (wn rfl) rfl rfl rfl rfl rfl (by decide) fun a hK => ?_
  show Code.wp _ (.cond (.tmp 99) (codeOf Ybad.f4 [1, 1, 1, 1, 1, 0, 1, 5, 4, 1, 1, 0, 5, 1, 1, 1, 1, 1, 0, 1, 2]) .skip) _ _ _
  refine wp_cond_false (hK.op rfl) (wp_skip ?_)
  show Code.wp _ (codeOf Ybad.f4 [1, 1, 1, 1, 1, 0, 1, 5, 4, 1, 1, 0, 5, 1, 1, 1, 1, 1, 1]) _ _ _
  show Code.wp _ (.seq (.region _ (opsOf Ybad.f4 [1, 1, 1, 1, 1, 0, 1, 5, 4, 1, 1, 0, 5, 1, 1, 1, 1, 1, 1, 0]) false) (codeOf Ybad.f4 [1, 1, 1, 1, 1, 0, 1, 5, 4, 1, 1, 0, 5, 1, 1, 1, 1, 1, 1, 1])) _ _ _
  refine srg ?_
  show wpList _ (opsOf Ybad.f4 [1, 1, 1, 1, 1, 0, 1, 5, 4, 1, 1, 0, 5, 1, 1, 1, 1, 1, 1, 0]) _ [opAt Ybad.f4 [1, 1, 1, 1, 1, 0, 1, 5, 4, 1, 1, 0, 5, 1, 1, 1, 1, 1, 1, 0] 0, opAt Ybad.f4 [1, 1, 1, 1, 1, 0, 1, 5, 4, 1, 1, 0, 5, 1, 1, 1, 1, 1, 1, 0] 1, opAt Ybad.f4 [1, 1, 1, 1, 1, 0, 1, 5, 4, 1, 1, 0, 5, 1, 1, 1, 1, 1, 1, 0] 2, opAt Ybad.f4 [1, 1, 1, 1, 1, 0, 1, 5, 4, 1, 1, 0, 5, 1, 1, 1, 1, 1, 1, 0] 3] _ _
  refine stMv hK (wn rfl) rfl rfl rfl (by decide) fun a hK => ?_
  refine stMv hK (wn rfl) rfl rfl rfl (by decide) fun a hK => ?_
  refine stBin hK (wn rfl) rfl rfl rfl (int_add (y := ((k + m : Nat) : Int)) (by omega) (by omega) (by omega)) rfl (by decide) fun a hK => ?_
  refine stAs hK (wn rfl) rfl rfl rfl (by decide) fun a hK => ?_
  show Code.wp _ (codeOf Ybad.f4 [1, 1, 1, 1, 1, 0, 1, 5, 4, 1, 1, 0, 5, 1, 1, 1, 1, 1, 1, 1]) _ _ _
  show Code.wp _ (.seq (.region _ (opsOf Ybad.f4 [1, 1, 1, 1, 1, 0, 1, 5, 4, 1, 1, 0, 5, 1, 1, 1, 1, 1, 1, 1, 0]) false) (.cond (.tmp 112) (codeOf Ybad.f4 [1, 1, 1, 1, 1, 0, 1, 5, 4, 1, 1, 0, 5, 1, 1, 1, 1, 1, 1, 1, 1, 2]) .skip)) _ _ _
  refine srg ?_
  show wpList _ (opsOf Ybad.f4 [1, 1, 1, 1, 1, 0, 1, 5, 4, 1, 1, 0, 5, 1, 1, 1, 1, 1, 1, 1, 0]) _ [opAt Ybad.f4 [1, 1, 1, 1, 1, 0, 1, 5, 4, 1, 1, 0, 5, 1, 1, 1, 1, 1, 1, 1, 0] 0, opAt Ybad.f4 [1, 1, 1, 1, 1, 0, 1, 5, 4, 1, 1, 0, 5, 1, 1, 1, 1, 1, 1, 1, 0] 1, opAt Ybad.f4 [1, 1, 1, 1, 1, 0, 1, 5, 4, 1, 1, 0, 5, 1, 1, 1, 1, 1, 1, 1, 0] 2, opAt Ybad.f4 [1, 1, 1, 1, 1, 0, 1, 5, 4, 1, 1, 0, 5, 1, 1, 1, 1, 1, 1, 1, 0] 3, opAt Ybad.f4 [1, 1, 1, 1, 1, 0, 1, 5, 4, 1, 1, 0, 5, 1, 1, 1, 1, 1, 1, 1, 0] 4, opAt Ybad.f4 [1, 1, 1, 1, 1, 0, 1, 5, 4, 1, 1, 0, 5, 1, 1, 1, 1, 1, 1, 1, 0] 5, opAt Ybad.f4 [1, 1, 1, 1, 1, 0, 1, 5, 4, 1, 1, 0, 5, 1, 1, 1, 1, 1, 1, 1, 0] 6, opAt Ybad.f4 [1, 1, 1, 1, 1, 0, 1, 5, 4, 1, 1, 0, 5, 1, 1, 1, 1, 1, 1, 1, 0] 7, opAt Ybad.f4 [1, 1, 1, 1, 1, 0, 1, 5, 4, 1, 1, 0, 5, 1, 1, 1, 1, 1, 1, 1, 0] 8, opAt Ybad.f4 [1, 1, 1, 1, 1, 0, 1, 5, 4, 1, 1, 0, 5, 1, 1, 1, 1, 1, 1, 1, 0] 9] _ _
  refine stMv hK (wn rfl) rfl rfl rfl (by decide) fun a hK => ?_
  refine stNil hK (wn rfl) rfl rfl rfl (by decide) fun a hK => ?_
  refine stFa hK (wn rfl) rfl rfl 0 (fun b w => by kernel_rfl) rfl (by decide) fun a hK => ?_
  refine stLd hK (wn rfl) rfl rfl ((cell_at hr 0).trans (rfl : _ = some (Value.slice ra rl rc))) (fun w => by kernel_rfl) rfl (by decide) fun a hK => ?_
  refine stLenS hK (wn rfl) rfl Ybad.underlying22 rfl rfl (by decide) fun a hK => ?_
  refine stMv hK (wn rfl) rfl rfl rfl (by decide) fun a hK => ?_
  refine stLenS hK (wn rfl) rfl Ybad.underlying22 rfl rfl (by decide) fun a hK => ?_
  refine stMv hK (wn rfl) rfl rfl rfl (by decide) fun a hK => ?_
  refine stBin hK (wn rfl) rfl rfl rfl (int_sub (y := (rl : Int)) (by omega) (by omega) (by omega)) rfl (by decide) fun a hK => ?_
  refine stBin hK (wn rfl) rfl rfl rfl (int_neq rfl) rfl (by decide) fun a hK => ?_
  show Code.wp _ (.cond (.tmp 112) (codeOf Ybad.f4 [1, 1, 1, 1, 1, 0, 1, 5, 4, 1, 1, 0, 5, 1, 1, 1, 1, 1, 1, 1, 1, 2]) .skip) _ _ _
  refine wp_cond_false (hK.op rfl) (wp_skip ?_)
  exact hN _ _ (k + m) false (by omega) (hK.sub _ (by repeat (first | exact trivial | refine ⟨rfl, ?_⟩))) (Sc.of hF hr hbs)

end Go.Proofs.YbulkaeqwDoor
