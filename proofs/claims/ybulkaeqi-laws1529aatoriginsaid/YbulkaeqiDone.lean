import Derived.Test.YbulkaeqiLog
namespace Go.Proofs.Ybulkaeqi
open Go.RowKit
def resL (found : Bool) (s : ByteArray) (hops : Int) (path : Value) : List Value := [.bool found] ++ contactL 0 s ++ [.int .i64 hops, path]
def zeroRes : Value := .agg (resL false ByteArray.empty 0 nilS).toArray
theorem Yba.info80 : (Yba.prog.info? 80).map (fun i => (i.zero, i.size, i.bytes)) = some (some zeroRes, 24, 80) := by kernel_rfl
theorem row80 : RowType Yba.prog 80 24 := .mk' Yba.underlying80 rfl (by kernel_rfl)
/-- What 'done' leaves. -/
def Done (lb rb B : Nat) (xs : List Int) (rcs : List Value) (w w' : World) : Prop :=
  Log lb B (xs ++ [1]) w' ∧ F3 B [lb, rb] w w' ∧ ∃ g c cur, w'.heap[g]? = some (.cells cur 80 (0, 0)) ∧ cur.toList.take 24 = rcs ∧ w'.heap[rb]? = some (.cells #[.slice (some ⟨g, 0, none⟩) 1 c] 77 (0, 0))
set_option maxRecDepth 20000 in
set_option maxHeartbeats 800000 in
theorem done7 (lb rb B : Nat) (xs : List Int) (hxs : xs.length ≤ 10) (rcs : List Value) (hl : rcs.length = 24) (hone : ∀ u ∈ rcs, u.oneCell' = true) (w : World) (hlog : Log lb B xs w) (hr : w.heap[rb]? = some (.cells #[.slice none 0 0] 77 (0, 0))) :
    Calls Yba.prog 7 #[.agg rcs.toArray, .pointer (some ⟨lb, 0, none⟩), .pointer (some ⟨rb, 0, none⟩)] w fun e w' => e = .returned (.tuple #[]) ∧ Done lb rb B xs rcs w w' := by
  obtain ⟨i0, hi, hz0, hz1, hz2⟩ := info_parts Yba.info3
  obtain ⟨i1, hi1, hy0, hy1, hy2⟩ := info_parts Yba.info80
  have fA := (Fr.refl [] w).alloc (.cells rcs.toArray 80)
  have hlogA : Log lb B xs (w.alloc (.cells rcs.toArray 80)) := hlog.keep fA (by simp) (by simp)
  have hrA := fA.keep hr (by simp)
  have hlb : lb < w.heap.size := by obtain ⟨v, h, _⟩ := hlog; exact lt_of_block h
  have hrb : rb < w.heap.size := lt_of_block hr
  have hlr : rb ≠ lb := fun e => by
    obtain ⟨v, h, _⟩ := hlog
    subst e; rw [hr] at h; cases h
  obtain ⟨v, hv, hown, hB⟩ := hlogA
  have hc : w.cell? ⟨lb, 0, none⟩ = some v := by
    have := cell_at hv 0
    rw [fA.cell hlb (by simp)] at this; simpa using this
  have H : Hid _ := And.intro hv (And.intro hown (And.intro hB (And.intro hrA (And.intro fA (And.intro hl hone)))))
  clear hv hown hB hrA fA hl hone hlog hr
  go_enter Yba.func7, Yba.ntmps7
  go_wp2_with (first | (at_builtin; refine wpList_append_own _ rfl (.tmp 4) (.tmp 5) 76 rfl B 3 i0 (.int .i64 0) 1 8 Yba.underlying76 hi hz0 hz1 hz2 rfl (by decide) v xs.length (xs.map (Value.int .i64)) rfl (H.out.2.1.alloc _) ⟨w.heap.size + 1, 0, none⟩ 1 1 [.int .i64 1] rfl rfl ?c1 ?c2 ?c3 ?c4 ?c5 ?_))
  case c1 => intro j u hj; match j, hj with | 0, hj => (simp at hj; subst hj; simp [Addr.add])
  case c2 => intro u hu; simp at hu; subst hu; rfl
  case c3 => unfold maxLen; omega
  case c4 => omega
  case c5 => have := H.out.2.2.1; simp at this ⊢; omega
  intro v' w1 hown' hgrow _
  obtain ⟨hv, hown, hB, hrA, fA, hl, hone⟩ := H.out
  obtain ⟨⟨hlog2, hf2⟩, hl1⟩ := pushed_of hv hown hB hown' hgrow
  obtain ⟨g, cap, cur, hv', _⟩ := own_form hown'
  have c1 : w1.cell? ⟨lb, 0, none⟩ = some v := by rw [cell_at hl1]; rfl
  have f1 : w1.frozen? ⟨lb, 0, none⟩ = false := free_at hl1 0
  have hr2 := hf2.keepT hrA (by simpa using hlr) (by decide)
  have hb2 := hf2.keepT (heap_alloc_new w (.cells rcs.toArray 80)) (by simp; omega) (by decide)
  subst hv'
  have cr : (w1.setCell ⟨lb, 0, none⟩ (.slice (some ⟨g, 0, none⟩) (xs.length + 1) cap)).cell? ⟨rb, 0, none⟩ = some (.slice none 0 0) := by rw [cell_at hr2]; rfl
  have HP : Hid _ := And.intro hlog2 (And.intro hf2 (And.intro hr2 (And.intro hb2 (And.intro fA (And.intro hl hone)))))
  have hsz1 : i1.size = rcs.toArray.size := by rw [hy1]; simp [hl]
  have hsz2 : zeroRes.cells.size = rcs.toArray.size := by simp [hl]; rfl
  have HQ : Hid _ := And.intro hsz1 hsz2
  clear hown' hgrow hc hl1 hlog2 hf2 hr2 hb2 fA hl hone H hv hown hB hrA hsz1 hsz2
  go_upto_region 2 with fail
  generalize (w1.setCell ⟨lb, 0, none⟩ (.slice (some ⟨g, 0, none⟩) (xs.length + 1) cap)) = w2 at *
  clear c1 f1
  go_wp2_with (first
    | (refine wpList_want_load 80 (.tmp 3) rfl rfl w.heap.size 0 rfl rcs 24 HP.out.2.2.2.2.2.1 row80 (range_at HP.out.2.2.2.1) ?_)
    | (refine wpList_want_slice1 77 (.tmp 8) rfl rfl 80 i1 zeroRes rcs.toArray rfl Yba.underlying77 hi1 hy0 HQ.out.1 HQ.out.2 (by rw [List.size_toArray, HP.out.2.2.2.2.2.1]; decide) (by rw [List.size_toArray, HP.out.2.2.2.2.2.1]; decide) ?_)
    | (at_builtin; refine wpList_append_own _ rfl (.tmp 7) (.tmp 9) 77 rfl B 80 i1 zeroRes 24 80 Yba.underlying77 hi1 hy0 hy1 hy2 rfl (by decide) (.slice none 0 0) 0 [] rfl (World.ownsRow_nil _ _ _ _) ⟨w2.heap.size, 0, none⟩ 1 1 rcs rfl (by rw [HP.out.2.2.2.2.2.1]) ?d1 HP.out.2.2.2.2.2.2 ?d3 ?d4 ?d5 ?_))
  case d1 => intro j u hj; rw [Addr.add_mid]; exact range_at (t := 80) (fr := (0, 0)) (heap_alloc_new w2 _) j u hj
  case d3 => decide
  case d4 => decide
  case d5 => have h1 := HP.out.1; obtain ⟨_, _, _, h2⟩ := h1; simp; omega
  intro v2 w3 hown3 hgrow3 _
  obtain ⟨hlog2, hf2, hr2, hb2, fA, hl, hone⟩ := HP.out
  obtain ⟨g2, cap2, cur2, hv2, hg2, hcur2, htk2, _⟩ := own_form hown3
  have f3 : Fr [] w2 w3 := ((Fr.refl [] w2).alloc _).grown hgrow3 (fun _ h => by cases h)
  have hr3 := f3.keep hr2 (by simp)
  have c3 : w3.cell? ⟨rb, 0, none⟩ = some (.slice none 0 0) := by rw [cell_at hr3]; rfl
  have e3 : w3.frozen? ⟨rb, 0, none⟩ = false := free_at hr3 0
  have hgr : g2 ≠ rb := fun e => by subst e; rw [hr3] at hcur2; cases hcur2
  have hlog3 := hlog2.keep f3 (by simp) (by simp)
  have f4 : Fr [rb] w2 (w3.setCell ⟨rb, 0, none⟩ (.slice (some ⟨g2, 0, none⟩) 1 cap2)) := (f3.mono (by simp)).setCell _ (.inl (by simp)) _
  have hlog4 : Log lb B (xs ++ [1]) (w3.setCell ⟨rb, 0, none⟩ (.slice (some ⟨g2, 0, none⟩) 1 cap2)) := hlog2.keep f4 (by simpa using fun e => hlr e.symm) (fun k hk => .inr (fun cs fr e => by
    obtain rfl : k = rb := by simpa using hk
    rw [hr2] at e; cases e))
  have HZ : Hid _ := And.intro hlog4 (And.intro (((F3.of_fr (fA.mono (l' := [lb, rb]) (by simp))).trans (hf2.mono (by simp))).trans (F3.of_fr (f4.mono (by simp)))) (And.intro hr3 (And.intro hcur2 htk2)))
  clear hlog2 hf2 hr2 hb2 fA hl hone hown3 hgrow3 f3 hlog3 f4 hlog4 hr3 hcur2 htk2 HP HQ cr
  subst hv2
  go_wp2
  go_end0
  obtain ⟨z1, z2, z3, z4, z5⟩ := HZ.out
  refine ⟨rfl, z1, z2, g2, cap2, cur2, ?_, by simpa using z5, ?_⟩
  · rw [heap_setCell_other _ _ _ _ hgr]; exact z4
  · rw [heap_setCell_same _ _ _ _ _ _ z3]; rfl
end Go.Proofs.Ybulkaeqi
