import Derived.Test.YbulkaeqiMaps
namespace Go.Proofs.Ybulkaeqi
open Go.RowKit
theorem zero84 (w : World) : (zeroValue 84).run Yba.prog w = .ok (.pointer none) w := by kernel_rfl
theorem zero78 (w : World) : (zeroValue 78).run Yba.prog w = .ok (.pointer none) w := by kernel_rfl
theorem find_one (x : Int) (v : Value) (b : Nat) : Instr.findNow (.int .u64) (.int .u64 x) [⟨.int .u64 x, v, b⟩] 0 = some (some (0, v)) := by
  simp [Instr.findNow, Instr.sameNow]
theorem erase_one (e : MapEntry) : #[e].eraseIdxIfInBounds 0 = #[] := by simp [Array.eraseIdxIfInBounds]
/-- settle, where nobody waits. -/
theorem settle_none (pb m2 : Nat) (pcs : Array Value) (fst : Int) (c : Nat) (w : World) (hp : w.heap[pb]? = some (.cells pcs 67 (0, 0))) (hp34 : pcs[34]? = some (.map (some m2))) (hm : w.heap[m2]? = some (.map #[] c)) :
    Calls Yba.prog 15 #[.pointer (some ⟨pb, 0, none⟩), .int .u64 fst] w fun e w' => e = .returned (.pointer none) ∧ w' = w := by
  have cp : w.cell? ⟨pb, 34, none⟩ = some (.map (some m2)) := by rw [cell_at hp]; exact hp34
  have hlook := look_miss 34 22 84 .u64 Yba.underlying34 Yba.underlying22 m2 fst #[] c (.pointer none) w hm rfl zero84
  have H : Hid _ := hlook
  clear hp hp34 hm hlook
  go_enter Yba.func15, Yba.ntmps15
  go_wp2_with (refine wpList_look 34 (.tmp 11) (.tmp 12) rfl rfl (.map (some m2)) (.int .u64 fst) (.tuple #[.pointer none, .bool false]) rfl rfl H.out ?_)
  go_ret
  exact ⟨rfl, rfl⟩
set_option maxRecDepth 20000 in
set_option maxHeartbeats 400000 in
/-- settle, where one waits: struck, its timer stopped. -/
theorem settle_some (pb m2 ab lb B : Nat) (pcs awc : Array Value) (xs : List Int) (hxs : xs.length ≤ 10) (fst : Int) (b c : Nat) (w : World) (hp : w.heap[pb]? = some (.cells pcs 67 (0, 0))) (hp34 : pcs[34]? = some (.map (some m2)))
    (hm : w.heap[m2]? = some (.map #[⟨.int .u64 fst, .pointer (some ⟨ab, 0, none⟩), b⟩] c)) (ha : w.heap[ab]? = some (.cells awc 87 (0, 0))) (ha22 : awc[22]? = some (.func (.func 10) #[] #[.pointer (some ⟨lb, 0, none⟩)])) (hlog : Log lb B xs w) :
    Calls Yba.prog 15 #[.pointer (some ⟨pb, 0, none⟩), .int .u64 fst] w fun e w' => e = .returned (.pointer (some ⟨ab, 0, none⟩)) ∧ Log lb B (xs ++ [2]) w' ∧ w'.heap[m2]? = some (.map #[] c) ∧ F3 B [lb, m2] w w' := by
  have cp : w.cell? ⟨pb, 34, none⟩ = some (.map (some m2)) := by rw [cell_at hp]; exact hp34
  have hlook := look_hit 34 22 84 .u64 Yba.underlying34 Yba.underlying22 m2 fst _ c 0 (.pointer (some ⟨ab, 0, none⟩)) w hm (find_one _ _ _)
  have hdel : (Builtin.delete_ #[34, 22] 0 #[.map (some m2), .int .u64 fst]).run Yba.prog w = .ok (.tuple #[]) (setB w m2 (.map #[] c)) := by
    have := del_hit 34 22 84 0 .u64 Yba.underlying34 Yba.underlying22 m2 fst _ c 0 (.pointer (some ⟨ab, 0, none⟩)) w hm (find_one _ _ _)
    rwa [erase_one] at this
  have f1 : Fr [m2] w (setB w m2 (.map #[] c)) := fr_setB w m2 _
  have hab : ab ≠ m2 := fun e => by subst e; rw [hm] at ha; cases ha
  have hlbm : lb ≠ m2 := fun e => by obtain ⟨v, h, _⟩ := hlog; subst e; rw [hm] at h; cases h
  have ha1 := f1.keep ha (by simpa using hab)
  have ca : (setB w m2 (.map #[] c)).cell? ⟨ab, 22, none⟩ = some (.func (.func 10) #[] #[.pointer (some ⟨lb, 0, none⟩)]) := by rw [cell_at ha1]; exact ha22
  have hlog1 : Log lb B xs (setB w m2 (.map #[] c)) := hlog.keep f1 (by simpa using hlbm) (fun k hk => .inr (fun cs fr e => by
    obtain rfl : k = m2 := by simpa using hk
    rw [hm] at e; cases e))
  have hm1 := heap_setB w m2 (.map #[] c) (lt_of_block hm)
  have H : Hid _ := And.intro hlook (And.intro hdel (And.intro f1 (And.intro hlog1 hm1)))
  clear hp hp34 hm hlook hdel f1 hlog1 hm1 ha ha22 ha1 hlog
  go_enter Yba.func15, Yba.ntmps15
  go_wp2_with (first
    | (refine wpList_look 34 (.tmp 11) (.tmp 12) rfl rfl (.map (some m2)) (.int .u64 fst) (.tuple #[.pointer (some ⟨ab, 0, none⟩), .bool true]) rfl rfl H.out.1 ?_)
    | (refine wpList_del 34 22 (.tmp 21) (.tmp 22) rfl rfl (.map (some m2)) (.int .u64 fst) (setB w m2 (.map #[] c)) rfl rfl H.out.2.1 ?_))
  refine (push10 lb B xs hxs _ H.out.2.2.2.1).mono ?_
  rintro e w1 ⟨rfl, hl1, hf1⟩
  have H2 : Hid _ := And.intro hl1 hf1
  clear hl1 hf1 ca
  go_wp2
  go_ret
  obtain ⟨hl1, hf1⟩ := H2.out
  obtain ⟨_, _, f1, _, hm1⟩ := H.out
  exact ⟨rfl, hl1, hf1.keepM hm1 (by simpa using hlbm.symm), (F3.of_fr (f1.mono (by simp))).trans (hf1.mono (by simp))⟩
end Go.Proofs.Ybulkaeqi
