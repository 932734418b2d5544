import Derived.Test.YbulkaeqiVisit
import Derived.BigQuiet
import Derived.Deep.QuietTactic
namespace Go.Proofs.Ybulkaeqi
open Go.RowKit
theorem patheq_no (path : Value) (s : ByteArray) (w : World) (a : Option Addr) (c : Nat) :
    Calls Yba.prog 6 #[.slice a 0 c, path, .string s, .bool false] w fun e w' => e = .returned (.bool true) ∧ Fr [] w w' := by
  go_enter Yba.func6, Yba.ntmps6
  go_wp2
  go_ret
  exact ⟨rfl, Fr.refl _ _⟩
set_option maxRecDepth 20000 in
set_option maxHeartbeats 400000 in
theorem patheq_yes (g cap : Nat) (b off n c : Nat) (S : Nat → ByteArray) (s : ByteArray) (hn : n ≤ 1024) (w : World)
    (hg : ∀ j, j < n → w.cell? ⟨g, j, none⟩ = some (.string (S j))) (hgn : w.cell? ⟨g, n, none⟩ = some (.string s)) (hp : ∀ j, j < n → w.cell? ⟨b, off + j, none⟩ = some (.string (S j))) :
    Calls Yba.prog 6 #[.slice (some ⟨g, 0, none⟩) (n + 1) cap, .slice (some ⟨b, off, none⟩) n c, .string s, .bool true] w fun e w' => e = .returned (.bool true) ∧ Fr [] w w' := by
  have hnb : ((n : Int) + 1 != (n : Int) + 1) = false := by simp
  go_enter Yba.func6, Yba.ntmps6
  go_wp2
  go_loopw [9] (fun i wr => ∃ k m : Nat, k ≤ n ∧ i = .int .i64 k ∧ wr = w.drewN m) (fun i _ => n - (intOf i).toNat)
  case atStart => exact ⟨0, 0, Nat.zero_le _, rfl, rfl⟩
  case round =>
    obtain ⟨k, m, hk, rfl, rfl⟩ := hrel
    by_cases hlt : k < n
    · have c1 := hg k hlt
      have c2 := hp k hlt
      have hl1 : (k : Int) < (n : Int) := by omega
      have hl2 : (k : Int) < (n : Int) + 1 := by omega
      clear hg hp
      go_wp2
      go_quiet (fail)
      go_wp2
      go_roundw
      case rel => exact ⟨k + 1, _, by omega, by go_num, rfl⟩
      case measure => simp [intOf]; omega
    · have hkn : k = n := by omega
      subst hkn
      go_wp2
      go_ret
      exact ⟨rfl, (Fr.refl _ _).drewN _⟩
set_option maxRecDepth 20000 in
set_option maxHeartbeats 400000 in
theorem patheq_zero (g cap c : Nat) (ao : Option Addr) (s : ByteArray) (w : World) (hgn : w.cell? ⟨g, 0, none⟩ = some (.string s)) :
    Calls Yba.prog 6 #[.slice (some ⟨g, 0, none⟩) 1 cap, .slice ao 0 c, .string s, .bool true] w fun e w' => e = .returned (.bool true) ∧ Fr [] w w' := by
  go_enter Yba.func6, Yba.ntmps6
  go_wp2
  refine wp_loop_rounds 1 ?_
  rw [rounds_succ]
  go_wp2
  go_ret
  exact ⟨rfl, Fr.refl _ _⟩
/-- got holds path's strings and one more, s: 'true'. -/
theorem patheq_any (g cap n c : Nat) (ao : Option Addr) (strs : List Value) (s : ByteArray) (hn : strs.length = n) (hn2 : n ≤ 1024) (hstr : ∀ u ∈ strs, ∃ t, u = .string t) (w : World) (cur : Array Value) (hg : w.heap[g]? = some (.cells cur 9 (0, 0)))
    (htk : cur.toList.take (n + 1) = strs ++ [.string s]) (hao : ao = none → n = 0) (hold : ∀ b, ao = some b → ∀ j u, strs[j]? = some u → w.cell? (b.add j) = some u) :
    Calls Yba.prog 6 #[.slice (some ⟨g, 0, none⟩) (n + 1) cap, .slice ao n c, .string s, .bool true] w fun e w' => e = .returned (.bool true) ∧ Fr [] w w' := by
  have hc : ∀ j u, (strs ++ [.string s])[j]? = some u → w.cell? ⟨g, j, none⟩ = some u := fun j u hj => by rw [cell_at hg]; exact take_cell htk hj
  have hlast : w.cell? ⟨g, n, none⟩ = some (.string s) := hc n _ (by subst hn; simp)
  by_cases h0 : n = 0
  · subst h0
    exact patheq_zero g cap c ao s w hlast
  · cases ao with
    | none => exact absurd (hao rfl) h0
    | some ad =>
      have hget : ∀ j, j < n → ∃ t, strs[j]? = some (.string t) := fun j hj => by
        have hj' : j < strs.length := by omega
        obtain ⟨t, ht⟩ := hstr strs[j] (List.getElem_mem hj')
        exact ⟨t, by rw [List.getElem?_eq_getElem hj', ht]⟩
      obtain ⟨S, hS⟩ : ∃ S : Nat → ByteArray, ∀ j, j < n → strs[j]? = some (.string (S j)) :=
        ⟨fun j => if h : j < n then (hget j h).choose else ByteArray.empty, fun j hj => by simp only [hj, dif_pos]; exact (hget j hj).choose_spec⟩
      obtain ⟨b, off, spot⟩ := ad
      have hspot : spot = none := by simpa [Addr.add] using World.cell?_spot (hold _ rfl 0 _ (hS 0 (by omega)))
      subst hspot
      refine patheq_yes g cap b off n c S s hn2 w (fun j hj => hc j _ ?_) hlast (fun j hj => ?_)
      · rw [List.getElem?_append_left (by omega)]; exact hS j hj
      · have := hold _ rfl j _ (hS j hj)
        rwa [Addr.add_mid] at this
end Go.Proofs.Ybulkaeqi
