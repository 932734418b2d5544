import Derived.Test.YbulkaevsFmtCheck
namespace Go.Proofs.YbulkaevsFmt
open Go.RowKit Go.Extern.Stop Go.Stop Go.Extern
set_option maxRecDepth 20000 in
theorem check_zero (F : Interp) (q : Addr) (s : ByteArray) (ao : Option Addr) (c : Nat) (w : World) (hF : F.answers w.tape) (hE : w.cell? ⟨0, 0, none⟩ = some (errV q)) (hqA : ∀ o, (w.alloc o).cell? q = some (.string s)) :
    Calls Ybaf.prog 6 #[.slice ao 0 c] w fun e w' => ∃ v, e = .returned v ∧ Wrapped q w v w' := by
  unfold errV at hE
  go_enter Ybaf.func6, Ybaf.ntmps6
  go_wp2_with (go_at_call 9; refine (errorf1 F q s w.heap.size _ (by exact hF) (by simp) (hqA _)).mono ?_; rintro e w' ⟨v, rfl, hW⟩)
  go_ret
  exact ⟨_, rfl, ((Fr.refl [] w).alloc _).trans hW.1, hW.2⟩
/-- CheckPayload, every way. -/
theorem check (F : Interp) (q : Addr) (s : ByteArray) (ad : Addr) (n c : Nat) (hn : 0 < n) (hn2 : n ≤ 4194304) (b : Int) (h0b : 0 ≤ b) (w : World) (hF : F.answers w.tape) (hE : w.cell? ⟨0, 0, none⟩ = some (errV q)) (hqA : ∀ o, (w.alloc o).cell? q = some (.string s)) (hb : w.cell? ad = some (.int .u8 b)) :
    Calls Ybaf.prog 6 #[.slice (some ad) n c] w fun e w' => ∃ v, e = .returned v ∧ (if okP n b = true then v = .nilIface ∧ w' = w else Wrapped q w v w') := by
  by_cases h3 : 3 ≤ b
  · have hk : ¬ okP n b = true := by unfold okP; rw [if_neg (by omega), if_neg (by omega), if_neg (by omega)]; decide
    exact (bad_kind F q s ad n c hn hn2 b h0b w hF hE hqA hb h3).mono fun e w' ⟨v, he, h⟩ => ⟨v, he, by rw [if_neg hk]; exact h⟩
  · by_cases h0 : b = 0
    · by_cases h4 : n ≤ 1048577
      · have hk : okP n b = true := by simp [okP, h0]; omega
        exact (good_app F q s ad n c hn hn2 b h0b w hF hE hqA hb h0 h4).mono fun e w' ⟨he, h⟩ => ⟨_, he, by rw [if_pos hk]; exact ⟨rfl, h⟩⟩
      · have hk : ¬ okP n b = true := by simp [okP, h0]; omega
        exact (bad_app F q s ad n c hn hn2 b h0b w hF hE hqA hb h0 (by omega)).mono fun e w' ⟨v, he, h⟩ => ⟨v, he, by rw [if_neg hk]; exact h⟩
    · have h12 : b = 1 ∨ b = 2 := by omega
      by_cases h4 : n < 9
      · have hk : ¬ okP n b = true := by simp [okP, h0, h12]; omega
        exact (bad_small F q s ad n c hn hn2 b h0b w hF hE hqA hb h12 h4).mono fun e w' ⟨v, he, h⟩ => ⟨v, he, by rw [if_neg hk]; exact h⟩
      · by_cases h5 : n ≤ 1033
        · have hk : okP n b = true := by simp [okP, h0, h12]; omega
          exact (good_lock F q s ad n c hn hn2 b h0b w hF hE hqA hb h12 (by omega) h5).mono fun e w' ⟨he, h⟩ => ⟨_, he, by rw [if_pos hk]; exact ⟨rfl, h⟩⟩
        · have hk : ¬ okP n b = true := by simp [okP, h0, h12]; omega
          exact (bad_big F q s ad n c hn hn2 b h0b w hF hE hqA hb h12 (by omega)).mono fun e w' ⟨v, he, h⟩ => ⟨v, he, by rw [if_neg hk]; exact h⟩
end Go.Proofs.YbulkaevsFmt
