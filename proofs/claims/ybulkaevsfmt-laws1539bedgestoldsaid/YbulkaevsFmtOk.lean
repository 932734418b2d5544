import Derived.Test.YbulkaevsFmtErrorf
import Derived.Test.YbulkaevsFmtIs
namespace Go.Proofs.YbulkaevsFmt
open Go.RowKit Go.Extern.Stop Go.Stop Go.Extern
/-- Which payloads are lawful. -/
def okP (n : Nat) (b : Int) : Bool := if n = 0 then false else if b = 0 then decide (n ≤ 1048577) else if b = 1 ∨ b = 2 then decide (9 ≤ n ∧ n ≤ 1033) else false
set_option maxRecDepth 20000 in
theorem ok_zero (ao : Option Addr) (c : Nat) (w : World) : Calls Ybaf.prog 7 #[.slice ao 0 c] w fun e w' => e = .returned (.bool false) ∧ w' = w := by
  go_enter Ybaf.func7, Ybaf.ntmps7
  go_wp2
  go_ret
  exact ⟨rfl, rfl⟩
set_option maxRecDepth 20000 in
theorem ok_some (ad : Addr) (n c : Nat) (hn : 0 < n) (hn2 : n ≤ 4194304) (b : Int) (w : World) (hb : w.cell? ad = some (.int .u8 b)) : Calls Ybaf.prog 7 #[.slice (some ad) n c] w fun e w' => e = .returned (.bool (okP n b)) ∧ w' = w := by
  have h0 : ¬ n = 0 := by omega
  go_enter Ybaf.func7, Ybaf.ntmps7
  go_wp2
  all_goals (go_ret; refine ⟨?_, rfl⟩; simp_all [okP])
  all_goals (try omega)
  all_goals (rw [← Bool.decide_and]; exact decide_eq_decide.2 (by omega))
end Go.Proofs.YbulkaevsFmt
