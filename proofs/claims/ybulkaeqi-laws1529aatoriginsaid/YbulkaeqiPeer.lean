import Derived.Test.YbulkaeqiAnswerTo
import Derived.Deep.Cut
namespace Go.Proofs.Ybulkaeqi
open Go.RowKit
theorem bytes_refl (s : ByteArray) : (s == s) = true := by rw [beq_toListBytes]; simp
theorem guard31 (op : BinOp) (x y : Operand) (a b : Array Value) (w : World) : (eqGuard op 31 x y (.agg a) (.agg b)).run Yba.prog w = .ok () w := by cases op <;> kernel_rfl
theorem eqID (d : Nat) (w : World) : (Op.equalIn (d + 2) 29 (.agg (idL 0).toArray) (.agg (idL 0).toArray)).run Yba.prog w = .ok true w := by kernel_rfl
theorem part0 (s : ByteArray) (w : World) : (part 29 (contactL 0 s).toArray 0).run Yba.prog w = .ok (.agg (idL 0).toArray) w := by kernel_rfl
theorem part1 (s : ByteArray) (w : World) : (part 9 (contactL 0 s).toArray 20).run Yba.prog w = .ok (.string s) w := by kernel_rfl
theorem eqStr (d : Nat) (s : ByteArray) (w : World) : (Op.equalIn (d + 1) 9 (.string s) (.string s)).run Yba.prog w = .ok true w := by
  have : (Op.equalIn (d + 1) 9 (.string s) (.string s)).run Yba.prog w = .ok (s == s) w := by kernel_rfl
  rw [this, bytes_refl]
theorem fields31 : ∃ f g : Field, (Yba.prog.fieldsOf 31).toList = [f, g] ∧ f.name ≠ "_" ∧ f.type = 29 ∧ f.offset = 0 ∧ g.name ≠ "_" ∧ g.type = 9 ∧ g.offset = 20 := by
  have h : (Yba.prog.fieldsOf 31).toList.length = 2 := by kernel_rfl
  have h1 : (((Yba.prog.fieldsOf 31).toList[0]?).map fun f => (decide (f.name ≠ "_"), f.type, f.offset)) = some (true, 29, 0) := by kernel_rfl
  have h2 : (((Yba.prog.fieldsOf 31).toList[1]?).map fun f => (decide (f.name ≠ "_"), f.type, f.offset)) = some (true, 9, 20) := by kernel_rfl
  generalize (Yba.prog.fieldsOf 31).toList = l at *
  match l, h with
  | [f, g], _ =>
    simp at h1 h2
    exact ⟨f, g, rfl, h1.1, h1.2.1, h1.2.2, h2.1, h2.2.1, h2.2.2⟩
theorem eq_self (s : ByteArray) (w : World) : (Op.equalIn 10000 31 (.agg (contactL 0 s).toArray) (.agg (contactL 0 s).toArray)).run Yba.prog w = .ok true w := by
  rw [run_equalIn_struct w 9999 31 _ _ (by kernel_rfl) (by kernel_rfl)]
  obtain ⟨f, g, hf, a1, a2, a3, b1, b2, b3⟩ := fields31
  rw [hf]
  simp [Op.eqFields, a1, a2, a3, b1, b2, b3, part0, part1, eqID 9997, eqStr 9998]
theorem neq_self (s : ByteArray) (x y : Operand) (w : World) : (do eqGuard .neq 31 x y (.agg (contactL 0 s).toArray) (.agg (contactL 0 s).toArray); binOp .neq 31 (.agg (contactL 0 s).toArray) (.agg (contactL 0 s).toArray) : Sem Value).run Yba.prog w = .ok (.bool false) w := by
  rw [Sem.run_bind, guard31, Result.andThen_ok]
  have h : (Op.equal 31 (.agg (contactL 0 s).toArray) (.agg (contactL 0 s).toArray)).run Yba.prog w = .ok true w := eq_self s w
  simp [binOp, h]
theorem eql_self (s : ByteArray) (x y : Operand) (w : World) : (do eqGuard .eql 31 x y (.agg (contactL 0 s).toArray) (.agg (contactL 0 s).toArray); binOp .eql 31 (.agg (contactL 0 s).toArray) (.agg (contactL 0 s).toArray) : Sem Value).run Yba.prog w = .ok (.bool true) w := by
  rw [Sem.run_bind, guard31, Result.andThen_ok]
  have h : (Op.equal 31 (.agg (contactL 0 s).toArray) (.agg (contactL 0 s).toArray)).run Yba.prog w = .ok true w := eq_self s w
  simp [binOp, h]

theorem wpList_neq_self {ops : Array Oper} {rest : List Oper} {o : Oper} {a : Act} {w : World} {Q : Exit → Act → World → Prop} (s : ByteArray) (ho : o.op = .binOp .neq 31 (.tmp 94) (.tmp 95) 31) (hw : Region.wanted o (yielded ops a.tmps) = true)
    (hx : a.eval (.tmp 94) = .agg (contactL 0 s).toArray) (hy : a.eval (.tmp 95) = .agg (contactL 0 s).toArray) (h : wpList Yba.prog ops Q rest (a.put o.dst (.bool false)) w) : wpList Yba.prog ops Q (o :: rest) a w :=
  wpList_want_bin .neq 31 (.tmp 94) (.tmp 95) 31 ho hw _ _ _ hx hy (neq_self s _ _ w) h
theorem row31 : RowType Yba.prog 31 21 := .mk' Yba.underlying31 rfl (by kernel_rfl)
theorem row73 : RowType Yba.prog 73 112 := .mk' Yba.underlying73 rfl (by kernel_rfl)
def peerL (s : ByteArray) (nb m1 m2 : Nat) : List Value := contactL 0 s ++ [.iface 24 (.pointer (some ⟨nb, 0, none⟩)), .pointer none, .nilFunc, nilS, .map none, .map none, .int .i64 0, .map none, nilS, .map none, .int .u64 0, .int .u64 0,
  .map (some m1), .map (some m2), .pointer none, .map none, nilS, .map none, .bool false, .bool false, .map none, .bool false, .int .i64 0, .pointer none, .pointer none, .nilFunc, .int .i64 0, nilS, .map none, .int .u64 0, .int .i64 0, .bool false, .map none, .int .i64 0, .int .i64 0, .bool false]
theorem build_peer (s : ByteArray) (nb m1 m2 : Nat) (w : World) : (Instr.build 67 #[(0, .agg (contactL 0 s).toArray), (1, .iface 24 (.pointer (some ⟨nb, 0, none⟩))), (7, .map (some m1)), (8, .map (some m2))]).run Yba.prog w = .ok (.agg (peerL s nb m1 m2).toArray) w := by kernel_rfl
theorem build_msg (kind req hops x : Int) (t : ByteArray) (a : Option Addr) (n c : Nat) (w : World) : (Instr.build 73 #[(0, .int .i64 kind), (1, .int .u64 req), (2, .agg (contactL x t).toArray), (6, .int .i64 hops), (10, .slice a n c)]).run Yba.prog w = .ok (.agg (msgL kind req (contactL x t) hops (.slice a n c) false (contactL 0 ByteArray.empty)).toArray) w := by kernel_rfl
theorem law_long (s t : ByteArray) (req hops : Int) (found loc : Bool) (ao : Option Addr) (n c : Nat) (hn : 1024 < n) (hm : n ≤ maxLen) (w : World) :
    Calls Yba.prog 3 #[.string s, .string t, .int .u64 req, .int .i64 hops, .bool found, .bool loc, .slice ao n c] w fun e w' => e = .returned (.bool true) ∧ Fr [] w w' := by
  unfold maxLen at hm
  go_enter Yba.func3, Yba.ntmps3
  go_wp2
  go_ret
  exact ⟨rfl, Fr.refl _ _⟩
end Go.Proofs.Ybulkaeqi
