/-
  What fmt's stopped front gives at this program's three formats: closed facts, after the guide's worked text Derived/Test/SentryFmt.lean; and fmt.Errorf by its contracts.
-/
import Derived.Test.YbulkaevsFmtRows
import Derived.Test.YbulkaevsFmtBase
import Derived.Stop.CallBack
import Derived.Stop.IfaceNil
import Derived.WalkKit
import Derived.WalkSpells
namespace Go.Proofs.YbulkaevsFmt
open Go.RowKit Go.Extern.Stop Go.Stop Go.Extern
theorem Ybaf.call12 (args : Array Value) (w : World) : (callFunc 12 args).run Ybaf.prog w = ((FmtStop.errorf #[9, 36] #[27] args).run Ybaf.prog w).andThen fun v w' => .ok (.value v) w' :=
  run_callFunc_extern Ybaf.func12 (by kernel_rfl) (by kernel_rfl) (by kernel_rfl) (by kernel_rfl) args w
theorem Ybaf.guard (name : String) (w : World) : (FmtStop.guard name).run Ybaf.prog w = .ok () w := by kernel_rfl
def fm1 : ByteArray := ⟨#[37, 119, 58, 32, 97, 32, 112, 97, 121, 108, 111, 97, 100, 32, 111, 102, 32, 110, 111, 32, 107, 110, 111, 119, 110, 32, 107, 105, 110, 100]⟩
def fm2 : ByteArray := ⟨#[37, 119, 58, 32, 97, 32, 112, 97, 121, 108, 111, 97, 100, 32, 111, 102, 32, 37, 100, 32, 98, 121, 116, 101, 115]⟩
def fm3 : ByteArray := ⟨#[37, 119, 58, 32, 97, 32, 108, 111, 99, 107, 32, 114, 101, 113, 117, 101, 115, 116, 32, 111, 102, 32, 37, 100, 32, 98, 121, 116, 101, 115]⟩
theorem Ybaf.fmt1 : FmtStop.printed? ⟨#[37, 119, 58, 32, 97, 32, 112, 97, 121, 108, 111, 97, 100, 32, 111, 102, 32, 110, 111, 32, 107, 110, 111, 119, 110, 32, 107, 105, 110, 100]⟩ 1 = some [(0, 119, false)] := by kernel_rfl
theorem Ybaf.fmt1r (w : World) : (FmtDoors.printed ⟨#[37, 119, 58, 32, 97, 32, 112, 97, 121, 108, 111, 97, 100, 32, 111, 102, 32, 110, 111, 32, 107, 110, 111, 119, 110, 32, 107, 105, 110, 100]⟩ 1).run Ybaf.prog w = .ok [(0, 119, false)] w := by kernel_rfl
theorem Ybaf.fmt2 : FmtStop.printed? ⟨#[37, 119, 58, 32, 97, 32, 112, 97, 121, 108, 111, 97, 100, 32, 111, 102, 32, 37, 100, 32, 98, 121, 116, 101, 115]⟩ 2 = some [(0, 119, false), (1, 100, false)] := by kernel_rfl
theorem Ybaf.fmt2r (w : World) : (FmtDoors.printed ⟨#[37, 119, 58, 32, 97, 32, 112, 97, 121, 108, 111, 97, 100, 32, 111, 102, 32, 37, 100, 32, 98, 121, 116, 101, 115]⟩ 2).run Ybaf.prog w = .ok [(0, 119, false), (1, 100, false)] w := by kernel_rfl
theorem Ybaf.fmt3 : FmtStop.printed? ⟨#[37, 119, 58, 32, 97, 32, 108, 111, 99, 107, 32, 114, 101, 113, 117, 101, 115, 116, 32, 111, 102, 32, 37, 100, 32, 98, 121, 116, 101, 115]⟩ 2 = some [(0, 119, false), (1, 100, false)] := by kernel_rfl
theorem Ybaf.fmt3r (w : World) : (FmtDoors.printed ⟨#[37, 119, 58, 32, 97, 32, 108, 111, 99, 107, 32, 114, 101, 113, 117, 101, 115, 116, 32, 111, 102, 32, 37, 100, 32, 98, 121, 116, 101, 115]⟩ 2).run Ybaf.prog w = .ok [(0, 119, false), (1, 100, false)] w := by kernel_rfl
def Ybaf.shape3 : List UInt8 := [5, 3, 0, 0, 0, 0, 0, 0, 0, 105, 110, 116]
theorem Ybaf.op3_100w (name : String) (x : Int) (w : World) : (FmtStop.operand name true 100 false (.iface 3 (.int .i64 x))).run Ybaf.prog w = .ok (Ybaf.shape3, Go.Extern.Stop.digits 8 (x % 2 ^ 64).toNat) w := by kernel_rfl
theorem Ybaf.ptr50 (w : World) : (FmtStop.ptrTo "errors.errorString").run Ybaf.prog w = .ok 50 w := by kernel_rfl
theorem Ybaf.elem50 (w : World) : (elemOf 50).run Ybaf.prog w = .ok 52 w := by kernel_rfl
theorem Ybaf.isError50' (w : World) : (FmtDoors.textMethod 50 "Error").run Ybaf.prog w = .ok true w := by kernel_rfl
def plainOf (s : String) : List UInt8 := 14 :: FmtStop.pack s.toUTF8.data.toList
theorem Ybaf.opPlain50_119w (name : String) (a : Addr) (s : ByteArray) (w : World) (hc : w.cell? a = some (.string s)) :
    (FmtStop.operand name true 119 false (.iface 50 (.pointer (some a)))).run Ybaf.prog w = .ok (plainOf Ybaf.t50.str, s.data.toList) w := by
  have h1 : (typeStr 50).run Ybaf.prog w = .ok Ybaf.t50.str w := by kernel_rfl
  have d2 : Ybaf.t50.desc = .pointer 52 := rfl
  have d3 : Ybaf.t52.desc = .named "errors.errorString" 51 := rfl
  simp [FmtStop.operand, h1, d2, d3, run_load, hc, plainOf]
theorem Ybaf.ptr38 (w : World) : (FmtStop.ptrTo "fmt.wrapError").run Ybaf.prog w = .ok 38 w := by kernel_rfl
theorem Ybaf.elem38 (w : World) : (elemOf 38).run Ybaf.prog w = .ok 77 w := by kernel_rfl
theorem Ybaf.isError38' (w : World) : (FmtDoors.textMethod 38 "Error").run Ybaf.prog w = .ok true w := by kernel_rfl
/-- What Errorf leaves: a new wrapError whose second cell is the sentinel. -/
def Wrapped (q : Addr) (w : World) (v : Value) (w' : World) : Prop := Fr [] w w' ∧ ∃ pb, v = .iface 38 (.pointer (some ⟨pb, 0, none⟩)) ∧ w'.cell? ⟨pb, 1, none⟩ = some (.iface 50 (.pointer (some q)))

set_option maxRecDepth 20000 in
theorem errorf1 (F : Interp) (q : Addr) (s : ByteArray) (blk : Nat) (w : World) (hF : F.answers w.tape) (hc0 : w.cell? ⟨blk, 0, none⟩ = some (.iface 50 (.pointer (some q)))) (hq : w.cell? q = some (.string s)) :
    Calls Ybaf.prog 9 #[.string ⟨#[37, 119, 58, 32, 97, 32, 112, 97, 121, 108, 111, 97, 100, 32, 111, 102, 32, 110, 111, 32, 107, 110, 111, 119, 110, 32, 107, 105, 110, 100]⟩, .slice (some ⟨blk, 0, none⟩) 1 1] w fun e w' => ∃ v, e = .returned v ∧ Wrapped q w v w' := by
  have hF' := answers_open hF
  have hop := Ybaf.opPlain50_119w "fmt.errorf" q s _ hq
  have k1 := Ybaf.call12
  have k2 := Ybaf.guard
  have k3 := Ybaf.fmt1
  have k4 := Ybaf.fmt1r
  have k5 := Ybaf.op3_100w
  have k6 := Ybaf.ptr50
  have k7 := Ybaf.elem50
  have k8 := Ybaf.isError50'
  have k9 := Ybaf.ptr38
  have k10 := Ybaf.elem38
  have k11 := Ybaf.isError38'
  go_enter Ybaf.func9, Ybaf.ntmps9
  go_wp2
  go_ret
  refine ⟨_, rfl, ((Fr.refl [] w).alloc _).drew, w.heap.size, rfl, ?_⟩
  exact (cell_at (w := World.drew _) (heap_alloc_new w _) 1).trans rfl

set_option maxRecDepth 20000 in
theorem errorf2 (F : Interp) (q : Addr) (s : ByteArray) (blk : Nat) (i : Int) (w : World) (hF : F.answers w.tape) (hc0 : w.cell? ⟨blk, 0, none⟩ = some (.iface 50 (.pointer (some q)))) (hc1 : w.cell? ⟨blk, 1, none⟩ = some (.iface 3 (.int .i64 i))) (hq : w.cell? q = some (.string s)) :
    Calls Ybaf.prog 9 #[.string ⟨#[37, 119, 58, 32, 97, 32, 112, 97, 121, 108, 111, 97, 100, 32, 111, 102, 32, 37, 100, 32, 98, 121, 116, 101, 115]⟩, .slice (some ⟨blk, 0, none⟩) 2 2] w fun e w' => ∃ v, e = .returned v ∧ Wrapped q w v w' := by
  have hF' := answers_open hF
  have hop := Ybaf.opPlain50_119w "fmt.errorf" q s _ hq
  have k1 := Ybaf.call12
  have k2 := Ybaf.guard
  have k3 := Ybaf.fmt2
  have k4 := Ybaf.fmt2r
  have k5 := Ybaf.op3_100w
  have k6 := Ybaf.ptr50
  have k7 := Ybaf.elem50
  have k8 := Ybaf.isError50'
  have k9 := Ybaf.ptr38
  have k10 := Ybaf.elem38
  have k11 := Ybaf.isError38'
  go_enter Ybaf.func9, Ybaf.ntmps9
  go_wp2
  go_ret
  refine ⟨_, rfl, ((Fr.refl [] w).alloc _).drew, w.heap.size, rfl, ?_⟩
  exact (cell_at (w := World.drew _) (heap_alloc_new w _) 1).trans rfl

set_option maxRecDepth 20000 in
theorem errorf3 (F : Interp) (q : Addr) (s : ByteArray) (blk : Nat) (i : Int) (w : World) (hF : F.answers w.tape) (hc0 : w.cell? ⟨blk, 0, none⟩ = some (.iface 50 (.pointer (some q)))) (hc1 : w.cell? ⟨blk, 1, none⟩ = some (.iface 3 (.int .i64 i))) (hq : w.cell? q = some (.string s)) :
    Calls Ybaf.prog 9 #[.string ⟨#[37, 119, 58, 32, 97, 32, 108, 111, 99, 107, 32, 114, 101, 113, 117, 101, 115, 116, 32, 111, 102, 32, 37, 100, 32, 98, 121, 116, 101, 115]⟩, .slice (some ⟨blk, 0, none⟩) 2 2] w fun e w' => ∃ v, e = .returned v ∧ Wrapped q w v w' := by
  have hF' := answers_open hF
  have hop := Ybaf.opPlain50_119w "fmt.errorf" q s _ hq
  have k1 := Ybaf.call12
  have k2 := Ybaf.guard
  have k3 := Ybaf.fmt3
  have k4 := Ybaf.fmt3r
  have k5 := Ybaf.op3_100w
  have k6 := Ybaf.ptr50
  have k7 := Ybaf.elem50
  have k8 := Ybaf.isError50'
  have k9 := Ybaf.ptr38
  have k10 := Ybaf.elem38
  have k11 := Ybaf.isError38'
  go_enter Ybaf.func9, Ybaf.ntmps9
  go_wp2
  go_ret
  refine ⟨_, rfl, ((Fr.refl [] w).alloc _).drew, w.heap.size, rfl, ?_⟩
  exact (cell_at (w := World.drew _) (heap_alloc_new w _) 1).trans rfl

end Go.Proofs.YbulkaevsFmt
