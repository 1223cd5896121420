import Derived.Test.YbulkdfkFmtRows
import Derived.WalkKit
import Derived.WalkSpells
import Derived.WalkLawsBesides
import Derived.Stop.CallBack
import Derived.Stop.IfaceNil
import GoSem.ClaimData
namespace Go.Proofs.YbulkdfkFmt
open Go.RowKit Go.Extern.Stop Go.Stop Go.Extern
set_option linter.unusedVariables false

theorem call53 (args : Array Value) (w : World) : (callFunc 53 args).run Ybaf.prog w = (FmtCalls.sprintf #[9, 84] #[9] args).run Ybaf.prog w :=
  run_callFunc_next Ybaf.func53 (by kernel_rfl) (by kernel_rfl) (by kernel_rfl) args w
theorem guardF (name : String) (w : World) : (FmtStop.guard name).run Ybaf.prog w = .ok () w := by kernel_rfl
theorem nextTurns : Extern.next FmtCalls.turnsRow = some (FmtCalls.begun #[] #[]) := by kernel_rfl
theorem nextReturned : Extern.next FmtCalls.returnedRow = some (FmtCalls.returned #[] #[]) := by kernel_rfl
theorem fmt0 : FmtStop.printed? ⟨#[37, 99, 37, 48, 50, 100, 58, 37, 48, 50, 100]⟩ 3 = some [(0, 99, false), (1, 100, false), (2, 100, false)] := by kernel_rfl
theorem fmt0r (w : World) : (FmtDoors.printed ⟨#[37, 99, 37, 48, 50, 100, 58, 37, 48, 50, 100]⟩ 3).run Ybaf.prog w = .ok [(0, 99, false), (1, 100, false), (2, 100, false)] w := by kernel_rfl
def shape3 : List UInt8 := [5, 3, 0, 0, 0, 0, 0, 0, 0, 105, 110, 116]
def shape21 : List UInt8 := [4, 5, 0, 0, 0, 0, 0, 0, 0, 105, 110, 116, 51, 50]
theorem act21 (name : String) (x : Value) (w : World) : (FmtCalls.act name false 99 false (.iface 21 x)).run Ybaf.prog w = .ok (.closed false) w := by kernel_rfl
theorem op21 (name : String) (x : Int) (w : World) : (FmtStop.operand name false 99 false (.iface 21 (.int .i32 x))).run Ybaf.prog w = .ok (shape21, Go.Extern.Stop.digits 8 (x % 2 ^ 64).toNat) w := by kernel_rfl
theorem act3 (name : String) (x : Value) (w : World) : (FmtCalls.act name false 100 false (.iface 3 x)).run Ybaf.prog w = .ok (.closed false) w := by kernel_rfl
theorem op3 (name : String) (x : Int) (w : World) : (FmtStop.operand name false 100 false (.iface 3 (.int .i64 x))).run Ybaf.prog w = .ok (shape3, Go.Extern.Stop.digits 8 (x % 2 ^ 64).toNat) w := by kernel_rfl

set_option maxHeartbeats 800000 in
set_option maxRecDepth 100000 in
theorem utc (F : Interp) (t0 t1 t2 t3 : Int) (ahead : Bool) (t5 t6 : Int) (w : World) (hF : F.answers w.tape) :
    Calls Ybaf.prog 36 #[.agg #[.int .i64 t0, .int .i64 t1, .int .i64 t2, .int .i64 t3, .bool ahead, .int .i64 t5, .int .i64 t6]] w fun e w' => ∃ s, e = .returned (.string s) ∧ Below w.heap.size w w' := by
  have hF' := answers_open hF
  have h1 := call53
  have h2 := guardF
  have h3 := fmt0
  have h4 := fmt0r
  have h5 := act21
  have h6 := op21
  have h7 := act3
  have h8 := op3
  cases ahead with
  | true =>
    go_enter Ybaf.func36, Ybaf.ntmps36
    go_wp2
    apply rows_value nextTurns
    case hr =>
      go_simp
      exact ⟨rfl, rfl⟩
    case h =>
      go_wp2
      go_ret
      exact ⟨_, rfl, (((Below.refl _ w).alloc (Nat.le_refl _) _).alloc (by simp) _).drew⟩
  | false =>
    go_enter Ybaf.func36, Ybaf.ntmps36
    go_wp2
    apply rows_value nextTurns
    case hr =>
      go_simp
      exact ⟨rfl, rfl⟩
    case h =>
      go_wp2
      go_ret
      exact ⟨_, rfl, (((Below.refl _ w).alloc (Nat.le_refl _) _).alloc (by simp) _).drew⟩
end Go.Proofs.YbulkdfkFmt
