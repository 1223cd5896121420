import Derived.Test.YbulkdfkFmtRows
import Derived.Deep.DeepWitnessRowRef
import Derived.Lib.LaidIn
import Derived.ProofKit
namespace Go.Proofs.YbulkdfkFmt
open Go
noncomputable def laidWorld (os : Os) : World :=
  let N := (World.settled Ybaf.prog os).heap.size
  let w0 := World.holding Ybaf.prog os ⟨#[.cells #[.bool false, .string ⟨#[]⟩] 107, .cells #[.bool true, .string ⟨#[]⟩] 107], #[], []⟩
  let put (h : Array Obj) (g : Nat) (cs : Array Value) : Array Obj := h.modify g fun
    | .cells _ t frozen => .cells cs t frozen
    | o => o
  { w0 with heap := put (put w0.heap 1 #[.pointer (some ⟨N, 0, none⟩)]) 3 #[.pointer (some ⟨N + 1, 0, none⟩)] }
noncomputable abbrev N0 : Nat := (World.settled Ybaf.prog default).heap.size
set_option maxRecDepth 1000000 in
theorem laid_met (os : Os) (args : Array Value) : laidMet Ybaf.prog Rows.lawS0205CFieldsRow.laid ((laidWorld os).forCall (fun _ _ => 0) ⟨#[], args, []⟩).memory :=
  (LaidIn.of_run [1, N0, 3, N0 + 1, 2] 10 (by kernel_rfl) (by kernel_rfl) (by kernel_rfl) (by kernel_rfl)).met
noncomputable def wArgs : Array Value := #[.agg #[.int .u32 0, .int .i64 0, .int .i64 0, .int .i64 0, .int .i64 0, .int .i64 0, .int .i64 0, .int .i64 0, .int .i64 0, .bool false, .int .i64 0, .int .i64 0, .int .i64 0, .int .i64 0, .int .i64 0, .int .i64 0, .int .u32 0, .int .u32 0, .int .u8 0, .int .u8 0, .slice none 0 0, .slice none 0 0]]
def wData {H : Type} : DataW H := .agg [.lit (.int .u32 0), .lit (.int .i64 0), .lit (.int .i64 0), .lit (.int .i64 0), .lit (.int .i64 0), .lit (.int .i64 0), .lit (.int .i64 0), .lit (.int .i64 0), .lit (.int .i64 0), .lit (.bool false), .lit (.int .i64 0), .lit (.int .i64 0), .lit (.int .i64 0), .lit (.int .i64 0), .lit (.int .i64 0), .lit (.int .i64 0), .lit (.int .u32 0), .lit (.int .u32 0), .lit (.int .u8 0), .lit (.int .u8 0), .nil, .nil]
set_option maxRecDepth 100000 in
theorem witness_row (os : Os) {H : Type} (enc : TypeId × Value → H) :
    (OpenSpec.ofChange Rows.lawS0205CFieldsSpec).preRow enc Ybaf.prog Ybaf.f7 Rows.lawS0205CFieldsRow.domain false Rows.lawS0205CFieldsRow.laid ((laidWorld os).forCall (fun _ _ => 0) ⟨#[], wArgs, []⟩).memory wArgs := by
  have hw : (DataW.whole enc Ybaf.prog ((laidWorld os).forCall (fun _ _ => 0) ⟨#[], wArgs, []⟩).memory Ybaf.f7.params.toList (OpenSpec.ofChange Rows.lawS0205CFieldsSpec).vars false wArgs.toList 8).map (fun x => (x.1, x.2.1)) =
      some ([wData], []) := by kernel_rfl
  obtain ⟨⟨x1, x2, x3⟩, hx, hx1⟩ := Option.map_eq_some_iff.1 hw
  simp only [Prod.mk.injEq] at hx1
  obtain ⟨rfl, rfl⟩ := hx1
  exact OpenSpec.preRow_of_cond 8 hx (by kernel_rfl) (fun k hk => by cases hk) (by kernel_rfl) (laid_met os _)
end Go.Proofs.YbulkdfkFmt
