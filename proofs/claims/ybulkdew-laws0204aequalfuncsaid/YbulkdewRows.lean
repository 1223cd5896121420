/-
  No cell of these rows narrows 'for every input' (looked for: loops, veiled, ifaces, maps, wideKeys, modest, calm, conditions, laid).
  DERIVED. THE GIVEN ROWS OF THIS SEAT. 4 by the template 'for every input the law returns true; each argument reads behind the call as it read before'; 0 by the template 'total and deterministic' (their statements: YbulkdewTotals.lean).
  GIVEN WITH THE SEED: the statements are not yours to turn. If you find one false, say at which input.
  Laid BY PROGRAM, IN A SANDBOX (cutbox-rows.mjs): the forced cells as the released guide's own fill.sh prints them over the translation 89f97a4bf91f6bef… (all of the seat's roots in one cut). By AI agents, Wed Nov 11 2026. No macro, syntax, notation, axiom, sorry.
-/
import Derived.Test.YbulkdewChecked
import GoSem.Claim
import GoSem.ClaimJoined
import GoSem.ClaimMapViews
import Derived.JoinedTies
import Derived.KernelRfl
namespace Go.Proofs.Ybulkdew
/- THE CELL 'sum', in the pinned program and in every row, IS THE sha256 OF THE DUMP (.gsa) THAT YbulkdewProg.lean LOADS. Nothing in Lean hashes anything: it is a label: what it is worth is what the hold of that sum in a sandbox is worth. -/
noncomputable def Yba.pinned : Pinned := { name := "ybulkdew", sum := "89f97a4bf91f6befdbc25267102c5dd2775742050014884d4f454cf345560523", checked := Yba.checked }
namespace Rows
def none {H : Type} : Left H := { results := [], args := [] }

/-- 'midsnake.LawS0204ASymbols': WHATEVER THE INPUT: true; the input reads as it did. -/
def lawS0204ASymbolsSpec : ChangeSpec := { name := "lawS0204ASymbols", fn := fun _ => fun
  | [d1, d2, d3, d4, d5, d6, d7, d8] => { results := [.lit (.bool true)], args := [d1, d2, d3, d4, d5, d6, d7, d8] }
  | _ => none }
def lawS0204ASymbolsRow : OpenClaim := { program := "ybulkdew", sum := "89f97a4bf91f6befdbc25267102c5dd2775742050014884d4f454cf345560523", func := "example.com/midsnake/midsnake.LawS0204ASymbols", spec := "lawS0204ASymbols", unfollowed := true, recurses := true, apart := false }
def LawS0204ASymbolsSaid : Prop := lawS0204ASymbolsRow.holds Yba.pinned (OpenSpec.ofChange lawS0204ASymbolsSpec)

/-- ITS FALSE NEIGHBOUR: 'it returns false'. Refute it at one input. -/
def lawS0204ASymbolsWrong : ChangeSpec := { name := "lawS0204ASymbols", fn := fun _ => fun
  | [d1, d2, d3, d4, d5, d6, d7, d8] => { results := [.lit (.bool false)], args := [d1, d2, d3, d4, d5, d6, d7, d8] }
  | _ => none }
def LawS0204ASymbolsWrongFalsely : Prop := lawS0204ASymbolsRow.holds Yba.pinned (OpenSpec.ofChange lawS0204ASymbolsWrong)

/-- 'midsnake.LawS0204AEqualFunc': WHATEVER THE INPUT: true; the input reads as it did. -/
def lawS0204AEqualFuncSpec : ChangeSpec := { name := "lawS0204AEqualFunc", fn := fun _ => fun
  | [d1, d2, d3, d4, d5, d6, d7, d8] => { results := [.lit (.bool true)], args := [d1, d2, d3, d4, d5, d6, d7, d8] }
  | _ => none }
def lawS0204AEqualFuncRow : OpenClaim := { program := "ybulkdew", sum := "89f97a4bf91f6befdbc25267102c5dd2775742050014884d4f454cf345560523", func := "example.com/midsnake/midsnake.LawS0204AEqualFunc", spec := "lawS0204AEqualFunc", unfollowed := true, recurses := true, apart := false }
def LawS0204AEqualFuncSaid : Prop := lawS0204AEqualFuncRow.holds Yba.pinned (OpenSpec.ofChange lawS0204AEqualFuncSpec)

/-- ITS FALSE NEIGHBOUR: 'it returns false'. Refute it at one input. -/
def lawS0204AEqualFuncWrong : ChangeSpec := { name := "lawS0204AEqualFunc", fn := fun _ => fun
  | [d1, d2, d3, d4, d5, d6, d7, d8] => { results := [.lit (.bool false)], args := [d1, d2, d3, d4, d5, d6, d7, d8] }
  | _ => none }
def LawS0204AEqualFuncWrongFalsely : Prop := lawS0204AEqualFuncRow.holds Yba.pinned (OpenSpec.ofChange lawS0204AEqualFuncWrong)

/-- 'midsnake.LawS0204CMax': WHATEVER THE INPUT: true; the input reads as it did. -/
def lawS0204CMaxSpec : ChangeSpec := { name := "lawS0204CMax", fn := fun _ => fun
  | [d1, d2] => { results := [.lit (.bool true)], args := [d1, d2] }
  | _ => none }
def lawS0204CMaxRow : OpenClaim := { program := "ybulkdew", sum := "89f97a4bf91f6befdbc25267102c5dd2775742050014884d4f454cf345560523", func := "example.com/midsnake/midsnake.LawS0204CMax", spec := "lawS0204CMax", apart := false }
def LawS0204CMaxSaid : Prop := lawS0204CMaxRow.holds Yba.pinned (OpenSpec.ofChange lawS0204CMaxSpec)

/-- ITS FALSE NEIGHBOUR: 'it returns false'. Refute it at one input. -/
def lawS0204CMaxWrong : ChangeSpec := { name := "lawS0204CMax", fn := fun _ => fun
  | [d1, d2] => { results := [.lit (.bool false)], args := [d1, d2] }
  | _ => none }
def LawS0204CMaxWrongFalsely : Prop := lawS0204CMaxRow.holds Yba.pinned (OpenSpec.ofChange lawS0204CMaxWrong)

/-- 'midsnake.LawS0204CSwapJoin': WHATEVER THE INPUT: true; the input reads as it did. -/
def lawS0204CSwapJoinSpec : ChangeSpec := { name := "lawS0204CSwapJoin", fn := fun _ => fun
  | [d1, d2] => { results := [.lit (.bool true)], args := [d1, d2] }
  | _ => none }
def lawS0204CSwapJoinRow : OpenClaim := { program := "ybulkdew", sum := "89f97a4bf91f6befdbc25267102c5dd2775742050014884d4f454cf345560523", func := "example.com/midsnake/midsnake.LawS0204CSwapJoin", spec := "lawS0204CSwapJoin", apart := false }
def LawS0204CSwapJoinSaid : Prop := lawS0204CSwapJoinRow.holds Yba.pinned (OpenSpec.ofChange lawS0204CSwapJoinSpec)

/-- ITS FALSE NEIGHBOUR: 'it returns false'. Refute it at one input. -/
def lawS0204CSwapJoinWrong : ChangeSpec := { name := "lawS0204CSwapJoin", fn := fun _ => fun
  | [d1, d2] => { results := [.lit (.bool false)], args := [d1, d2] }
  | _ => none }
def LawS0204CSwapJoinWrongFalsely : Prop := lawS0204CSwapJoinRow.holds Yba.pinned (OpenSpec.ofChange lawS0204CSwapJoinWrong)

end Rows
end Go.Proofs.Ybulkdew
