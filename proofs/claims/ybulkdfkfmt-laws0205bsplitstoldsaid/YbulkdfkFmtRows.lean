/-
  NARROWER THAN 'FOR EVERY INPUT', by the rows' own cells (each row's printed sentence says how): LawS0205CFields: laid.
  DERIVED. THE GIVEN ROWS OF THIS SEAT. 5 by the template 'for every input the law returns true; each argument reads behind the call as it read before'; 0 by the template 'total and deterministic' (their statements: YbulkdfkFmtTotals.lean).
  GIVEN WITH THE SEED: the statements are not yours to turn. If you find one false, say at which input.
  Laid BY PROGRAM, IN A SANDBOX (cutbox-rows.mjs): the forced cells as the released guide's own fill.sh prints them over the translation f8b86a6f9f828412… (all of the seat's roots in one cut). By AI agents, Wed Nov 11 2026. No macro, syntax, notation, axiom, sorry.
-/
import Derived.Test.YbulkdfkFmtChecked
import GoSem.Claim
import GoSem.ClaimJoined
import GoSem.ClaimMapViews
import Derived.JoinedTies
import Derived.KernelRfl
namespace Go.Proofs.YbulkdfkFmt
/- THE CELL 'sum', in the pinned program and in every row, IS THE sha256 OF THE DUMP (.gsa) THAT YbulkdfkFmtProg.lean LOADS. Nothing in Lean hashes anything: it is a label: what it is worth is what the hold of that sum in a sandbox is worth. -/
noncomputable def Ybaf.pinned : Pinned := { name := "ybulkdfkfmt", sum := "f8b86a6f9f828412a452f3eca7ff4e872203224a1abc7c79f1dcc5bf4c5f768e", checked := Ybaf.checked }
namespace Rows
def none {H : Type} : Left H := { results := [], args := [] }

/- WHAT THE LISTED PACKAGE-LEVEL VARIABLES READ AS WHEN THE CALL BEGINS. Each datum BY PROGRAM (the guide's laid-datum.mjs) off the statement by which the dump's own 'gosem.cut.vars' lays the variable. In a bare row this is a premise. The card (YbulkdfkFmtCards.lean) ties it to the program's text. -/
def laid_net_netip_z4 {H : Type} : DataW H := .agg [.ptr (.agg [.lit (.bool false), .lit (.string [])])]
def laid_net_netip_z6noz {H : Type} : DataW H := .agg [.ptr (.agg [.lit (.bool true), .lit (.string [])])]
def laid_net_netip_z0 {H : Type} : DataW H := .agg [.nil]

/-- 'ber.LawS0205AValue': WHATEVER THE INPUT: true; the input reads as it did. -/
def lawS0205AValueSpec : ChangeSpec := { name := "lawS0205AValue", fn := fun _ => fun
  | [d] => { results := [.lit (.bool true)], args := [d] }
  | _ => none }
def lawS0205AValueRow : OpenClaim := { program := "ybulkdfkfmt", sum := "f8b86a6f9f828412a452f3eca7ff4e872203224a1abc7c79f1dcc5bf4c5f768e", func := "example.com/tallywire/tallywire/pkg/ber.LawS0205AValue", spec := "lawS0205AValue", stops := ["fmt.errorf", "fmt.Sprintf, its operands' methods called"], inPlace := ["fmt.errorf"], apart := false }
/-- NO THEOREM (fmt's text is open here; it may be false): for the released tool's asking of the row's closed facts alone. THE STATEMENT IS 'LawS0205AValueToldSaid' (YbulkdfkFmtCards.lean). -/
def LawS0205AValueFormAsk : Prop := lawS0205AValueRow.holds Ybaf.pinned (OpenSpec.ofChange lawS0205AValueSpec)

/-- ITS FALSE NEIGHBOUR: 'it returns false'. Refute it at one input. -/
def lawS0205AValueWrong : ChangeSpec := { name := "lawS0205AValue", fn := fun _ => fun
  | [d] => { results := [.lit (.bool false)], args := [d] }
  | _ => none }
def LawS0205AValueWrongFormAsk : Prop := lawS0205AValueRow.holds Ybaf.pinned (OpenSpec.ofChange lawS0205AValueWrong)

/-- 'ber.LawS0205ARoundTrip': WHATEVER THE INPUT: true; the input reads as it did. -/
def lawS0205ARoundTripSpec : ChangeSpec := { name := "lawS0205ARoundTrip", fn := fun _ => fun
  | [d] => { results := [.lit (.bool true)], args := [d] }
  | _ => none }
def lawS0205ARoundTripRow : OpenClaim := { program := "ybulkdfkfmt", sum := "f8b86a6f9f828412a452f3eca7ff4e872203224a1abc7c79f1dcc5bf4c5f768e", func := "example.com/tallywire/tallywire/pkg/ber.LawS0205ARoundTrip", spec := "lawS0205ARoundTrip", stops := ["fmt.errorf", "fmt.Sprintf, its operands' methods called"], inPlace := ["fmt.errorf"], apart := false }
/-- NO THEOREM (fmt's text is open here; it may be false): for the released tool's asking of the row's closed facts alone. THE STATEMENT IS 'LawS0205ARoundTripToldSaid' (YbulkdfkFmtCards.lean). -/
def LawS0205ARoundTripFormAsk : Prop := lawS0205ARoundTripRow.holds Ybaf.pinned (OpenSpec.ofChange lawS0205ARoundTripSpec)

/-- ITS FALSE NEIGHBOUR: 'it returns false'. Refute it at one input. -/
def lawS0205ARoundTripWrong : ChangeSpec := { name := "lawS0205ARoundTrip", fn := fun _ => fun
  | [d] => { results := [.lit (.bool false)], args := [d] }
  | _ => none }
def LawS0205ARoundTripWrongFormAsk : Prop := lawS0205ARoundTripRow.holds Ybaf.pinned (OpenSpec.ofChange lawS0205ARoundTripWrong)

/-- 'event.LawS0205BSplits': WHATEVER THE INPUT: true; the input reads as it did. -/
def lawS0205BSplitsSpec : ChangeSpec := { name := "lawS0205BSplits", fn := fun _ => fun
  | [d1, d2, d3] => { results := [.lit (.bool true)], args := [d1, d2, d3] }
  | _ => none }
def lawS0205BSplitsRow : OpenClaim := { program := "ybulkdfkfmt", sum := "f8b86a6f9f828412a452f3eca7ff4e872203224a1abc7c79f1dcc5bf4c5f768e", func := "example.com/tallywire/tallywire/pkg/event.LawS0205BSplits", spec := "lawS0205BSplits", stops := ["fmt.errorf", "fmt.Sprintf, its operands' methods called"], inPlace := ["fmt.Sprintf", "fmt.errorf"], unfollowed := true, recurses := true, apart := false }
/-- NO THEOREM (fmt's text is open here; it may be false): for the released tool's asking of the row's closed facts alone. THE STATEMENT IS 'LawS0205BSplitsToldSaid' (YbulkdfkFmtCards.lean). -/
def LawS0205BSplitsFormAsk : Prop := lawS0205BSplitsRow.holds Ybaf.pinned (OpenSpec.ofChange lawS0205BSplitsSpec)

/-- ITS FALSE NEIGHBOUR: 'it returns false'. Refute it at one input. -/
def lawS0205BSplitsWrong : ChangeSpec := { name := "lawS0205BSplits", fn := fun _ => fun
  | [d1, d2, d3] => { results := [.lit (.bool false)], args := [d1, d2, d3] }
  | _ => none }
def LawS0205BSplitsWrongFormAsk : Prop := lawS0205BSplitsRow.holds Ybaf.pinned (OpenSpec.ofChange lawS0205BSplitsWrong)

/-- 'event.LawS0205BShape': WHATEVER THE INPUT: true; the input reads as it did. -/
def lawS0205BShapeSpec : ChangeSpec := { name := "lawS0205BShape", fn := fun _ => fun
  | [d] => { results := [.lit (.bool true)], args := [d] }
  | _ => none }
def lawS0205BShapeRow : OpenClaim := { program := "ybulkdfkfmt", sum := "f8b86a6f9f828412a452f3eca7ff4e872203224a1abc7c79f1dcc5bf4c5f768e", func := "example.com/tallywire/tallywire/pkg/event.LawS0205BShape", spec := "lawS0205BShape", stops := ["fmt.errorf", "fmt.Sprintf, its operands' methods called"], inPlace := ["fmt.Sprintf", "fmt.errorf", "internal/bytealg.IndexByte", "internal/bytealg.Index"], unfollowed := true, recurses := true, named := ["internal/bytealg.MaxLen"], apart := false }
/-- NO THEOREM (fmt's text is open here; it may be false): for the released tool's asking of the row's closed facts alone. THE STATEMENT IS 'LawS0205BShapeToldSaid' (YbulkdfkFmtCards.lean). -/
def LawS0205BShapeFormAsk : Prop := lawS0205BShapeRow.holds Ybaf.pinned (OpenSpec.ofChange lawS0205BShapeSpec)

/-- ITS FALSE NEIGHBOUR: 'it returns false'. Refute it at one input. -/
def lawS0205BShapeWrong : ChangeSpec := { name := "lawS0205BShape", fn := fun _ => fun
  | [d] => { results := [.lit (.bool false)], args := [d] }
  | _ => none }
def LawS0205BShapeWrongFormAsk : Prop := lawS0205BShapeRow.holds Ybaf.pinned (OpenSpec.ofChange lawS0205BShapeWrong)

/-- 'decode.LawS0205CFields': WHATEVER THE INPUT: true; the input reads as it did. -/
def lawS0205CFieldsSpec : ChangeSpec := { name := "lawS0205CFields", fn := fun _ => fun
  | [d] => { results := [.lit (.bool true)], args := [d] }
  | _ => none }
def lawS0205CFieldsRow : OpenClaim := { program := "ybulkdfkfmt", sum := "f8b86a6f9f828412a452f3eca7ff4e872203224a1abc7c79f1dcc5bf4c5f768e", func := "example.com/tallywire/tallywire/pkg/decode.LawS0205CFields", spec := "lawS0205CFields", stops := ["fmt.errorf", "fmt.Sprintf, its operands' methods called"], inPlace := ["fmt.Sprintf"], unfollowed := true, recurses := true, named := ["net/netip.z4", "net/netip.z0", "net/netip.z6noz"], apart := false, laid := [("net/netip.z4", laid_net_netip_z4), ("net/netip.z6noz", laid_net_netip_z6noz), ("net/netip.z0", laid_net_netip_z0)] }
/-- NO THEOREM (fmt's text is open here; it may be false): for the released tool's asking of the row's closed facts alone. THE STATEMENT IS 'LawS0205CFieldsToldSaid' (YbulkdfkFmtCards.lean). -/
def LawS0205CFieldsFormAsk : Prop := lawS0205CFieldsRow.holds Ybaf.pinned (OpenSpec.ofChange lawS0205CFieldsSpec)

/-- ITS FALSE NEIGHBOUR: 'it returns false'. Refute it at one input. -/
def lawS0205CFieldsWrong : ChangeSpec := { name := "lawS0205CFields", fn := fun _ => fun
  | [d] => { results := [.lit (.bool false)], args := [d] }
  | _ => none }
def LawS0205CFieldsWrongFormAsk : Prop := lawS0205CFieldsRow.holds Ybaf.pinned (OpenSpec.ofChange lawS0205CFieldsWrong)

end Rows
end Go.Proofs.YbulkdfkFmt
