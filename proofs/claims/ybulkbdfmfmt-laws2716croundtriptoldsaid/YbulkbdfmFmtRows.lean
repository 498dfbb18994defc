/-
  No cell of these rows narrows 'for every input' (looked for: loops, veiled, ifaces, maps, wideKeys, modest, calm, conditions, laid).
  DERIVED. THE GIVEN ROWS OF THIS SEAT. 4 by the template 'for every input the law returns true; each argument reads behind the call as it read before'; 0 by the template 'total and deterministic' (their statements: YbulkbdfmFmtTotals.lean).
  GIVEN WITH THE SEED: the statements are not yours to turn. If you find one false, say at which input.
  Laid BY PROGRAM, IN A SANDBOX (cutbox-rows.mjs): the forced cells as the released guide's own fill.sh prints them over the translation cc7bc7ececeddc56… (all of the seat's roots in one cut). By AI agents, Wed Nov 11 2026. No macro, syntax, notation, axiom, sorry.
-/
import Derived.Test.YbulkbdfmFmtChecked
import GoSem.Claim
import GoSem.ClaimJoined
import GoSem.ClaimMapViews
import Derived.JoinedTies
import Derived.KernelRfl
namespace Go.Proofs.YbulkbdfmFmt
/- THE CELL 'sum', in the pinned program and in every row, IS THE sha256 OF THE DUMP (.gsa) THAT YbulkbdfmFmtProg.lean LOADS. Nothing in Lean hashes anything: it is a label: what it is worth is what the hold of that sum in a sandbox is worth. -/
noncomputable def Ybaf.pinned : Pinned := { name := "ybulkbdfmfmt", sum := "cc7bc7ececeddc56f227c50167e954981acd4673a1b0026f2024e9f02e5636b0", checked := Ybaf.checked }
namespace Rows
def none {H : Type} : Left H := { results := [], args := [] }

/-- 'vpn.LawS2716AExact': WHATEVER THE INPUT: true; the input reads as it did. -/
def lawS2716AExactSpec : ChangeSpec := { name := "lawS2716AExact", fn := fun _ => fun
  | [d] => { results := [.lit (.bool true)], args := [d] }
  | _ => none }
def lawS2716AExactRow : OpenClaim := { program := "ybulkbdfmfmt", sum := "cc7bc7ececeddc56f227c50167e954981acd4673a1b0026f2024e9f02e5636b0", func := "example.com/trunkpost/trunkpost/vpn.LawS2716AExact", spec := "lawS2716AExact", stops := ["fmt.errorf"], inPlace := ["fmt.errorf"], apart := false }
/-- NO THEOREM (fmt's text is open here; it may be false): for the released tool's asking of the row's closed facts alone. THE STATEMENT IS 'LawS2716AExactToldSaid' (YbulkbdfmFmtCards.lean). -/
def LawS2716AExactFormAsk : Prop := lawS2716AExactRow.holds Ybaf.pinned (OpenSpec.ofChange lawS2716AExactSpec)

/-- ITS FALSE NEIGHBOUR: 'it returns false'. Refute it at one input. -/
def lawS2716AExactWrong : ChangeSpec := { name := "lawS2716AExact", fn := fun _ => fun
  | [d] => { results := [.lit (.bool false)], args := [d] }
  | _ => none }
def LawS2716AExactWrongFormAsk : Prop := lawS2716AExactRow.holds Ybaf.pinned (OpenSpec.ofChange lawS2716AExactWrong)

/-- 'vpn.LawS2716ATrailing': WHATEVER THE INPUT: true; the input reads as it did. -/
def lawS2716ATrailingSpec : ChangeSpec := { name := "lawS2716ATrailing", fn := fun _ => fun
  | [d1, d2] => { results := [.lit (.bool true)], args := [d1, d2] }
  | _ => none }
def lawS2716ATrailingRow : OpenClaim := { program := "ybulkbdfmfmt", sum := "cc7bc7ececeddc56f227c50167e954981acd4673a1b0026f2024e9f02e5636b0", func := "example.com/trunkpost/trunkpost/vpn.LawS2716ATrailing", spec := "lawS2716ATrailing", stops := ["fmt.errorf"], inPlace := ["fmt.errorf"], apart := false }
/-- NO THEOREM (fmt's text is open here; it may be false): for the released tool's asking of the row's closed facts alone. THE STATEMENT IS 'LawS2716ATrailingToldSaid' (YbulkbdfmFmtCards.lean). -/
def LawS2716ATrailingFormAsk : Prop := lawS2716ATrailingRow.holds Ybaf.pinned (OpenSpec.ofChange lawS2716ATrailingSpec)

/-- ITS FALSE NEIGHBOUR: 'it returns false'. Refute it at one input. -/
def lawS2716ATrailingWrong : ChangeSpec := { name := "lawS2716ATrailing", fn := fun _ => fun
  | [d1, d2] => { results := [.lit (.bool false)], args := [d1, d2] }
  | _ => none }
def LawS2716ATrailingWrongFormAsk : Prop := lawS2716ATrailingRow.holds Ybaf.pinned (OpenSpec.ofChange lawS2716ATrailingWrong)

/-- 'mtp3.LawS2716CWire': WHATEVER THE INPUT: true; the input reads as it did. -/
def lawS2716CWireSpec : ChangeSpec := { name := "lawS2716CWire", fn := fun _ => fun
  | [d1, d2, d3, d4, d5, d6, d7] => { results := [.lit (.bool true)], args := [d1, d2, d3, d4, d5, d6, d7] }
  | _ => none }
def lawS2716CWireRow : OpenClaim := { program := "ybulkbdfmfmt", sum := "cc7bc7ececeddc56f227c50167e954981acd4673a1b0026f2024e9f02e5636b0", func := "example.com/trunkpost/trunkpost/internal/mtp3.LawS2716CWire", spec := "lawS2716CWire", stops := ["fmt.errorf"], inPlace := ["fmt.errorf"], apart := false }
/-- NO THEOREM (fmt's text is open here; it may be false): for the released tool's asking of the row's closed facts alone. THE STATEMENT IS 'LawS2716CWireToldSaid' (YbulkbdfmFmtCards.lean). -/
def LawS2716CWireFormAsk : Prop := lawS2716CWireRow.holds Ybaf.pinned (OpenSpec.ofChange lawS2716CWireSpec)

/-- ITS FALSE NEIGHBOUR: 'it returns false'. Refute it at one input. -/
def lawS2716CWireWrong : ChangeSpec := { name := "lawS2716CWire", fn := fun _ => fun
  | [d1, d2, d3, d4, d5, d6, d7] => { results := [.lit (.bool false)], args := [d1, d2, d3, d4, d5, d6, d7] }
  | _ => none }
def LawS2716CWireWrongFormAsk : Prop := lawS2716CWireRow.holds Ybaf.pinned (OpenSpec.ofChange lawS2716CWireWrong)

/-- 'mtp3.LawS2716CRoundTrip': WHATEVER THE INPUT: true; the input reads as it did. -/
def lawS2716CRoundTripSpec : ChangeSpec := { name := "lawS2716CRoundTrip", fn := fun _ => fun
  | [d1, d2, d3, d4, d5, d6] => { results := [.lit (.bool true)], args := [d1, d2, d3, d4, d5, d6] }
  | _ => none }
def lawS2716CRoundTripRow : OpenClaim := { program := "ybulkbdfmfmt", sum := "cc7bc7ececeddc56f227c50167e954981acd4673a1b0026f2024e9f02e5636b0", func := "example.com/trunkpost/trunkpost/internal/mtp3.LawS2716CRoundTrip", spec := "lawS2716CRoundTrip", stops := ["fmt.errorf"], inPlace := ["fmt.errorf"], apart := false }
/-- NO THEOREM (fmt's text is open here; it may be false): for the released tool's asking of the row's closed facts alone. THE STATEMENT IS 'LawS2716CRoundTripToldSaid' (YbulkbdfmFmtCards.lean). -/
def LawS2716CRoundTripFormAsk : Prop := lawS2716CRoundTripRow.holds Ybaf.pinned (OpenSpec.ofChange lawS2716CRoundTripSpec)

/-- ITS FALSE NEIGHBOUR: 'it returns false'. Refute it at one input. -/
def lawS2716CRoundTripWrong : ChangeSpec := { name := "lawS2716CRoundTrip", fn := fun _ => fun
  | [d1, d2, d3, d4, d5, d6] => { results := [.lit (.bool false)], args := [d1, d2, d3, d4, d5, d6] }
  | _ => none }
def LawS2716CRoundTripWrongFormAsk : Prop := lawS2716CRoundTripRow.holds Ybaf.pinned (OpenSpec.ofChange lawS2716CRoundTripWrong)

end Rows
end Go.Proofs.YbulkbdfmFmt
