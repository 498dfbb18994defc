/-
  No cell of these rows narrows 'for every input' (looked for: loops, veiled, ifaces, maps, wideKeys, modest, calm, conditions, laid).
  DERIVED. THE GIVEN ROWS OF THIS SEAT. 2 by the template 'for every input the law returns true; each argument reads behind the call as it read before'; 0 by the template 'total and deterministic' (their statements: YbulkbdfmTotals.lean).
  GIVEN WITH THE SEED: the statements are not yours to turn. If you find one false, say at which input.
  Laid BY PROGRAM, IN A SANDBOX (cutbox-rows.mjs): the forced cells as the released guide's own fill.sh prints them over the translation bafddd0ccd41facc… (all of the seat's roots in one cut). By AI agents, Wed Nov 11 2026. No macro, syntax, notation, axiom, sorry.
-/
import Derived.Test.YbulkbdfmChecked
import GoSem.Claim
import GoSem.ClaimJoined
import GoSem.ClaimMapViews
import Derived.JoinedTies
import Derived.KernelRfl
namespace Go.Proofs.Ybulkbdfm
/- THE CELL 'sum', in the pinned program and in every row, IS THE sha256 OF THE DUMP (.gsa) THAT YbulkbdfmProg.lean LOADS. Nothing in Lean hashes anything: it is a label: what it is worth is what the hold of that sum in a sandbox is worth. -/
noncomputable def Yba.pinned : Pinned := { name := "ybulkbdfm", sum := "bafddd0ccd41facc0d7e4f7dbc7d7ceae04fbb44a4583ddb6fbbe219d32d22e9", checked := Yba.checked }
namespace Rows
def none {H : Type} : Left H := { results := [], args := [] }

/-- 'pcap.LawS2716BDecode': WHATEVER THE INPUT: true; the input reads as it did. -/
def lawS2716BDecodeSpec : ChangeSpec := { name := "lawS2716BDecode", fn := fun _ => fun
  | [d1, d2, d3, d4, d5, d6, d7, d8] => { results := [.lit (.bool true)], args := [d1, d2, d3, d4, d5, d6, d7, d8] }
  | _ => none }
def lawS2716BDecodeRow : OpenClaim := { program := "ybulkbdfm", sum := "bafddd0ccd41facc0d7e4f7dbc7d7ceae04fbb44a4583ddb6fbbe219d32d22e9", func := "example.com/trunkpost/trunkpost/internal/pcap.LawS2716BDecode", spec := "lawS2716BDecode", named := ["encoding/binary.BigEndian", "encoding/binary.LittleEndian"], apart := false }
def LawS2716BDecodeSaid : Prop := lawS2716BDecodeRow.holds Yba.pinned (OpenSpec.ofChange lawS2716BDecodeSpec)

/-- ITS FALSE NEIGHBOUR: 'it returns false'. Refute it at one input. -/
def lawS2716BDecodeWrong : ChangeSpec := { name := "lawS2716BDecode", fn := fun _ => fun
  | [d1, d2, d3, d4, d5, d6, d7, d8] => { results := [.lit (.bool false)], args := [d1, d2, d3, d4, d5, d6, d7, d8] }
  | _ => none }
def LawS2716BDecodeWrongFalsely : Prop := lawS2716BDecodeRow.holds Yba.pinned (OpenSpec.ofChange lawS2716BDecodeWrong)

/-- 'pcap.LawS2716BSwap': WHATEVER THE INPUT: true; the input reads as it did. -/
def lawS2716BSwapSpec : ChangeSpec := { name := "lawS2716BSwap", fn := fun _ => fun
  | [d1, d2, d3, d4] => { results := [.lit (.bool true)], args := [d1, d2, d3, d4] }
  | _ => none }
def lawS2716BSwapRow : OpenClaim := { program := "ybulkbdfm", sum := "bafddd0ccd41facc0d7e4f7dbc7d7ceae04fbb44a4583ddb6fbbe219d32d22e9", func := "example.com/trunkpost/trunkpost/internal/pcap.LawS2716BSwap", spec := "lawS2716BSwap", named := ["encoding/binary.BigEndian", "encoding/binary.LittleEndian"], apart := false }
def LawS2716BSwapSaid : Prop := lawS2716BSwapRow.holds Yba.pinned (OpenSpec.ofChange lawS2716BSwapSpec)

/-- ITS FALSE NEIGHBOUR: 'it returns false'. Refute it at one input. -/
def lawS2716BSwapWrong : ChangeSpec := { name := "lawS2716BSwap", fn := fun _ => fun
  | [d1, d2, d3, d4] => { results := [.lit (.bool false)], args := [d1, d2, d3, d4] }
  | _ => none }
def LawS2716BSwapWrongFalsely : Prop := lawS2716BSwapRow.holds Yba.pinned (OpenSpec.ofChange lawS2716BSwapWrong)

end Rows
end Go.Proofs.Ybulkbdfm
