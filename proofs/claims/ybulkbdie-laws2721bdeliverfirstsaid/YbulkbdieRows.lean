/-
  No cell of these rows narrows 'for every input' (looked for: loops, veiled, ifaces, maps, wideKeys, modest, calm, conditions, laid).
  DERIVED. THE GIVEN ROWS OF THIS SEAT. 5 by the template 'for every input the law returns true; each argument reads behind the call as it read before'; 0 by the template 'total and deterministic' (their statements: YbulkbdieTotals.lean).
  GIVEN WITH THE SEED: the statements are not yours to turn. If you find one false, say at which input.
  Laid BY PROGRAM, IN A SANDBOX (cutbox-rows.mjs): the forced cells as the released guide's own fill.sh prints them over the translation eacdad46258e8345… (all of the seat's roots in one cut). By AI agents, Wed Nov 11 2026. No macro, syntax, notation, axiom, sorry.
-/
import Derived.Test.YbulkbdieChecked
import GoSem.Claim
import GoSem.ClaimJoined
import GoSem.ClaimMapViews
import Derived.JoinedTies
import Derived.KernelRfl
namespace Go.Proofs.Ybulkbdie
/- THE CELL 'sum', in the pinned program and in every row, IS THE sha256 OF THE DUMP (.gsa) THAT YbulkbdieProg.lean LOADS. Nothing in Lean hashes anything: it is a label: what it is worth is what the hold of that sum in a sandbox is worth. -/
noncomputable def Yba.pinned : Pinned := { name := "ybulkbdie", sum := "eacdad46258e8345b3cd3f8dfc61ebc18804fd13d3934abd6cebe51e6e2079e7", checked := Yba.checked }
namespace Rows
def none {H : Type} : Left H := { results := [], args := [] }

/-- 'ringleaf.LawS2721ARaw': WHATEVER THE INPUT: true; the input reads as it did. -/
def lawS2721ARawSpec : ChangeSpec := { name := "lawS2721ARaw", fn := fun _ => fun
  | [d1, d2] => { results := [.lit (.bool true)], args := [d1, d2] }
  | _ => none }
def lawS2721ARawRow : OpenClaim := { program := "ybulkbdie", sum := "eacdad46258e8345b3cd3f8dfc61ebc18804fd13d3934abd6cebe51e6e2079e7", func := "example.com/ringleaf/ringleaf.LawS2721ARaw", spec := "lawS2721ARaw", named := ["encoding/binary.BigEndian"], plainKeys := false, apart := false }
def LawS2721ARawSaid : Prop := lawS2721ARawRow.holds Yba.pinned (OpenSpec.ofChange lawS2721ARawSpec)

/-- ITS FALSE NEIGHBOUR: 'it returns false'. Refute it at one input. -/
def lawS2721ARawWrong : ChangeSpec := { name := "lawS2721ARaw", fn := fun _ => fun
  | [d1, d2] => { results := [.lit (.bool false)], args := [d1, d2] }
  | _ => none }
def LawS2721ARawWrongFalsely : Prop := lawS2721ARawRow.holds Yba.pinned (OpenSpec.ofChange lawS2721ARawWrong)

/-- 'ringleaf.LawS2721ARoundTrip': WHATEVER THE INPUT: true; the input reads as it did. -/
def lawS2721ARoundTripSpec : ChangeSpec := { name := "lawS2721ARoundTrip", fn := fun _ => fun
  | [d1, d2] => { results := [.lit (.bool true)], args := [d1, d2] }
  | _ => none }
def lawS2721ARoundTripRow : OpenClaim := { program := "ybulkbdie", sum := "eacdad46258e8345b3cd3f8dfc61ebc18804fd13d3934abd6cebe51e6e2079e7", func := "example.com/ringleaf/ringleaf.LawS2721ARoundTrip", spec := "lawS2721ARoundTrip", named := ["encoding/binary.BigEndian"], plainKeys := false, apart := false }
def LawS2721ARoundTripSaid : Prop := lawS2721ARoundTripRow.holds Yba.pinned (OpenSpec.ofChange lawS2721ARoundTripSpec)

/-- ITS FALSE NEIGHBOUR: 'it returns false'. Refute it at one input. -/
def lawS2721ARoundTripWrong : ChangeSpec := { name := "lawS2721ARoundTrip", fn := fun _ => fun
  | [d1, d2] => { results := [.lit (.bool false)], args := [d1, d2] }
  | _ => none }
def LawS2721ARoundTripWrongFalsely : Prop := lawS2721ARoundTripRow.holds Yba.pinned (OpenSpec.ofChange lawS2721ARoundTripWrong)

/-- 'ringleaf.LawS2721BDeliverFirst': WHATEVER THE INPUT: true; the input reads as it did. -/
def lawS2721BDeliverFirstSpec : ChangeSpec := { name := "lawS2721BDeliverFirst", fn := fun _ => fun
  | [d1, d2, d3, d4] => { results := [.lit (.bool true)], args := [d1, d2, d3, d4] }
  | _ => none }
def lawS2721BDeliverFirstRow : OpenClaim := { program := "ybulkbdie", sum := "eacdad46258e8345b3cd3f8dfc61ebc18804fd13d3934abd6cebe51e6e2079e7", func := "example.com/ringleaf/ringleaf.LawS2721BDeliverFirst", spec := "lawS2721BDeliverFirst", unfollowed := true, recurses := true, plainKeys := false, apart := false }
def LawS2721BDeliverFirstSaid : Prop := lawS2721BDeliverFirstRow.holds Yba.pinned (OpenSpec.ofChange lawS2721BDeliverFirstSpec)

/-- ITS FALSE NEIGHBOUR: 'it returns false'. Refute it at one input. -/
def lawS2721BDeliverFirstWrong : ChangeSpec := { name := "lawS2721BDeliverFirst", fn := fun _ => fun
  | [d1, d2, d3, d4] => { results := [.lit (.bool false)], args := [d1, d2, d3, d4] }
  | _ => none }
def LawS2721BDeliverFirstWrongFalsely : Prop := lawS2721BDeliverFirstRow.holds Yba.pinned (OpenSpec.ofChange lawS2721BDeliverFirstWrong)

/-- 'ringleaf.LawS2721CModel': WHATEVER THE INPUT: true; the input reads as it did. -/
def lawS2721CModelSpec : ChangeSpec := { name := "lawS2721CModel", fn := fun _ => fun
  | [d] => { results := [.lit (.bool true)], args := [d] }
  | _ => none }
def lawS2721CModelRow : OpenClaim := { program := "ybulkbdie", sum := "eacdad46258e8345b3cd3f8dfc61ebc18804fd13d3934abd6cebe51e6e2079e7", func := "example.com/ringleaf/ringleaf.LawS2721CModel", spec := "lawS2721CModel", plainKeys := false, apart := false }
def LawS2721CModelSaid : Prop := lawS2721CModelRow.holds Yba.pinned (OpenSpec.ofChange lawS2721CModelSpec)

/-- ITS FALSE NEIGHBOUR: 'it returns false'. Refute it at one input. -/
def lawS2721CModelWrong : ChangeSpec := { name := "lawS2721CModel", fn := fun _ => fun
  | [d] => { results := [.lit (.bool false)], args := [d] }
  | _ => none }
def LawS2721CModelWrongFalsely : Prop := lawS2721CModelRow.holds Yba.pinned (OpenSpec.ofChange lawS2721CModelWrong)

/-- 'ringleaf.LawS2721CForget': WHATEVER THE INPUT: true; the input reads as it did. -/
def lawS2721CForgetSpec : ChangeSpec := { name := "lawS2721CForget", fn := fun _ => fun
  | [d1, d2, d3] => { results := [.lit (.bool true)], args := [d1, d2, d3] }
  | _ => none }
def lawS2721CForgetRow : OpenClaim := { program := "ybulkbdie", sum := "eacdad46258e8345b3cd3f8dfc61ebc18804fd13d3934abd6cebe51e6e2079e7", func := "example.com/ringleaf/ringleaf.LawS2721CForget", spec := "lawS2721CForget", plainKeys := false, apart := false }
def LawS2721CForgetSaid : Prop := lawS2721CForgetRow.holds Yba.pinned (OpenSpec.ofChange lawS2721CForgetSpec)

/-- ITS FALSE NEIGHBOUR: 'it returns false'. Refute it at one input. -/
def lawS2721CForgetWrong : ChangeSpec := { name := "lawS2721CForget", fn := fun _ => fun
  | [d1, d2, d3] => { results := [.lit (.bool false)], args := [d1, d2, d3] }
  | _ => none }
def LawS2721CForgetWrongFalsely : Prop := lawS2721CForgetRow.holds Yba.pinned (OpenSpec.ofChange lawS2721CForgetWrong)

end Rows
end Go.Proofs.Ybulkbdie
