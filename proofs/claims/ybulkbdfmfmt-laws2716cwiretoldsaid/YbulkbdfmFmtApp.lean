/-
  THE WALKS OVER (mtp3.Frame).AppendBinary (function 9).
-/
import Derived.Test.YbulkbdfmFmtFmt
import Derived.Test.YbulkbdfmFmtBase
import Derived.WalkSpells
import Derived.WalkLawsBesides
import Derived.OwnWalk
import Derived.Laws.OwnMore
import Derived.Laws.AppendOwnNone
import Derived.Laws.BitsAllLaws
namespace Go.Proofs.YbulkbdfmFmt
open Go.RowKit Go.Extern.Stop Go.Stop Go.Extern
attribute [local go_sem] call14 guard fmt0 fmt0r fmt1 fmt1r fmt2 fmt2r fmt3 fmt3r fmt4 fmt4r fmt5 fmt5r fmt6 fmt6r fmt7 fmt7r op5_100 op5_100w op5_120 op5_120w op31_100 op31_100w op3_100 op3_100w ptr44 elem44 isError44

/-- One of the fields is out of its range. -/
def badF (net svc dpc opc sls : Int) : Prop := 3 < net ∨ 15 < svc ∨ 16383 < dpc ∨ 16383 < opc ∨ 15 < sls

set_option maxHeartbeats 1000000 in
set_option maxRecDepth 100000 in
theorem ab_bad1 (F : Interp) (net svc dpc opc sls : Int) (p v : Value) (w : World) (hF : F.answers w.tape) (h : 3 < net) :
    Calls Ybaf.prog 9 #[.agg #[.int .u8 net, .int .u8 svc, .int .u16 dpc, .int .u16 opc, .int .u8 sls, p], v] w fun e w' => (∃ a, e = .returned (.tuple #[v, .iface 44 (.pointer (some a))])) ∧ Below w.heap.size w w' := by
  have hF' := answers_open hF
  go_enter Ybaf.func9, Ybaf.ntmps9
  go_wp2
  go_ret2
  exact ⟨⟨_, rfl⟩, (((((Below.refl _ _).alloc (Nat.le_refl _) _).alloc (by simp) _).alloc (by simp; omega) _).drew)⟩

set_option maxHeartbeats 1000000 in
set_option maxRecDepth 100000 in
theorem ab_bad2 (F : Interp) (net svc dpc opc sls : Int) (p v : Value) (w : World) (hF : F.answers w.tape) (h1 : net ≤ 3) (h : 15 < svc) :
    Calls Ybaf.prog 9 #[.agg #[.int .u8 net, .int .u8 svc, .int .u16 dpc, .int .u16 opc, .int .u8 sls, p], v] w fun e w' => (∃ a, e = .returned (.tuple #[v, .iface 44 (.pointer (some a))])) ∧ Below w.heap.size w w' := by
  have hF' := answers_open hF
  go_enter Ybaf.func9, Ybaf.ntmps9
  go_wp2
  go_ret2
  exact ⟨⟨_, rfl⟩, (((((Below.refl _ _).alloc (Nat.le_refl _) _).alloc (by simp) _).alloc (by simp; omega) _).drew)⟩

set_option maxHeartbeats 1000000 in
set_option maxRecDepth 100000 in
theorem ab_bad3 (F : Interp) (net svc dpc opc sls : Int) (p v : Value) (w : World) (hF : F.answers w.tape) (h1 : net ≤ 3) (h2 : svc ≤ 15) (h : 16383 < dpc) :
    Calls Ybaf.prog 9 #[.agg #[.int .u8 net, .int .u8 svc, .int .u16 dpc, .int .u16 opc, .int .u8 sls, p], v] w fun e w' => (∃ a, e = .returned (.tuple #[v, .iface 44 (.pointer (some a))])) ∧ Below w.heap.size w w' := by
  have hF' := answers_open hF
  go_enter Ybaf.func9, Ybaf.ntmps9
  go_wp2
  go_ret2
  exact ⟨⟨_, rfl⟩, (((((Below.refl _ _).alloc (Nat.le_refl _) _).alloc (by simp) _).alloc (by simp; omega) _).drew)⟩

set_option maxHeartbeats 1000000 in
set_option maxRecDepth 100000 in
theorem ab_bad4 (F : Interp) (net svc dpc opc sls : Int) (p v : Value) (w : World) (hF : F.answers w.tape) (h1 : net ≤ 3) (h2 : svc ≤ 15) (h3 : dpc ≤ 16383) (h : 16383 < opc) :
    Calls Ybaf.prog 9 #[.agg #[.int .u8 net, .int .u8 svc, .int .u16 dpc, .int .u16 opc, .int .u8 sls, p], v] w fun e w' => (∃ a, e = .returned (.tuple #[v, .iface 44 (.pointer (some a))])) ∧ Below w.heap.size w w' := by
  have hF' := answers_open hF
  go_enter Ybaf.func9, Ybaf.ntmps9
  go_wp2
  go_ret2
  exact ⟨⟨_, rfl⟩, (((((Below.refl _ _).alloc (Nat.le_refl _) _).alloc (by simp) _).alloc (by simp; omega) _).drew)⟩

set_option maxHeartbeats 1000000 in
set_option maxRecDepth 100000 in
theorem ab_bad5 (F : Interp) (net svc dpc opc sls : Int) (p v : Value) (w : World) (hF : F.answers w.tape) (h1 : net ≤ 3) (h2 : svc ≤ 15) (h3 : dpc ≤ 16383) (h4 : opc ≤ 16383) (h : 15 < sls) :
    Calls Ybaf.prog 9 #[.agg #[.int .u8 net, .int .u8 svc, .int .u16 dpc, .int .u16 opc, .int .u8 sls, p], v] w fun e w' => (∃ a, e = .returned (.tuple #[v, .iface 44 (.pointer (some a))])) ∧ Below w.heap.size w w' := by
  have hF' := answers_open hF
  go_enter Ybaf.func9, Ybaf.ntmps9
  go_wp2
  go_ret2
  exact ⟨⟨_, rfl⟩, (((((Below.refl _ _).alloc (Nat.le_refl _) _).alloc (by simp) _).alloc (by simp; omega) _).drew)⟩

theorem ab_bad (F : Interp) (net svc dpc opc sls : Int) (p v : Value) (w : World) (hF : F.answers w.tape) (h : badF net svc dpc opc sls) :
    Calls Ybaf.prog 9 #[.agg #[.int .u8 net, .int .u8 svc, .int .u16 dpc, .int .u16 opc, .int .u8 sls, p], v] w fun e w' => (∃ a, e = .returned (.tuple #[v, .iface 44 (.pointer (some a))])) ∧ Below w.heap.size w w' := by
  by_cases h1 : 3 < net
  · exact ab_bad1 F net svc dpc opc sls p v w hF h1
  by_cases h2 : 15 < svc
  · exact ab_bad2 F net svc dpc opc sls p v w hF (by omega) h2
  by_cases h3 : 16383 < dpc
  · exact ab_bad3 F net svc dpc opc sls p v w hF (by omega) (by omega) h3
  by_cases h4 : 16383 < opc
  · exact ab_bad4 F net svc dpc opc sls p v w hF (by omega) (by omega) (by omega) h4
  by_cases h5 : 15 < sls
  · exact ab_bad5 F net svc dpc opc sls p v w hF (by omega) (by omega) (by omega) (by omega) h5
  · exact absurd h (by unfold badF; omega)

end Go.Proofs.YbulkbdfmFmt
