/-
  THE WALKS OVER (*waitList).empty (32), and (*waitList).first (14) on an empty list.
-/
import Derived.Test.YbulkbdieOut
namespace Go.Proofs.Ybulkbdie
open Go.RowKit

set_option maxHeartbeats 400000 in
theorem first_empty (eb eo : Nat) (ao : Option Addr) (c : Nat) (q : Int) (w : World) (c0 : w.cell? ⟨eb, eo, none⟩ = some (.slice ao 0 c)) (c1 : w.cell? ⟨eb, eo + 1, none⟩ = some (.map none)) :
    Calls Yba.prog 14 #[.pointer (some ⟨eb, eo, none⟩), .int .u64 q] w fun e w' => e = .returned (.tuple #[.pointer none, .bool false]) ∧ Below w.heap.size w w' := by
  have q49 : ∀ (w : World) (r : Option Nat), (binOp .eql 49 (.map r) (.map none)).run Yba.prog w = .ok (.bool r.isNone) w := fun w r => run_eql_map_nil w _ _ _ r Yba.underlying49
  go_enter Yba.func14, Yba.ntmps14
  go_wp2
  go_loopw [20] (fun i wr => i = .int .i64 0 ∧ Below w.heap.size w wr) (fun i _ => 0)
  case atStart => exact ⟨rfl, Below.refl _ _⟩
  case round =>
    obtain ⟨rfl, hb⟩ := hrel
    go_wp2
    go_ret2
    exact ⟨rfl, hb⟩

set_option maxHeartbeats 400000 in
theorem empty_walk (eb eo g n c : Nat) (w : World) (c0 : w.cell? ⟨eb, eo, none⟩ = some (.slice (some ⟨g, 0, none⟩) n c)) (c1 : w.cell? ⟨eb, eo + 1, none⟩ = some (.map none)) (f0 : w.frozen? ⟨eb, eo, none⟩ = false) (f1 : w.frozen? ⟨eb, eo + 1, none⟩ = false) :
    Calls Yba.prog 32 #[.pointer (some ⟨eb, eo, none⟩)] w fun e w' => e = .returned (.tuple #[]) ∧ ∃ ao c', w' = (w.setCell ⟨eb, eo + 1, none⟩ (.map none)).setCell ⟨eb, eo, none⟩ (.slice ao 0 c') := by
  by_cases hc : (1 : Int) < (c : Int)
  · go_enter Yba.func32, Yba.ntmps32
    go_wp2
    refine bodyPost_ret (results_none rfl _ _ _) rfl ?_
    exact ⟨rfl, _, _, rfl⟩
  · go_enter Yba.func32, Yba.ntmps32
    go_wp2
    go_end0
    exact ⟨rfl, _, _, rfl⟩

end Go.Proofs.Ybulkbdie
