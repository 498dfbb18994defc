/-
  THE WALKS OVER (*upcalls).firstDelivery (function 17).
-/
import Derived.Test.YbulkbdieUp
import Derived.WalkKit
import Derived.WalkSpells
import Derived.WalkLawsBesides
import Derived.Below
import Derived.RegionTactic
import Derived.Deep.QuietTactic
import Derived.BigQuiet
namespace Go.Proofs.Ybulkbdie
open Go.RowKit

set_option maxHeartbeats 400000 in
theorem fd_old (ub uo B n : Nat) (L : List Nm) (a b c : Int) (w : World) (hx : okN (a, b, c)) (hin : (a, b, c) ∈ L) (c4 : w.cell? ⟨ub, uo + 4, none⟩ = some (.map (some B))) (hM : MapIs w B n L) :
    Calls Yba.prog 17 #[.pointer (some ⟨ub, uo, none⟩), .agg #[.int .u64 a, .int .u64 b, .int .u64 c]] w fun e w' => e = .returned (.bool false) ∧ Below w.heap.size w w' := by
  have hlt : ub < w.heap.size := World.block_lt_of_cell? _ _ c4
  have hlk : ∀ q, (Instr.lookup 43 (.map (some B)) (.agg #[.int .u64 a, .int .u64 b, .int .u64 c]) false).run Yba.prog ((w.alloc (.cells #[.int .u64 a, .int .u64 b, .int .u64 c] 42)).drewN q) = .ok (.bool true) ((w.alloc (.cells #[.int .u64 a, .int .u64 b, .int .u64 c] 42)).drewN q) := by
    intro q
    have := ((hM.alloc (.cells #[.int .u64 a, .int .u64 b, .int .u64 c] 42)).drewN q).look (a, b, c) hx
    simp [hin, valN] at this
    exact this
  clear hM hin hx
  go_enter Yba.func17, Yba.ntmps17
  go_wp2
  go_quiet (fail)
  go_wp2
  go_ret
  exact ⟨rfl, below_drewN ((Below.refl _ _).alloc (Nat.le_refl _) _) _⟩

end Go.Proofs.Ybulkbdie
