/-
  THE WALK OVER mtp3.zzs2716ceq (function 10): two slices of the same bytes: true.
-/
import Derived.Test.YbulkbdfmFmtProg
import Derived.Test.YbulkbdfmFmtBase
import Derived.WalkSpells
import Derived.WalkLawsBesides
import Derived.LoopTactic
import Derived.Deep.QuietTactic
import Derived.BigQuiet
namespace Go.Proofs.YbulkbdfmFmt
open Go.RowKit

set_option maxHeartbeats 400000 in
theorem ceq_nil (a1 a2 : Option Addr) (c1 c2 : Nat) (w : World) :
    Calls Ybaf.prog 10 #[.slice a1 0 c1, .slice a2 0 c2] w fun e w' => e = .returned (.bool true) ∧ Below w.heap.size w w' := by
  go_enter Ybaf.func10, Ybaf.ntmps10
  go_wp2
  refine wp_loop_rounds 1 ?_
  rw [rounds_succ]
  go_wp2
  go_ret
  exact ⟨rfl, Below.refl _ _⟩

set_option maxHeartbeats 1000000 in
theorem ceq_pos (b1 o1 b2 o2 len c1 c2 : Nat) (A : List Int) (w : World) (hl : 0 < len) (hm : len ≤ 4096)
    (h1 : ∀ t, t < len → w.cell? ⟨b1, o1 + t, none⟩ = some (.int .u8 (A.getD t 0))) (h2 : ∀ t, t < len → w.cell? ⟨b2, o2 + t, none⟩ = some (.int .u8 (A.getD t 0))) :
    Calls Ybaf.prog 10 #[.slice (some ⟨b1, o1, none⟩) len c1, .slice (some ⟨b2, o2, none⟩) len c2] w fun e w' => e = .returned (.bool true) ∧ Below w.heap.size w w' := by
  have l1 : b1 < w.heap.size := block_lt_of_cell (h1 0 hl)
  have l2 : b2 < w.heap.size := block_lt_of_cell (h2 0 hl)
  go_enter Ybaf.func10, Ybaf.ntmps10
  go_wp2
  go_loopw [5] (fun i wr => ∃ k : Nat, k ≤ len ∧ i = .int .i64 k ∧ Below w.heap.size w wr) (fun i _ => len - (intOf i).toNat)
  case atStart => exact ⟨0, Nat.zero_le _, rfl, Below.refl _ _⟩
  case round =>
    obtain ⟨k, hk, rfl, hb⟩ := hrel
    by_cases hlt : k < len
    · have g1 : wr.cell? ⟨b1, o1 + k, none⟩ = some (.int .u8 (A.getD k 0)) := (hb.cell (p := ⟨b1, o1 + k, none⟩) l1).trans (h1 k hlt)
      have g2 : wr.cell? ⟨b2, o2 + k, none⟩ = some (.int .u8 (A.getD k 0)) := (hb.cell (p := ⟨b2, o2 + k, none⟩) l2).trans (h2 k hlt)
      generalize A.getD k 0 = z at g1 g2
      clear h1 h2
      have k0 : (0 : Int) ≤ (k : Int) := by omega
      have k1 : (k : Int) < (len : Int) := by omega
      go_wp2
      go_quiet (fail)
      go_wp2
      go_roundw
      case rel => exact ⟨k + 1, by omega, by go_num, below_drewN hb _⟩
      case measure => simp [intOf]; omega
    · clear h1 h2
      go_wp2
      go_ret
      exact ⟨rfl, hb⟩

theorem ceq_any {a1 a2 : Option Addr} {len c1 c2 : Nat} {A : List Int} (w : World) (s1 : Sl w a1 len c1 A) (s2 : Sl w a2 len c2 A) (hm : len ≤ 4096) :
    Calls Ybaf.prog 10 #[.slice a1 len c1, .slice a2 len c2] w fun e w' => e = .returned (.bool true) ∧ Below w.heap.size w w' := by
  by_cases hl : len = 0
  · subst hl; exact ceq_nil a1 a2 c1 c2 w
  · obtain ⟨x1, rfl⟩ : ∃ x, a1 = some x := by cases a1 with | none => exact absurd (s1.nil rfl).1 (by omega) | some x => exact ⟨x, rfl⟩
    obtain ⟨x2, rfl⟩ : ∃ x, a2 = some x := by cases a2 with | none => exact absurd (s2.nil rfl).1 (by omega) | some x => exact ⟨x, rfl⟩
    obtain ⟨b1, o1, rfl, h1⟩ := s1.at (by omega)
    obtain ⟨b2, o2, rfl, h2⟩ := s2.at (by omega)
    exact ceq_pos b1 o1 b2 o2 len c1 c2 A w (by omega) hm h1 h2

end Go.Proofs.YbulkbdfmFmt
