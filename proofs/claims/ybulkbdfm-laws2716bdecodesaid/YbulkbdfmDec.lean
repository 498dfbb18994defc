/-
  THE WALKS OVER encoding/binary's Uint32 (functions 7, 8), (*Reader).uint32 (5), zzs2716bexp (6).
-/
import Derived.Test.YbulkbdfmProg
import Derived.Test.YbulkbdfmBits
import Derived.WalkKit
import Derived.WalkSpells
import Derived.WalkLawsBesides
import Derived.Below
import Derived.Laws.Rows
import Derived.Deep.QuietTactic
import Derived.BigQuiet
namespace Go.Proofs.Ybulkbdfm
open Go.RowKit

theorem ret_int {k : IntKind} {a b : Int} (h : a = b) : Ending.returned (.int k a) = .returned (.int k b) := by rw [h]

/-- FOUR OCTETS AT THE HEAD OF A BLOCK. -/
structure Four (w : World) (g : Nat) (a b c d : Int) : Prop where
  h0 : w.cell? ⟨g, 0, none⟩ = some (.int .u8 a)
  h1 : w.cell? ⟨g, 1, none⟩ = some (.int .u8 b)
  h2 : w.cell? ⟨g, 2, none⟩ = some (.int .u8 c)
  h3 : w.cell? ⟨g, 3, none⟩ = some (.int .u8 d)
  ba : 0 ≤ a ∧ a ≤ 255
  bb : 0 ≤ b ∧ b ≤ 255
  bc : 0 ≤ c ∧ c ≤ 255
  bd : 0 ≤ d ∧ d ≤ 255

theorem Four.below {w w' : World} {g : Nat} {a b c d : Int} (h : Four w g a b c d) {B : Nat} (hb : Below B w w') (hg : g < B) : Four w' g a b c d :=
  ⟨(hb.cell (p := ⟨g, 0, none⟩) hg).trans h.h0, (hb.cell (p := ⟨g, 1, none⟩) hg).trans h.h1, (hb.cell (p := ⟨g, 2, none⟩) hg).trans h.h2, (hb.cell (p := ⟨g, 3, none⟩) hg).trans h.h3, h.ba, h.bb, h.bc, h.bd⟩

set_option maxHeartbeats 1000000 in
theorem be32 (g len cap : Nat) (a b c d : Int) (w : World) (hl : 4 ≤ len) (hm : len ≤ 4096) (hf : Four w g a b c d) :
    Calls Yba.prog 7 #[.agg #[], .slice (some ⟨g, 0, none⟩) len cap] w fun e w' => e = .returned (.int .u32 (num4 a b c d)) ∧ Below w.heap.size w w' := by
  obtain ⟨h0, h1, h2, h3, ha, hb, hc, hd⟩ := hf
  have i0 : (0 : Int) < (len : Int) := by omega
  have i1 : (1 : Int) < (len : Int) := by omega
  have i2 : (2 : Int) < (len : Int) := by omega
  have i3 : (3 : Int) < (len : Int) := by omega
  have gl : g < w.heap.size := block_lt_of_cell h0
  go_enter Yba.func7, Yba.ntmps7
  go_wp2
  go_quiet (fail)
  go_wp2
  go_ret
  exact ⟨ret_int (low_first a b c d ha hb hc hd), below_drewN ((Below.refl _ _).alloc (Nat.le_refl _) _) _⟩

set_option maxHeartbeats 1000000 in
theorem le32 (g len cap : Nat) (a b c d : Int) (w : World) (hl : 4 ≤ len) (hm : len ≤ 4096) (hf : Four w g a b c d) :
    Calls Yba.prog 8 #[.agg #[], .slice (some ⟨g, 0, none⟩) len cap] w fun e w' => e = .returned (.int .u32 (num4 d c b a)) ∧ Below w.heap.size w w' := by
  obtain ⟨h0, h1, h2, h3, ha, hb, hc, hd⟩ := hf
  have i0 : (0 : Int) < (len : Int) := by omega
  have i1 : (1 : Int) < (len : Int) := by omega
  have i2 : (2 : Int) < (len : Int) := by omega
  have i3 : (3 : Int) < (len : Int) := by omega
  have gl : g < w.heap.size := block_lt_of_cell h0
  go_enter Yba.func8, Yba.ntmps8
  go_wp2
  go_quiet (fail)
  go_wp2
  go_ret
  exact ⟨ret_int (low_first d c b a hd hc hb ha), below_drewN ((Below.refl _ _).alloc (Nat.le_refl _) _) _⟩


set_option maxHeartbeats 1000000 in
theorem exp_any (big : Bool) (a b c d : Int) (w : World) (ha : 0 ≤ a ∧ a ≤ 255) (hb : 0 ≤ b ∧ b ≤ 255) (hc : 0 ≤ c ∧ c ≤ 255) (hd : 0 ≤ d ∧ d ≤ 255) :
    Calls Yba.prog 6 #[.bool big, .int .u8 a, .int .u8 b, .int .u8 c, .int .u8 d] w fun e w' => e = .returned (.int .u32 (if big then num4 a b c d else num4 d c b a)) ∧ Below w.heap.size w w' := by
  cases big
  · go_enter Yba.func6, Yba.ntmps6
    go_wp2
    go_ret
    exact ⟨ret_int (high_first d c b a hd hc hb ha), Below.refl _ _⟩
  · go_enter Yba.func6, Yba.ntmps6
    go_wp2
    go_ret
    exact ⟨ret_int (high_first a b c d ha hb hc hd), Below.refl _ _⟩

set_option maxHeartbeats 1000000 in
theorem uint32_any (r g len cap : Nat) (big : Bool) (a b c d : Int) (w : World) (hl : 4 ≤ len) (hm : len ≤ 4096) (hf : Four w g a b c d) (hbig : w.cell? ⟨r, 1, none⟩ = some (.bool big)) :
    Calls Yba.prog 5 #[.pointer (some ⟨r, 0, none⟩), .slice (some ⟨g, 0, none⟩) len cap] w fun e w' => e = .returned (.int .u32 (if big then num4 a b c d else num4 d c b a)) ∧ Below w.heap.size w w' := by
  cases big
  · go_enter Yba.func5, Yba.ntmps5
    go_wp2_with fail
    refine (le32 g len cap a b c d _ hl hm hf).mono ?_
    rintro e w' ⟨rfl, hb⟩
    go_wp2
    go_ret
    exact ⟨rfl, hb⟩
  · go_enter Yba.func5, Yba.ntmps5
    go_wp2_with fail
    refine (be32 g len cap a b c d _ hl hm hf).mono ?_
    rintro e w' ⟨rfl, hb⟩
    go_wp2
    go_ret
    exact ⟨rfl, hb⟩

end Go.Proofs.Ybulkbdfm
