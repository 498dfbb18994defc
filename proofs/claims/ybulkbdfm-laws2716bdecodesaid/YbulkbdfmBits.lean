/-
  FOUR OCTETS JOINED BY '|': plain laws.
-/
import Derived.Laws.BitsAllLaws
namespace Go.Proofs.Ybulkbdfm

theorem or32_l (i : Nat) (x y : Nat) (hx : x % 2 ^ i = 0) (hy : y < 2 ^ i) (bx : x < 4294967296) (by' : y < 4294967296) : bits .or .u32 (x : Int) (y : Int) = ((x + y : Nat) : Int) := by
  rw [u32_or_nat x y bx by', nat_join i x y hx hy]
theorem or32_r (i : Nat) (x y : Nat) (hx : x % 2 ^ i = 0) (hy : y < 2 ^ i) (bx : x < 4294967296) (by' : y < 4294967296) : bits .or .u32 (y : Int) (x : Int) = ((x + y : Nat) : Int) := by
  rw [u32_or_nat y x by' bx, Nat.or_comm, nat_join i x y hx hy]

/-- THE NUMBER OF FOUR OCTETS, the first the greatest. -/
def num4 (a b c d : Int) : Int := a * 16777216 + b * 65536 + c * 256 + d

/-- 'd | c<<8 | b<<16 | a<<24'. -/
theorem low_first (a b c d : Int) (ha : 0 ≤ a ∧ a ≤ 255) (hb : 0 ≤ b ∧ b ≤ 255) (hc : 0 ≤ c ∧ c ≤ 255) (hd : 0 ≤ d ∧ d ≤ 255) :
    bits .or .u32 (bits .or .u32 (bits .or .u32 d (c * 256)) (b * 65536)) (a * 16777216) = num4 a b c d := by
  obtain ⟨a, rfl⟩ := Int.eq_ofNat_of_zero_le ha.1
  obtain ⟨b, rfl⟩ := Int.eq_ofNat_of_zero_le hb.1
  obtain ⟨c, rfl⟩ := Int.eq_ofNat_of_zero_le hc.1
  obtain ⟨d, rfl⟩ := Int.eq_ofNat_of_zero_le hd.1
  have e1 := or32_r 8 (c * 256) d (by omega) (by omega) (by omega) (by omega)
  have e2 := or32_r 16 (b * 65536) (c * 256 + d) (by omega) (by omega) (by omega) (by omega)
  have e3 := or32_r 24 (a * 16777216) (b * 65536 + (c * 256 + d)) (by omega) (by omega) (by omega) (by omega)
  simp only [Int.natCast_mul, Int.natCast_add, Int.cast_ofNat_Int] at e1 e2 e3
  rw [e1, e2, e3]
  unfold num4
  omega

/-- 'a<<24 | b<<16 | c<<8 | d'. -/
theorem high_first (a b c d : Int) (ha : 0 ≤ a ∧ a ≤ 255) (hb : 0 ≤ b ∧ b ≤ 255) (hc : 0 ≤ c ∧ c ≤ 255) (hd : 0 ≤ d ∧ d ≤ 255) :
    bits .or .u32 (bits .or .u32 (bits .or .u32 (a * 16777216) (b * 65536)) (c * 256)) d = num4 a b c d := by
  obtain ⟨a, rfl⟩ := Int.eq_ofNat_of_zero_le ha.1
  obtain ⟨b, rfl⟩ := Int.eq_ofNat_of_zero_le hb.1
  obtain ⟨c, rfl⟩ := Int.eq_ofNat_of_zero_le hc.1
  obtain ⟨d, rfl⟩ := Int.eq_ofNat_of_zero_le hd.1
  have e1 := or32_l 24 (a * 16777216) (b * 65536) (by omega) (by omega) (by omega) (by omega)
  have e2 := or32_l 16 (a * 16777216 + b * 65536) (c * 256) (by omega) (by omega) (by omega) (by omega)
  have e3 := or32_l 8 (a * 16777216 + b * 65536 + c * 256) d (by omega) (by omega) (by omega) (by omega)
  simp only [Int.natCast_mul, Int.natCast_add, Int.cast_ofNat_Int] at e1 e2 e3
  rw [e1, e2, e3]
  rfl

end Go.Proofs.Ybulkbdfm
