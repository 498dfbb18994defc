/-
  THE WALK OVER (*mtp3.Frame).Parse (function 11), at a frame of five octets and more.
-/
import Derived.Test.YbulkbdfmFmtOwn
import Derived.WalkSpells
import Derived.WalkLawsBesides
import Derived.Deep.QuietTactic
import Derived.BigQuiet
namespace Go.Proofs.YbulkbdfmFmt
open Go.RowKit

/-- 'x1 | x2<<8 | x3<<16 | x4<<24'. -/
theorem lab_eq (x1 x2 x3 x4 : Int) (b1 : 0 ≤ x1 ∧ x1 ≤ 255) (b2 : 0 ≤ x2 ∧ x2 ≤ 255) (b3 : 0 ≤ x3 ∧ x3 ≤ 255) (b4 : 0 ≤ x4 ∧ x4 ≤ 255) :
    bits .or .u32 (bits .or .u32 (bits .or .u32 x1 (x2 * 256)) (x3 * 65536)) (x4 * 16777216) = x1 + x2 * 256 + x3 * 65536 + x4 * 16777216 := by
  obtain ⟨d, rfl⟩ := Int.eq_ofNat_of_zero_le b1.1
  obtain ⟨c, rfl⟩ := Int.eq_ofNat_of_zero_le b2.1
  obtain ⟨b, rfl⟩ := Int.eq_ofNat_of_zero_le b3.1
  obtain ⟨a, rfl⟩ := Int.eq_ofNat_of_zero_le b4.1
  have e1 := or32_r 8 (c * 256) d (by omega) (by omega) (by omega) (by omega)
  have e2 := or32_r 16 (b * 65536) (c * 256 + d) (by omega) (by omega) (by omega) (by omega)
  have e3 := or32_r 24 (a * 16777216) (b * 65536 + (c * 256 + d)) (by omega) (by omega) (by omega) (by omega)
  simp only [Int.natCast_mul, Int.natCast_add, Int.cast_ofNat_Int] at e1 e2 e3
  rw [e1, e2, e3]
  omega

theorem and14 (x : Int) (h0 : 0 ≤ x) (h1 : x < 4294967296) : IntKind.u16.wrap (bits .and .u32 x 16383) = x % 16384 := by
  obtain ⟨a, rfl⟩ := Int.eq_ofNat_of_zero_le h0
  have e := u32_and_nat a 16383 (by omega) (by omega)
  rw [show a &&& 16383 = a % 16384 from Nat.and_two_pow_sub_one_eq_mod a 14] at e
  have e' : bits .and .u32 (a : Int) 16383 = (a : Int) % 16384 := by simpa using e
  rw [e', IntKind.wrap_u16]
  omega

/-- WHAT Parse READS OUT OF THE FIVE OCTETS. -/
theorem parse_vals (net svc dpc opc sls x0 x1 x2 x3 x4 : Int) (_n0 : 0 ≤ net) (_n1 : net ≤ 3) (s0 : 0 ≤ svc) (s1 : svc ≤ 15) (d0 : 0 ≤ dpc) (d1 : dpc ≤ 16383) (o0 : 0 ≤ opc) (o1 : opc ≤ 16383) (l0 : 0 ≤ sls) (l1 : sls ≤ 15)
    (h : [x0, x1, x2, x3, x4] = five net svc dpc opc sls) :
    x0 / 64 = net ∧ x0 % 16 = svc ∧ IntKind.u16.wrap (bits .and .u32 (bits .or .u32 (bits .or .u32 (bits .or .u32 x1 (x2 * 256)) (x3 * 65536)) (x4 * 16777216)) 16383) = dpc ∧
      IntKind.u16.wrap (bits .and .u32 (bits .or .u32 (bits .or .u32 (bits .or .u32 x1 (x2 * 256)) (x3 * 65536)) (x4 * 16777216) / 16384) 16383) = opc ∧
      bits .or .u32 (bits .or .u32 (bits .or .u32 x1 (x2 * 256)) (x3 * 65536)) (x4 * 16777216) / 268435456 % 256 = sls := by
  simp only [five, List.cons.injEq, and_true] at h
  obtain ⟨h0, h1, h2, h3, h4⟩ := h
  rw [lab_eq x1 x2 x3 x4 (by omega) (by omega) (by omega) (by omega)]
  refine ⟨by omega, by omega, ?_, ?_, by omega⟩
  · rw [and14 _ (by omega) (by omega)]; omega
  · rw [and14 _ (by omega) (by omega)]; omega

/-- WHAT LIES IN THE FRAME BEHIND Parse. -/
structure Parsed (w : World) (p : Nat) (net svc dpc opc sls : Int) (ad : Addr) (l c : Nat) : Prop where
  f0 : w.cell? ⟨p, 0, none⟩ = some (.int .u8 net)
  f1 : w.cell? ⟨p, 1, none⟩ = some (.int .u8 svc)
  f2 : w.cell? ⟨p, 2, none⟩ = some (.int .u16 dpc)
  f3 : w.cell? ⟨p, 3, none⟩ = some (.int .u16 opc)
  f4 : w.cell? ⟨p, 4, none⟩ = some (.int .u8 sls)
  f5 : w.cell? ⟨p, 5, none⟩ = some (.slice (some ad) l c)

set_option maxHeartbeats 1000000 in
set_option maxRecDepth 100000 in
theorem parse_far (g len cap : Nat) (net svc dpc opc sls x0 x1 x2 x3 x4 : Int) (w : World) (hl : 5 ≤ len) (hm : len ≤ 4096) (_hcap : len ≤ cap) (hgp : g < w.heap.size)
    (c0 : w.cell? ⟨g, 0, none⟩ = some (.int .u8 x0)) (c1 : w.cell? ⟨g, 1, none⟩ = some (.int .u8 x1)) (c2 : w.cell? ⟨g, 2, none⟩ = some (.int .u8 x2)) (c3 : w.cell? ⟨g, 3, none⟩ = some (.int .u8 x3)) (c4 : w.cell? ⟨g, 4, none⟩ = some (.int .u8 x4))
    (b0 : 0 ≤ x0 ∧ x0 ≤ 255) (b1 : 0 ≤ x1 ∧ x1 ≤ 255) (b2 : 0 ≤ x2 ∧ x2 ≤ 255) (b3 : 0 ≤ x3 ∧ x3 ≤ 255) (b4 : 0 ≤ x4 ∧ x4 ≤ 255)
    (HV : Hid (x0 / 64 = net ∧ x0 % 16 = svc ∧ IntKind.u16.wrap (bits .and .u32 (bits .or .u32 (bits .or .u32 (bits .or .u32 x1 (x2 * 256)) (x3 * 65536)) (x4 * 16777216)) 16383) = dpc ∧
      IntKind.u16.wrap (bits .and .u32 (bits .or .u32 (bits .or .u32 (bits .or .u32 x1 (x2 * 256)) (x3 * 65536)) (x4 * 16777216) / 16384) 16383) = opc ∧
      bits .or .u32 (bits .or .u32 (bits .or .u32 x1 (x2 * 256)) (x3 * 65536)) (x4 * 16777216) / 268435456 % 256 = sls)) (h5 : ¬ cap = 5) :
    Calls Ybaf.prog 11 #[.pointer (some ⟨w.heap.size, 0, none⟩), .slice (some ⟨g, 0, none⟩) len cap] (w.alloc (.cells #[.int .u8 0, .int .u8 0, .int .u16 0, .int .u16 0, .int .u8 0, .slice none 0 0] 33)) fun e w' => e = .returned .nilIface ∧
      Parsed w' w.heap.size net svc dpc opc sls ⟨g, 5, none⟩ (len - 5) (cap - 5) ∧ Below w.heap.size w w' := by
  have i0 : (0 : Int) < (len : Int) := by omega
  have i1 : (1 : Int) < (len : Int) := by omega
  have i2 : (2 : Int) < (len : Int) := by omega
  have i3 : (3 : Int) < (len : Int) := by omega
  have i4 : (4 : Int) < (len : Int) := by omega
  have i5 : (5 : Int) ≤ (len : Int) := by omega
  go_enter Ybaf.func11, Ybaf.ntmps11
  go_wp2
  go_quiet (fail)
  go_wp2
  go_ret
  obtain ⟨v0, v1, v2, v3, v4⟩ := HV.out
  rw [v0, v1, v2, v3, v4]
  refine ⟨rfl, ⟨?_, ?_, ?_, ?_, ?_, ?_⟩, ?_⟩
  · go_simp
  · go_simp
  · go_simp
  · go_simp
  · go_simp
  · go_simp
  exact ((((((below_drewN ((Below.refl _ _).alloc (Nat.le_refl _) _) _).setCell (Nat.le_refl _) _).setCell (Nat.le_refl _) _).setCell (Nat.le_refl _) _).setCell (Nat.le_refl _) _).setCell (Nat.le_refl _) _).setCell (Nat.le_refl _) _

set_option maxHeartbeats 1000000 in
set_option maxRecDepth 100000 in
theorem parse_edge (g len cap : Nat) (net svc dpc opc sls x0 x1 x2 x3 x4 : Int) (w : World) (hl : 5 ≤ len) (hm : len ≤ 4096) (_hcap : len ≤ cap) (hgp : g < w.heap.size)
    (c0 : w.cell? ⟨g, 0, none⟩ = some (.int .u8 x0)) (c1 : w.cell? ⟨g, 1, none⟩ = some (.int .u8 x1)) (c2 : w.cell? ⟨g, 2, none⟩ = some (.int .u8 x2)) (c3 : w.cell? ⟨g, 3, none⟩ = some (.int .u8 x3)) (c4 : w.cell? ⟨g, 4, none⟩ = some (.int .u8 x4))
    (b0 : 0 ≤ x0 ∧ x0 ≤ 255) (b1 : 0 ≤ x1 ∧ x1 ≤ 255) (b2 : 0 ≤ x2 ∧ x2 ≤ 255) (b3 : 0 ≤ x3 ∧ x3 ≤ 255) (b4 : 0 ≤ x4 ∧ x4 ≤ 255)
    (HV : Hid (x0 / 64 = net ∧ x0 % 16 = svc ∧ IntKind.u16.wrap (bits .and .u32 (bits .or .u32 (bits .or .u32 (bits .or .u32 x1 (x2 * 256)) (x3 * 65536)) (x4 * 16777216)) 16383) = dpc ∧
      IntKind.u16.wrap (bits .and .u32 (bits .or .u32 (bits .or .u32 (bits .or .u32 x1 (x2 * 256)) (x3 * 65536)) (x4 * 16777216) / 16384) 16383) = opc ∧
      bits .or .u32 (bits .or .u32 (bits .or .u32 x1 (x2 * 256)) (x3 * 65536)) (x4 * 16777216) / 268435456 % 256 = sls)) (h5 : cap = 5) :
    Calls Ybaf.prog 11 #[.pointer (some ⟨w.heap.size, 0, none⟩), .slice (some ⟨g, 0, none⟩) len cap] (w.alloc (.cells #[.int .u8 0, .int .u8 0, .int .u16 0, .int .u16 0, .int .u8 0, .slice none 0 0] 33)) fun e w' => e = .returned .nilIface ∧
      Parsed w' w.heap.size net svc dpc opc sls ⟨g, 0, none⟩ (len - 5) (cap - 5) ∧ Below w.heap.size w w' := by
  have i0 : (0 : Int) < (len : Int) := by omega
  have i1 : (1 : Int) < (len : Int) := by omega
  have i2 : (2 : Int) < (len : Int) := by omega
  have i3 : (3 : Int) < (len : Int) := by omega
  have i4 : (4 : Int) < (len : Int) := by omega
  have i5 : (5 : Int) ≤ (len : Int) := by omega
  go_enter Ybaf.func11, Ybaf.ntmps11
  go_wp2
  go_quiet (fail)
  go_wp2
  go_ret
  obtain ⟨v0, v1, v2, v3, v4⟩ := HV.out
  rw [v0, v1, v2, v3, v4]
  refine ⟨rfl, ⟨?_, ?_, ?_, ?_, ?_, ?_⟩, ?_⟩
  · go_simp
  · go_simp
  · go_simp
  · go_simp
  · go_simp
  · go_simp
  exact ((((((below_drewN ((Below.refl _ _).alloc (Nat.le_refl _) _) _).setCell (Nat.le_refl _) _).setCell (Nat.le_refl _) _).setCell (Nat.le_refl _) _).setCell (Nat.le_refl _) _).setCell (Nat.le_refl _) _).setCell (Nat.le_refl _) _

end Go.Proofs.YbulkbdfmFmt
