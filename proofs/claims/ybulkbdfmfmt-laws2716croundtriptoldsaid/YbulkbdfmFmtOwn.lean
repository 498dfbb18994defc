/-
  ROWS OF BYTES THAT THE CALL OWNS, AS SLICES OF BYTES; the five octets of an MTP3 header, plainly.
-/
import Derived.Test.YbulkbdfmFmtProg
import Derived.Test.YbulkbdfmFmtBase
import Derived.OwnWalk
import Derived.Laws.OwnMore
import Derived.Laws.BitsAllLaws
namespace Go.Proofs.YbulkbdfmFmt
open Go.RowKit

theorem info5 : (Ybaf.prog.info? 5).map (fun i => (i.zero, i.size, i.bytes)) = some (some (.int .u8 0), 1, 1) := by kernel_rfl

/-- A ROW OF BYTES THAT THE CALL OWNS, AS A SLICE OF BYTES. -/
theorem sl_of_own {w : World} {base g n cap : Nat} {A : List Int} (h : w.ownsRow base 5 1 (.slice (some ⟨g, 0, none⟩) n cap) n (A.map (Value.int .u8))) (hA : ∀ x ∈ A, 0 ≤ x ∧ x ≤ 255) : Sl w (some ⟨g, 0, none⟩) n cap A := by
  have hl : A.length = n := by have := h.1; simpa using this
  have hc : n ≤ cap ∧ cap ≤ maxLen := by
    rcases h.2 with ⟨h', _⟩ | ⟨g', cap', cur, h', _, _, h1, h2, _⟩
    · simp at h'
    · simp at h'; obtain ⟨_, rfl⟩ := h'; exact ⟨h1, h2⟩
  refine ⟨hl, hc.1, hc.2, fun h => (by cases h), fun x hx t ht => ?_, hA⟩
  cases hx
  rw [Addr.add_lit, Nat.zero_add, h.cellAt t (by omega)]
  simp [List.getD, show t < A.length by omega]

theorem sl_take {w : World} {ao : Option Addr} {len cap : Nat} {A : List Int} (h : Sl w ao len cap A) (n : Nat) (hn : n ≤ len) : Sl w ao n cap (A.take n) := by
  refine ⟨by simp [h.hlen]; omega, by have := h.fits; omega, h.room, fun e => ⟨by have := (h.nil e).1; omega, (h.nil e).2⟩, fun x hx t ht => ?_, fun x hx => h.bytes x (List.mem_of_mem_take hx)⟩
  rw [h.cells x hx t (by omega)]
  simp [List.getD, ht]

theorem Sl.news {w : World} {ao : Option Addr} {len cap : Nat} {A : List Int} (h : Sl w ao len cap A) : ∀ ad, ao = some ad → ∀ j u, (A.map (Value.int .u8))[j]? = some u → w.cell? (ad.add j) = some u := by
  intro ad had j u hu
  have hj : j < A.length := by have := (List.getElem?_eq_some_iff.1 hu).1; simpa using this
  rw [h.cells ad had j (by rw [← h.hlen]; exact hj)]
  simp [hj] at hu
  simp [List.getD, hj, hu]


/-! ### the five octets -/
theorem or32_r (i : Nat) (x y : Nat) (hx : x % 2 ^ i = 0) (hy : y < 2 ^ i) (bx : x < 4294967296) (by' : y < 4294967296) : bits .or .u32 (y : Int) (x : Int) = ((x + y : Nat) : Int) := by
  rw [u32_or_nat y x by' bx, Nat.or_comm, nat_join i x y hx hy]

/-- 'uint32(dpc) | uint32(opc)<<14 | uint32(sls)<<28'. -/
theorem label_eq (dpc opc sls : Int) (d0 : 0 ≤ dpc) (d1 : dpc ≤ 16383) (o0 : 0 ≤ opc) (o1 : opc ≤ 16383) (l0 : 0 ≤ sls) (l1 : sls ≤ 15) :
    bits .or .u32 (bits .or .u32 dpc (opc * 16384)) (sls * 268435456) = dpc + opc * 16384 + sls * 268435456 := by
  obtain ⟨a, rfl⟩ := Int.eq_ofNat_of_zero_le d0
  obtain ⟨b, rfl⟩ := Int.eq_ofNat_of_zero_le o0
  obtain ⟨c, rfl⟩ := Int.eq_ofNat_of_zero_le l0
  have e1 := or32_r 14 (b * 16384) a (by omega) (by omega) (by omega) (by omega)
  have e2 := or32_r 28 (c * 268435456) (b * 16384 + a) (by omega) (by omega) (by omega) (by omega)
  simp only [Int.natCast_mul, Int.natCast_add, Int.cast_ofNat_Int] at e1 e2
  rw [e1, e2]
  omega

theorem sio_eq (net svc : Int) (n0 : 0 ≤ net) (n1 : net ≤ 3) (s0 : 0 ≤ svc) (s1 : svc ≤ 15) : bits .or .u8 (net * 64) svc = net * 64 + svc := by
  obtain ⟨a, rfl⟩ := Int.eq_ofNat_of_zero_le n0
  obtain ⟨b, rfl⟩ := Int.eq_ofNat_of_zero_le s0
  have e := u8_or_nat (a * 64) b (by omega) (by omega)
  rw [nat_join 6 (a * 64) b (by omega) (by omega)] at e
  simp only [Int.natCast_mul, Int.natCast_add, Int.cast_ofNat_Int] at e
  exact e

theorem and255 (x : Int) (h0 : 0 ≤ x) (h1 : x ≤ 16383) : bits .and .u16 x 255 = x % 256 := by
  obtain ⟨a, rfl⟩ := Int.eq_ofNat_of_zero_le h0
  have e := u16_and_nat a 255 (by omega) (by omega)
  rw [nat_mask8] at e
  simpa using e

theorem and3 (x : Int) (h0 : 0 ≤ x) (h1 : x ≤ 16383) : bits .and .u16 x 3 = x % 4 := by
  obtain ⟨a, rfl⟩ := Int.eq_ofNat_of_zero_le h0
  have e := u16_and_nat a 3 (by omega) (by omega)
  rw [nat_mask2] at e
  simpa using e

/-- THE FIVE OCTETS, as the law lays them out by hand. -/
def five (net svc dpc opc sls : Int) : List Int := [net * 64 + svc, dpc % 256, dpc / 256 + opc % 4 * 64, opc / 4 % 256, opc / 1024 + sls * 16]

theorem five_eq (net svc dpc opc sls : Int) (n0 : 0 ≤ net) (n1 : net ≤ 3) (s0 : 0 ≤ svc) (s1 : svc ≤ 15) (d0 : 0 ≤ dpc) (d1 : dpc ≤ 16383) (o0 : 0 ≤ opc) (o1 : opc ≤ 16383) (l0 : 0 ≤ sls) (l1 : sls ≤ 15) :
    ([bits .or .u8 (net * 64) svc, bits .or .u32 (bits .or .u32 dpc (opc * 16384)) (sls * 268435456) % 256, bits .or .u32 (bits .or .u32 dpc (opc * 16384)) (sls * 268435456) / 256 % 256,
      bits .or .u32 (bits .or .u32 dpc (opc * 16384)) (sls * 268435456) / 65536 % 256, bits .or .u32 (bits .or .u32 dpc (opc * 16384)) (sls * 268435456) / 16777216 % 256] : List Int) = five net svc dpc opc sls := by
  rw [label_eq dpc opc sls d0 d1 o0 o1 l0 l1, sio_eq net svc n0 n1 s0 s1]
  unfold five
  congr 1
  congr 1
  · omega
  congr 1
  · omega
  congr 1
  · omega
  congr 1
  omega

theorem five_range (net svc dpc opc sls : Int) (n0 : 0 ≤ net) (n1 : net ≤ 3) (s0 : 0 ≤ svc) (s1 : svc ≤ 15) (d0 : 0 ≤ dpc) (d1 : dpc ≤ 16383) (o0 : 0 ≤ opc) (o1 : opc ≤ 16383) (l0 : 0 ≤ sls) (l1 : sls ≤ 15) :
    ∀ x ∈ five net svc dpc opc sls, 0 ≤ x ∧ x ≤ 255 := by
  intro x hx
  simp only [five, List.mem_cons, List.not_mem_nil, or_false] at hx
  omega

end Go.Proofs.YbulkbdfmFmt
