/-
  THE WALKS OVER vpn.elementSize (function 7), way by way; fmt.Errorf by a contract (function 13).
-/
import Derived.Test.YbulkbdfmFmtFmt
import Derived.Test.YbulkbdfmFmtBase
import Derived.WalkKit
import Derived.WalkSpells
import Derived.WalkLawsBesides
import Derived.Deep.RegionWith
import Derived.Below
namespace Go.Proofs.YbulkbdfmFmt
open Go.RowKit Go.Extern.Stop Go.Stop Go.Extern
attribute [local go_sem] call14 guard fmt0 fmt0r fmt1 fmt1r fmt2 fmt2r fmt3 fmt3r fmt4 fmt4r fmt5 fmt5r fmt6 fmt6r fmt7 fmt7r op5_100 op5_100w op5_120 op5_120w op31_100 op31_100w op3_100 op3_100w ptr44 elem44 isError44

theorem and128 (z : Int) (h0 : 0 ≤ z) (h1 : z ≤ 255) : bits .and .u8 z 128 = if 128 ≤ z then 128 else 0 := by
  obtain ⟨n, rfl⟩ := Int.eq_ofNat_of_zero_le h0
  have hn : n < 256 := by omega
  have key : ∀ n : Fin 256, bits .and .u8 ((n : Nat) : Int) 128 = if (128 : Int) ≤ ((n : Nat) : Int) then 128 else 0 := by decide +kernel
  exact key ⟨n, hn⟩

set_option maxHeartbeats 400000 in
theorem es_empty (a : Option Addr) (cap : Nat) (w : World) :
    Calls Ybaf.prog 7 #[.slice a 0 cap] w fun e w' => e = .returned (.tuple #[.int .i64 0, .iface 44 (.pointer (some ⟨w.heap.size, 0, none⟩))]) ∧ Below w.heap.size w w' := by
  go_enter Ybaf.func7, Ybaf.ntmps7
  go_wp2
  go_ret2
  exact ⟨rfl, (Below.refl _ _).alloc (Nat.le_refl _) _⟩

set_option maxHeartbeats 400000 in
theorem es_hi (b off len cap : Nat) (z : Int) (w : World) (hl : 0 < len) (hm : len ≤ 4096) (hc : w.cell? ⟨b, off, none⟩ = some (.int .u8 z)) (hz : 128 ≤ z) (hz2 : z ≤ 255) :
    Calls Ybaf.prog 7 #[.slice (some ⟨b, off, none⟩) len cap] w fun e w' => e = .returned (.tuple #[.int .i64 1, .nilIface]) ∧ Below w.heap.size w w' := by
  have ha : (bits .and .u8 z 128 != 0) = true := by rw [and128 z (by omega) hz2, if_pos hz]; rfl
  have h0 : ((len : Int) == 0) = false := beq_eq_false_iff_ne.2 (by omega)
  go_enter Ybaf.func7, Ybaf.ntmps7
  go_wp2
  go_ret2
  exact ⟨rfl, Below.refl _ _⟩

set_option maxRecDepth 100000 in
set_option maxHeartbeats 400000 in
theorem errorf_0 (F : Interp) (x : Int) (blk : Nat) (w : World) (hF : F.answers w.tape) (hc0 : w.cell? ⟨blk, 0, none⟩ = some (.iface 5 (.int .u8 x))) :
    Calls Ybaf.prog 13 #[.string ⟨#[105, 110, 102, 111, 114, 109, 97, 116, 105, 111, 110, 32, 101, 108, 101, 109, 101, 110, 116, 32, 37, 48, 50, 120, 32, 101, 110, 100, 115, 32, 98, 101, 102, 111, 114, 101, 32, 105, 116, 115, 32, 108, 101, 110, 103, 116, 104, 32, 111, 99, 116, 101, 116]⟩, .slice (some ⟨blk, 0, none⟩) 1 1] w fun e w' =>
      e = .returned (.iface 44 (.pointer (some ⟨w.heap.size, 0, none⟩))) ∧ Below w.heap.size w w' := by
  have hF' := answers_open hF
  go_enter Ybaf.func13, Ybaf.ntmps13
  go_wp2
  go_ret
  exact ⟨rfl, ((Below.refl _ _).alloc (Nat.le_refl _) _).drew⟩

set_option maxRecDepth 100000 in
set_option maxHeartbeats 400000 in
theorem errorf_1 (F : Interp) (x y n : Int) (blk : Nat) (w : World) (hF : F.answers w.tape) (hc0 : w.cell? ⟨blk, 0, none⟩ = some (.iface 5 (.int .u8 x))) (hc1 : w.cell? ⟨blk, 1, none⟩ = some (.iface 5 (.int .u8 y))) (hc2 : w.cell? ⟨blk, 2, none⟩ = some (.iface 3 (.int .i64 n))) :
    Calls Ybaf.prog 13 #[.string ⟨#[105, 110, 102, 111, 114, 109, 97, 116, 105, 111, 110, 32, 101, 108, 101, 109, 101, 110, 116, 32, 37, 48, 50, 120, 32, 97, 110, 110, 111, 117, 110, 99, 101, 115, 32, 37, 100, 32, 111, 99, 116, 101, 116, 115, 32, 111, 102, 32, 99, 111, 110, 116, 101, 110, 116, 115, 32, 97, 110, 100, 32, 104, 97, 115, 32, 37, 100]⟩, .slice (some ⟨blk, 0, none⟩) 3 3] w fun e w' =>
      e = .returned (.iface 44 (.pointer (some ⟨w.heap.size, 0, none⟩))) ∧ Below w.heap.size w w' := by
  have hF' := answers_open hF
  go_enter Ybaf.func13, Ybaf.ntmps13
  go_wp2
  go_ret
  exact ⟨rfl, ((Below.refl _ _).alloc (Nat.le_refl _) _).drew⟩

set_option maxHeartbeats 400000 in
theorem es_short (F : Interp) (b off cap : Nat) (z : Int) (w : World) (hF : F.answers w.tape) (hc : w.cell? ⟨b, off, none⟩ = some (.int .u8 z)) (hz0 : 0 ≤ z) (hz : z < 128) :
    Calls Ybaf.prog 7 #[.slice (some ⟨b, off, none⟩) 1 cap] w fun e w' => (∃ a, e = .returned (.tuple #[.int .i64 0, .iface 44 (.pointer (some a))])) ∧ Below w.heap.size w w' := by
  have ha : (bits .and .u8 z 128 != 0) = false := by rw [and128 z (by omega) (by omega), if_neg (by omega)]; rfl
  go_enter Ybaf.func7, Ybaf.ntmps7
  go_wp2_with (go_at_call 13; refine (errorf_0 F z _ _ ?_ ?_).mono ?_; (simpa using hF); go_simp; rintro e w' ⟨rfl, hb⟩)
  go_ret2
  exact ⟨⟨_, rfl⟩, ((Below.refl _ _).alloc (Nat.le_refl _) _).trans (hb.mono (by simp))⟩

set_option maxHeartbeats 400000 in
theorem es_ok (b off len cap : Nat) (z y : Int) (w : World) (hl : 2 ≤ len) (hm : len ≤ 4096) (hc : w.cell? ⟨b, off, none⟩ = some (.int .u8 z)) (hc1 : w.cell? ⟨b, off + 1, none⟩ = some (.int .u8 y)) (hz0 : 0 ≤ z) (hz : z < 128) (hy0 : 0 ≤ y) (hy : y ≤ 255) (hfit : y ≤ (len : Int) - 2) :
    Calls Ybaf.prog 7 #[.slice (some ⟨b, off, none⟩) len cap] w fun e w' => e = .returned (.tuple #[.int .i64 (2 + y), .nilIface]) ∧ Below w.heap.size w w' := by
  have ha : (bits .and .u8 z 128 != 0) = false := by rw [and128 z (by omega) (by omega), if_neg (by omega)]; rfl
  have h0 : ((len : Int) == 0) = false := beq_eq_false_iff_ne.2 (by omega)
  go_enter Ybaf.func7, Ybaf.ntmps7
  go_wp2
  go_ret2
  exact ⟨rfl, Below.refl _ _⟩

set_option maxHeartbeats 1000000 in
theorem es_over (F : Interp) (b off len cap : Nat) (z y : Int) (w : World) (hF : F.answers w.tape) (hl : 2 ≤ len) (hm : len ≤ 4096) (hc : w.cell? ⟨b, off, none⟩ = some (.int .u8 z)) (hc1 : w.cell? ⟨b, off + 1, none⟩ = some (.int .u8 y)) (hz0 : 0 ≤ z) (hz : z < 128) (hy0 : 0 ≤ y) (hy : y ≤ 255) (hfit : (len : Int) - 2 < y) :
    Calls Ybaf.prog 7 #[.slice (some ⟨b, off, none⟩) len cap] w fun e w' => (∃ a, e = .returned (.tuple #[.int .i64 0, .iface 44 (.pointer (some a))])) ∧ Below w.heap.size w w' := by
  have ha : (bits .and .u8 z 128 != 0) = false := by rw [and128 z (by omega) (by omega), if_neg (by omega)]; rfl
  have h0 : ((len : Int) == 0) = false := beq_eq_false_iff_ne.2 (by omega)
  go_enter Ybaf.func7, Ybaf.ntmps7
  go_wp2
  go_region_with (go_at_call 13; refine (errorf_1 F z y ((len : Int) - 2) _ _ ?_ ?_ ?_ ?_).mono ?_; (simpa using hF); go_simp; go_simp; go_simp; rintro e w' ⟨rfl, hb⟩)
  all_goals (try go_wp2)
  all_goals go_ret2
  all_goals exact ⟨⟨_, rfl⟩, (((Below.refl _ _).drew).alloc (Nat.le_refl _) _).trans (hb.mono (by simp))⟩

theorem es_no (F : Interp) {ao : Option Addr} {len cap : Nat} {A : List Int} (w : World) (hF : F.answers w.tape) (h : Sl w ao len cap A) (hm : len ≤ 4096) (hok : esOk A = false) :
    Calls Ybaf.prog 7 #[.slice ao len cap] w fun e w' => (∃ a, e = .returned (.tuple #[.int .i64 0, .iface 44 (.pointer (some a))])) ∧ Below w.heap.size w w' := by
  match A, h, hok with
  | [], h, _ =>
    obtain rfl : 0 = len := h.hlen
    exact (es_empty ao cap w).mono fun e w' ⟨he, hb⟩ => ⟨⟨_, he⟩, hb⟩
  | [z], h, hok =>
    obtain rfl : 1 = len := h.hlen
    obtain ⟨x, rfl⟩ : ∃ x, ao = some x := by cases ao with | none => exact absurd (h.nil rfl).1 (by omega) | some x => exact ⟨x, rfl⟩
    have hb := h.bytes z (by simp)
    have hz : z < 128 := by
      have := hok; simp only [esOk] at this; split at this <;> first | (cases this; done) | omega
    obtain ⟨b, off, rfl, hc⟩ := Sl.at h (by omega)
    exact es_short F b off cap z w hF (by simpa using hc 0 (by omega)) hb.1 hz
  | z :: y :: r, h, hok =>
    obtain rfl : r.length + 1 + 1 = len := h.hlen
    obtain ⟨x, rfl⟩ : ∃ x, ao = some x := by cases ao with | none => exact absurd (h.nil rfl).1 (by omega) | some x => exact ⟨x, rfl⟩
    have hb := h.bytes z (by simp)
    have hy := h.bytes y (by simp)
    have hz : z < 128 ∧ ((r.length + 1 + 1 : Nat) : Int) - 2 < y := by
      have := hok; simp only [esOk, List.length_cons] at this; split at this
      · cases this
      · split at this
        · exact ⟨by omega, by omega⟩
        · cases this
    obtain ⟨b, off, rfl, hc⟩ := Sl.at h (by omega)
    exact es_over F b off _ cap z y w hF (by omega) hm (by simpa using hc 0 (by omega)) (by simpa using hc 1 (by omega)) hb.1 hz.1 hy.1 hy.2 hz.2

theorem es_yes {ao : Option Addr} {len cap : Nat} {A : List Int} (w : World) (h : Sl w ao len cap A) (hm : len ≤ 4096) (hok : esOk A = true) (n : Int) (hn : esN A = n) :
    Calls Ybaf.prog 7 #[.slice ao len cap] w fun e w' => e = .returned (.tuple #[.int .i64 n, .nilIface]) ∧ Below w.heap.size w w' := by
  match A, h, hok, hn with
  | [], h, hok, _ => cases hok
  | z :: r, h, hok, hn =>
    have hl : r.length + 1 = len := h.hlen
    obtain ⟨x, rfl⟩ : ∃ x, ao = some x := by cases ao with | none => exact absurd (h.nil rfl).1 (by omega) | some x => exact ⟨x, rfl⟩
    have hb := h.bytes z (by simp)
    obtain ⟨b, off, rfl, hc⟩ := Sl.at h (by omega)
    by_cases hz : 128 ≤ z
    · have : n = 1 := by rw [← hn]; simp [esN, hz]
      subst this
      exact es_hi b off len cap z w (by omega) hm (by simpa using hc 0 (by omega)) hz hb.2
    · match r, h, hok, hn, hl, hc with
      | [], h, hok, hn, hl, hc => simp [esOk, hz] at hok
      | y :: r, h, hok, hn, hl, hc =>
        have hy := h.bytes y (by simp)
        have hl' : r.length + 1 + 1 = len := hl
        have hfit : ¬ (r.length : Int) + 1 - 1 < y := by
          intro hlt
          simp only [esOk, if_neg hz, List.length_cons] at hok
          rw [if_pos (by omega)] at hok
          cases hok
        have : n = 2 + y := by
          rw [← hn]
          simp only [esN, if_neg hz, List.length_cons]
          rw [if_neg (by omega)]
        subst this
        exact es_ok b off len cap z y w (by omega) hm (by simpa using hc 0 (by omega)) (by simpa using hc 1 (by omega)) hb.1 (by omega) hy.1 hy.2 (by omega)

end Go.Proofs.YbulkbdfmFmt
