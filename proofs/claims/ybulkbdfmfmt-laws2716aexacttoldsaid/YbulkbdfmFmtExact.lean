/-
  THE WALKS OVER vpn.zzs2716amodel (function 8) AND vpn.LawS2716AExact (function 3).
-/
import Derived.Test.YbulkbdfmFmtElem
namespace Go.Proofs.YbulkbdfmFmt
open Go.RowKit Go.Extern.Stop Go.Stop Go.Extern

set_option maxHeartbeats 400000 in
theorem mo_empty (a : Option Addr) (cap : Nat) (w : World) :
    Calls Ybaf.prog 8 #[.slice a 0 cap] w fun e w' => e = .returned (.tuple #[.int .i64 0, .bool false]) ∧ Below w.heap.size w w' := by
  go_enter Ybaf.func8, Ybaf.ntmps8
  go_wp2
  go_ret2
  exact ⟨rfl, Below.refl _ _⟩

set_option maxHeartbeats 400000 in
theorem mo_hi (b off len cap : Nat) (z : Int) (w : World) (hl : 0 < len) (hm : len ≤ 4096) (hc : w.cell? ⟨b, off, none⟩ = some (.int .u8 z)) (hz : 128 ≤ z) :
    Calls Ybaf.prog 8 #[.slice (some ⟨b, off, none⟩) len cap] w fun e w' => e = .returned (.tuple #[.int .i64 1, .bool true]) ∧ Below w.heap.size w w' := by
  have h0 : ((len : Int) == 0) = false := beq_eq_false_iff_ne.2 (by omega)
  go_enter Ybaf.func8, Ybaf.ntmps8
  go_wp2
  go_ret2
  exact ⟨rfl, Below.refl _ _⟩

set_option maxHeartbeats 400000 in
theorem mo_short (b off cap : Nat) (z : Int) (w : World) (hc : w.cell? ⟨b, off, none⟩ = some (.int .u8 z)) (hz : z < 128) :
    Calls Ybaf.prog 8 #[.slice (some ⟨b, off, none⟩) 1 cap] w fun e w' => e = .returned (.tuple #[.int .i64 0, .bool false]) ∧ Below w.heap.size w w' := by
  go_enter Ybaf.func8, Ybaf.ntmps8
  go_wp2
  go_ret2
  exact ⟨rfl, Below.refl _ _⟩

set_option maxHeartbeats 400000 in
theorem mo_ok (b off len cap : Nat) (z y : Int) (w : World) (hl : 2 ≤ len) (hm : len ≤ 4096) (hc : w.cell? ⟨b, off, none⟩ = some (.int .u8 z)) (hc1 : w.cell? ⟨b, off + 1, none⟩ = some (.int .u8 y)) (hz : z < 128) (hy0 : 0 ≤ y) (hy : y ≤ 255) (hfit : y ≤ (len : Int) - 2) :
    Calls Ybaf.prog 8 #[.slice (some ⟨b, off, none⟩) len cap] w fun e w' => e = .returned (.tuple #[.int .i64 (y + 2), .bool true]) ∧ Below w.heap.size w w' := by
  have h0 : ((len : Int) == 0) = false := beq_eq_false_iff_ne.2 (by omega)
  go_enter Ybaf.func8, Ybaf.ntmps8
  go_wp2
  go_ret2
  exact ⟨rfl, Below.refl _ _⟩

set_option maxHeartbeats 400000 in
theorem mo_over (b off len cap : Nat) (z y : Int) (w : World) (hl : 2 ≤ len) (hm : len ≤ 4096) (hc : w.cell? ⟨b, off, none⟩ = some (.int .u8 z)) (hc1 : w.cell? ⟨b, off + 1, none⟩ = some (.int .u8 y)) (hz : z < 128) (hy0 : 0 ≤ y) (hy : y ≤ 255) (hfit : (len : Int) - 2 < y) :
    Calls Ybaf.prog 8 #[.slice (some ⟨b, off, none⟩) len cap] w fun e w' => e = .returned (.tuple #[.int .i64 0, .bool false]) ∧ Below w.heap.size w w' := by
  have h0 : ((len : Int) == 0) = false := beq_eq_false_iff_ne.2 (by omega)
  go_enter Ybaf.func8, Ybaf.ntmps8
  go_wp2
  go_ret2
  exact ⟨rfl, Below.refl _ _⟩

theorem mo_no {ao : Option Addr} {len cap : Nat} {A : List Int} (w : World) (h : Sl w ao len cap A) (hm : len ≤ 4096) (hok : esOk A = false) :
    Calls Ybaf.prog 8 #[.slice ao len cap] w fun e w' => e = .returned (.tuple #[.int .i64 0, .bool false]) ∧ Below w.heap.size w w' := by
  match A, h, hok with
  | [], h, _ =>
    obtain rfl : 0 = len := h.hlen
    exact mo_empty ao cap w
  | [z], h, hok =>
    obtain rfl : 1 = len := h.hlen
    obtain ⟨x, rfl⟩ : ∃ x, ao = some x := by cases ao with | none => exact absurd (h.nil rfl).1 (by omega) | some x => exact ⟨x, rfl⟩
    have hz : z < 128 := by
      have := hok; simp only [esOk] at this; split at this <;> first | (cases this; done) | omega
    obtain ⟨b, off, rfl, hc⟩ := Sl.at h (by omega)
    exact mo_short b off cap z w (by simpa using hc 0 (by omega)) hz
  | z :: y :: r, h, hok =>
    obtain rfl : r.length + 1 + 1 = len := h.hlen
    obtain ⟨x, rfl⟩ : ∃ x, ao = some x := by cases ao with | none => exact absurd (h.nil rfl).1 (by omega) | some x => exact ⟨x, rfl⟩
    have hy := h.bytes y (by simp)
    have hz : z < 128 ∧ ((r.length + 1 + 1 : Nat) : Int) - 2 < y := by
      have := hok; simp only [esOk, List.length_cons] at this; split at this
      · cases this
      · split at this
        · exact ⟨by omega, by omega⟩
        · cases this
    obtain ⟨b, off, rfl, hc⟩ := Sl.at h (by omega)
    exact mo_over b off _ cap z y w (by omega) hm (by simpa using hc 0 (by omega)) (by simpa using hc 1 (by omega)) hz.1 hy.1 hy.2 hz.2

theorem mo_yes {ao : Option Addr} {len cap : Nat} {A : List Int} (w : World) (h : Sl w ao len cap A) (hm : len ≤ 4096) (hok : esOk A = true) (n : Int) (hn : esN A = n) :
    Calls Ybaf.prog 8 #[.slice ao len cap] w fun e w' => e = .returned (.tuple #[.int .i64 n, .bool true]) ∧ Below w.heap.size w w' := by
  match A, h, hok, hn with
  | [], h, hok, _ => cases hok
  | z :: r, h, hok, hn =>
    have hl : r.length + 1 = len := h.hlen
    obtain ⟨x, rfl⟩ : ∃ x, ao = some x := by cases ao with | none => exact absurd (h.nil rfl).1 (by omega) | some x => exact ⟨x, rfl⟩
    obtain ⟨b, off, rfl, hc⟩ := Sl.at h (by omega)
    by_cases hz : 128 ≤ z
    · have : n = 1 := by rw [← hn]; simp [esN, hz]
      subst this
      exact mo_hi b off len cap z w (by omega) hm (by simpa using hc 0 (by omega)) hz
    · match r, h, hok, hn, hl, hc with
      | [], h, hok, hn, hl, hc => simp [esOk, hz] at hok
      | y :: r, h, hok, hn, hl, hc =>
        have hy := h.bytes y (by simp)
        have hl' : r.length + 1 + 1 = len := hl
        have hfit : ¬ (r.length : Int) + 1 - 1 < y := by
          intro hlt
          simp only [esOk, if_neg hz, List.length_cons] at hok
          rw [if_pos (by omega)] at hok
          cases hok
        have : n = y + 2 := by
          rw [← hn]
          simp only [esN, if_neg hz, List.length_cons]
          rw [if_neg (by omega)]
          omega
        subst this
        exact mo_ok b off len cap z y w (by omega) hm (by simpa using hc 0 (by omega)) (by simpa using hc 1 (by omega)) (by omega) hy.1 hy.2 (by omega)

set_option maxHeartbeats 400000 in
theorem exact_any (F : Interp) (a0 : Option Addr) (len0 cap0 : Nat) (z0 : List Int) (w : World) (hF : F.answers w.tape) (w0 : IsRow .u8 w a0 len0 cap0 z0) :
    Calls Ybaf.prog 3 #[.slice a0 len0 cap0] w fun e w' => e = .returned (.bool true) ∧ Below w.heap.size w w' := by
  have s0 := w0.sl
  clear w0
  generalize z0.take len0 = A at s0
  by_cases h0 : 1024 < len0
  · go_enter Ybaf.func3, Ybaf.ntmps3
    go_wp2
    go_ret
    exact ⟨rfl, Below.refl _ _⟩
  cases hok : esOk A with
  | false =>
    have HK : Hid (esOk A = false) := hok
    clear hok
    go_enter Ybaf.func3, Ybaf.ntmps3
    go_wp2_with fail
    refine (es_no F _ hF s0 (by omega) HK.out).mono ?_
    rintro e w1 ⟨⟨a, rfl⟩, hb1⟩
    go_wp2_with fail
    refine (mo_no _ (s0.below hb1) (by omega) HK.out).mono ?_
    rintro e w2 ⟨rfl, hb2⟩
    go_wp2
    go_ret
    exact ⟨rfl, hb1.trans (hb2.mono hb1.size)⟩
  | true =>
    obtain ⟨n, hn⟩ : ∃ n, esN A = n := ⟨_, rfl⟩
    have HK : Hid (esOk A = true) := hok
    have HN : Hid (esN A = n) := hn
    clear hok hn
    go_enter Ybaf.func3, Ybaf.ntmps3
    go_wp2_with fail
    refine (es_yes _ s0 (by omega) HK.out n HN.out).mono ?_
    rintro e w1 ⟨rfl, hb1⟩
    go_wp2_with fail
    refine (mo_yes _ (s0.below hb1) (by omega) HK.out n HN.out).mono ?_
    rintro e w2 ⟨rfl, hb2⟩
    go_wp2
    go_ret
    exact ⟨rfl, hb1.trans (hb2.mono hb1.size)⟩
end Go.Proofs.YbulkbdfmFmt
