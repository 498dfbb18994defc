/-
  THE WALK OVER vpn.LawS2716ATrailing (function 4).
-/
import Derived.Test.YbulkbdfmFmtElem
import Derived.Laws.OwnMore
import Derived.OwnWalk
namespace Go.Proofs.YbulkbdfmFmt
open Go.RowKit Go.Extern.Stop Go.Stop Go.Extern

/-! ### plain laws on elementSize's function -/
theorem esN_range (A : List Int) (hA : ∀ n ∈ A, 0 ≤ n ∧ n ≤ 255) (h : esOk A = true) : 1 ≤ esN A ∧ esN A ≤ A.length := by
  match A, hA, h with
  | [], _, h => cases h
  | z :: r, hA, h =>
    by_cases hz : 128 ≤ z
    · simp only [esN, if_pos hz, List.length_cons]; omega
    · match r, hA, h with
      | [], hA, h => simp [esOk, hz] at h
      | y :: r, hA, h =>
        have hy := hA y (by simp)
        simp only [esOk, esN, if_neg hz, List.length_cons] at h ⊢
        split at h
        · cases h
        · rename_i hlt
          rw [if_neg hlt]
          omega

theorem es_append (A X : List Int) (h : esOk A = true) : esOk (A ++ X) = true ∧ esN (A ++ X) = esN A := by
  match A, h with
  | [], h => cases h
  | z :: r, h =>
    by_cases hz : 128 ≤ z
    · simp [esN, esOk, hz]
    · match r, h with
      | [], h => simp [esOk, hz] at h
      | y :: r, h =>
        simp only [esOk, esN, if_neg hz, List.length_cons, List.cons_append, List.length_append] at h ⊢
        split at h
        · cases h
        · rename_i hlt
          rw [if_neg hlt, if_neg (by omega), if_neg (by omega)]
          exact ⟨rfl, rfl⟩

theorem es_take (A : List Int) (n : Nat) (hA : ∀ n ∈ A, 0 ≤ n ∧ n ≤ 255) (h : esOk A = true) (hn : esN A = n) : esOk (A.take n) = true ∧ esN (A.take n) = n := by
  have hr := esN_range A hA h
  match A, hA, h, hn, hr with
  | [], _, h, _, _ => cases h
  | z :: r, hA, h, hn, hr =>
    obtain ⟨m, rfl⟩ : ∃ m, n = m + 1 := ⟨n - 1, by omega⟩
    by_cases hz : 128 ≤ z
    · simp only [esN, if_pos hz] at hn
      simp [esN, esOk, hz]; omega
    · match r, hA, h, hn, hr with
      | [], hA, h, _, _ => simp [esOk, hz] at h
      | y :: r, hA, h, hn, hr =>
        have hy := hA y (by simp)
        simp only [esOk, esN, if_neg hz, List.length_cons] at h hn hr
        split at h
        · cases h
        · rename_i hlt
          rw [if_neg hlt] at hn hr
          obtain ⟨k, rfl⟩ : ∃ k, m = k + 1 := ⟨m - 1, by omega⟩
          simp only [List.take_succ_cons, esOk, esN, if_neg hz, List.length_cons, List.length_take]
          rw [if_neg (by omega), if_neg (by omega)]
          exact ⟨rfl, hn⟩

theorem info5 : (Ybaf.prog.info? 5).map (fun i => (i.zero, i.size, i.bytes)) = some (some (.int .u8 0), 1, 1) := by kernel_rfl

/-- A ROW OF BYTES THAT THE CALL OWNS, AS A SLICE OF BYTES. -/
theorem sl_of_own {w : World} {base g n cap : Nat} {A : List Int} (h : w.ownsRow base 5 1 (.slice (some ⟨g, 0, none⟩) n cap) n (A.map (Value.int .u8))) (hA : ∀ x ∈ A, 0 ≤ x ∧ x ≤ 255) : Sl w (some ⟨g, 0, none⟩) n cap A := by
  have hl : A.length = n := by have := h.1; simpa using this
  have hc : n ≤ cap ∧ cap ≤ maxLen := by
    rcases h.2 with ⟨h', _⟩ | ⟨g', cap', cur, h', _, _, h1, h2, _⟩
    · simp at h'
    · simp at h'; obtain ⟨_, rfl⟩ := h'; exact ⟨h1, h2⟩
  refine ⟨hl, hc.1, hc.2, fun h => (by cases h), fun x hx t ht => ?_, hA⟩
  cases hx
  rw [Addr.add_lit, Nat.zero_add, h.cellAt t (by omega)]
  simp [List.getD, show t < A.length by omega]

theorem sl_take {w : World} {ao : Option Addr} {len cap : Nat} {A : List Int} (h : Sl w ao len cap A) (n : Nat) (hn : n ≤ len) : Sl w ao n cap (A.take n) := by
  refine ⟨by simp [h.hlen]; omega, by have := h.fits; omega, h.room, fun e => ⟨by have := (h.nil e).1; omega, (h.nil e).2⟩, fun x hx t ht => ?_, fun x hx => h.bytes x (List.mem_of_mem_take hx)⟩
  rw [h.cells x hx t (by omega)]
  simp [List.getD, ht]

theorem Sl.news {w : World} {ao : Option Addr} {len cap : Nat} {A : List Int} (h : Sl w ao len cap A) : ∀ ad, ao = some ad → ∀ j u, (A.map (Value.int .u8))[j]? = some u → w.cell? (ad.add j) = some u := by
  intro ad had j u hu
  have hj : j < A.length := by have := (List.getElem?_eq_some_iff.1 hu).1; simpa using this
  rw [h.cells ad had j (by rw [← h.hlen]; exact hj)]
  simp [hj] at hu
  simp [List.getD, hj, hu]

set_option maxHeartbeats 400000 in
theorem trailing_any (F : Interp) (a0 : Option Addr) (len0 cap0 : Nat) (z0 : List Int) (a1 : Option Addr) (len1 cap1 : Nat) (z1 : List Int) (w : World) (hF : F.answers w.tape) (w0 : IsRow .u8 w a0 len0 cap0 z0) (w1 : IsRow .u8 w a1 len1 cap1 z1) :
    Calls Ybaf.prog 4 #[.slice a0 len0 cap0, .slice a1 len1 cap1] w fun e w' => e = .returned (.bool true) ∧ Below w.heap.size w w' := by
  have s0 := w0.sl
  have s1 := w1.sl
  clear w0 w1
  generalize z0.take len0 = A at s0
  generalize z1.take len1 = X at s1
  by_cases h0 : 1024 < len0
  · go_enter Ybaf.func4, Ybaf.ntmps4
    go_wp2
    go_ret
    exact ⟨rfl, Below.refl _ _⟩
  by_cases h1 : 1024 < len1
  · go_enter Ybaf.func4, Ybaf.ntmps4
    go_wp2
    go_ret
    exact ⟨rfl, Below.refl _ _⟩
  cases hok : esOk A with
  | false =>
    have HK : Hid (esOk A = false) := hok
    clear hok
    go_enter Ybaf.func4, Ybaf.ntmps4
    go_wp2_with (go_at_call 7; refine (es_no F _ hF s0 (by omega) HK.out).mono ?_; rintro e w' ⟨⟨a, rfl⟩, hb⟩)
    go_ret
    exact ⟨rfl, hb⟩
  | true =>
    have hr := esN_range A s0.bytes hok
    obtain ⟨n, hn⟩ : ∃ n : Nat, esN A = n := Int.eq_ofNat_of_zero_le (by omega)
    rw [hn, s0.hlen] at hr
    have HK : Hid (esOk A = true) := hok
    have HN : Hid (esN A = n) := hn
    clear hok hn
    obtain ⟨hr1, hr2⟩ := hr
    go_enter Ybaf.func4, Ybaf.ntmps4
    go_wp2_with fail
    refine (es_yes _ s0 (by omega) HK.out n HN.out).mono ?_
    rintro e w1 ⟨rfl, hb1⟩
    have hl0 := s0.hlen
    have hl1 := s1.hlen
    have HL0 : Hid (A.length = len0) := hl0
    have HL1 : Hid (X.length = len1) := hl1
    clear hl0 hl1
    obtain ⟨i0, hi, hz0, hz1, hz2⟩ := info_parts info5
    go_wp2_with (at_make; refine wpList_make_own _ rfl _ _ 22 rfl w.heap.size 5 i0 (.int .u8 0) 1 Ybaf.underlying22 hi hz0 hz1 _ _ _ (len0 + len1) rfl rfl (by omega) ?b2 ?b3 ?b4 ?_)
    case b2 => rw [hz2]; omega
    case b3 => unfold maxLen; omega
    case b4 => exact hb1.size
    intro w2 hown2 hgrow2
    have hb2 : Below w.heap.size w w2 := hb1.grown hgrow2 hb1.size (fun k h => by cases h)
    have t0 := s0.below hb2
    go_wp2_with (at_builtin; refine wpList_append_fits_any _ rfl (.tmp 43) (.tmp 44) 22 rfl w.heap.size 5 i0 1 Ybaf.underlying22 hi hz1 w1.heap.size 0 (len0 + len1) [] rfl hown2 a0 len0 cap0 (A.map (Value.int .u8)) rfl ?c0 ?c1 ?c2 ?c3 ?c4 ?_)
    case c0 => simp [HL0.out]
    case c1 => exact t0.nil
    case c2 => exact t0.news
    case c3 => exact ints_oneCell _ _
    case c4 => omega
    intro w3 hown3 hgrow3
    have hb3 : Below w.heap.size w w3 := hb2.grown hgrow3 hb2.size (fun k h => by cases h; exact hb1.size)
    have t1 := s1.below hb3
    try simp only [Nat.zero_add, List.nil_append] at hown3
    go_wp2_with (at_builtin; refine wpList_append_fits_any _ rfl (.tmp 46) (.tmp 47) 22 rfl w.heap.size 5 i0 1 Ybaf.underlying22 hi hz1 w1.heap.size len0 (len0 + len1) (A.map (Value.int .u8)) rfl hown3 a1 len1 cap1 (X.map (Value.int .u8)) rfl ?d0 ?d1 ?d2 ?d3 ?d4 ?_)
    case d0 => simp [HL1.out]
    case d1 => exact t1.nil
    case d2 => exact t1.news
    case d3 => exact ints_oneCell _ _
    case d4 => omega
    intro w4 hown4 hgrow4
    have hb4 : Below w.heap.size w w4 := hb3.grown hgrow4 hb3.size (fun k h => by cases h; exact hb1.size)
    rw [← List.map_append] at hown4
    have sc := sl_of_own hown4 (fun x hx => (List.mem_append.1 hx).elim (s0.bytes x) (s1.bytes x))
    have ap := es_append A X HK.out
    have HA : Hid (esOk (A ++ X) = true ∧ esN (A ++ X) = n) := ⟨ap.1, ap.2.trans HN.out⟩
    clear ap t0 t1 hown2 hown3 hown4
    go_wp2_with fail
    refine (es_yes _ sc (by omega) HA.out.1 n HA.out.2).mono ?_
    rintro e w5 ⟨rfl, hb5⟩
    have hb5' : Below w.heap.size w w5 := hb4.trans (hb5.mono hb4.size)
    have st := sl_take (s0.below hb5') n (by omega)
    have tk := es_take A n s0.bytes HK.out HN.out
    have HT : Hid (esOk (A.take n) = true ∧ esN (A.take n) = n) := tk
    clear tk
    have hcap : n ≤ cap0 := by have := s0.fits; omega
    go_wp2_with fail
    refine (es_yes _ st (by omega) HT.out.1 n HT.out.2).mono ?_
    rintro e w6 ⟨rfl, hb6⟩
    go_wp2
    go_ret
    exact ⟨rfl, hb5'.trans (hb6.mono hb5'.size)⟩
end Go.Proofs.YbulkbdfmFmt
