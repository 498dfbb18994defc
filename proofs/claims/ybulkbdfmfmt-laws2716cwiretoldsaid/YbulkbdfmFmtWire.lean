/-
  THE WALK OVER mtp3.LawS2716CWire (function 5).
-/
import Derived.Test.YbulkbdfmFmtApp
import Derived.Test.YbulkbdfmFmtAppOk
import Derived.Test.YbulkbdfmFmtEq
import Derived.Laws.CopyOwn
namespace Go.Proofs.YbulkbdfmFmt
open Go.RowKit Go.Extern.Stop Go.Stop Go.Extern

theorem Sl.newsI {w : World} {ao : Option Addr} {len cap : Nat} {A : List Int} (h : Sl w ao len cap A) : ∀ ad, ao = some ad → ∀ (j : Nat) (a : Int), A[j]? = some a → w.cell? (ad.add j) = some (Value.int .u8 a) := by
  intro ad had j a hu
  exact h.news ad had j _ (by simp [hu])

/-- A row that the call made whole, as a block. -/
theorem own_block {w : World} {base g n cap : Nat} {xs : List Value} (h : w.ownsRow base 5 1 (.slice (some ⟨g, 0, none⟩) n cap) n xs) (hn : n = cap) : base ≤ g ∧ w.heap[g]? = some (.cells xs.toArray 5 (0, 0)) := by
  rcases h.2 with ⟨h', _⟩ | ⟨g', cap', cur, h', hb, hg, _, _, hs, ht⟩
  · simp at h'
  · simp at h'
    obtain ⟨rfl, rfl⟩ := h'
    subst hn
    refine ⟨hb, ?_⟩
    rw [hg, ← ht, List.take_of_length_le (by simp [hs])]

theorem splice_all {α : Type} (L cs : List α) (h : cs.length = L.length) : splice L 0 cs = cs := by
  simp [splice, h]

/-- The row behind the copy. -/
theorem own_copied {w : World} {base g n : Nat} {A : List Int} (hb : base ≤ g) (hm : n ≤ maxLen) (hA : A.length = n) (h : w.heap[g]? = some (.cells (A.map (Value.int .u8)).toArray 5 (0, 0))) :
    w.ownsRow base 5 1 (.slice (some ⟨g, 0, none⟩) n n) n (A.map (Value.int .u8)) :=
  ⟨by simp [hA], .inr ⟨g, n, _, rfl, hb, h, Nat.le_refl _, hm, by simp [hA], by simp [hA, List.take_of_length_le]⟩⟩

theorem size5 : (Ybaf.prog.info? 5).map (·.size) = some 1 := by kernel_rfl

set_option maxHeartbeats 400000 in
theorem wire_long0 (a0 : Option Addr) (len0 cap0 : Nat) (net svc dpc opc sls : Int) (a6 : Option Addr) (len6 cap6 : Nat) (w : World) (h : 1024 < len0) :
    Calls Ybaf.prog 5 #[.slice a0 len0 cap0, .int .u8 net, .int .u8 svc, .int .u16 dpc, .int .u16 opc, .int .u8 sls, .slice a6 len6 cap6] w fun e w' => e = .returned (.bool true) ∧ Below w.heap.size w w' := by
  go_enter Ybaf.func5, Ybaf.ntmps5
  go_wp2
  go_ret
  exact ⟨rfl, Below.refl _ _⟩

set_option maxHeartbeats 400000 in
theorem wire_long6 (a0 : Option Addr) (len0 cap0 : Nat) (net svc dpc opc sls : Int) (a6 : Option Addr) (len6 cap6 : Nat) (w : World) (h0 : len0 ≤ 1024) (h : 1024 < len6) :
    Calls Ybaf.prog 5 #[.slice a0 len0 cap0, .int .u8 net, .int .u8 svc, .int .u16 dpc, .int .u16 opc, .int .u8 sls, .slice a6 len6 cap6] w fun e w' => e = .returned (.bool true) ∧ Below w.heap.size w w' := by
  go_enter Ybaf.func5, Ybaf.ntmps5
  go_wp2
  go_ret
  exact ⟨rfl, Below.refl _ _⟩

set_option maxHeartbeats 1000000 in
set_option maxRecDepth 100000 in
theorem wire_bad (F : Interp) (a0 : Option Addr) (len0 cap0 : Nat) (A : List Int) (net svc dpc opc sls : Int) (a6 : Option Addr) (len6 cap6 : Nat) (P : List Int) (w : World) (hF : F.answers w.tape)
    (sa : Sl w a0 len0 cap0 A) (_sp : Sl w a6 len6 cap6 P) (h0 : len0 ≤ 1024) (h6 : len6 ≤ 1024)
    (n0 : 0 ≤ net) (s0 : 0 ≤ svc) (d0 : 0 ≤ dpc) (o0 : 0 ≤ opc) (l0 : 0 ≤ sls) (hbad : badF net svc dpc opc sls) :
    Calls Ybaf.prog 5 #[.slice a0 len0 cap0, .int .u8 net, .int .u8 svc, .int .u16 dpc, .int .u16 opc, .int .u8 sls, .slice a6 len6 cap6] w fun e w' => e = .returned (.bool true) ∧ Below w.heap.size w w' := by
  obtain ⟨i0, hi, hz0, hz1, hz2⟩ := info_parts info5
  have HL : Hid (A.length = len0) := sa.hlen
  go_enter Ybaf.func5, Ybaf.ntmps5
  go_wp2_with (at_make; refine wpList_make_full _ rfl _ _ 22 rfl w.heap.size 5 i0 (.int .u8 0) 1 Ybaf.underlying22 hi hz0 hz1 _ _ _ _ len0 rfl rfl rfl rfl ?b2 ?b3 (Nat.le_refl _) ?_)
  case b2 => rw [hz2]; omega
  case b3 => unfold maxLen; omega
  intro w1 hown1 hgrow1
  have hb1 : Below w.heap.size w w1 := (Below.refl _ _).grown hgrow1 (Nat.le_refl _) (fun k h => by cases h)
  have hblk := (own_block hown1 rfl).2
  have t1 := sa.below hb1
  go_wp2_with (refine wpList_copy_splice rfl (.tmp 32) (.tmp 33) 22 22 rfl 5 Ybaf.underlying22 size5 (some ⟨w.heap.size, 0, none⟩) a0 len0 len0 len0 cap0 rfl rfl w.heap.size 0 _ 5 hblk (A.map (Value.int .u8)) ?c1 ?c2 ?c3 (ints_oneCell _ _) w.heap.size w hb1 (Nat.le_refl _) ?_)
  case c1 => simp [HL.out]
  case c2 =>
    intro hpos
    try refine ⟨rfl, ?_⟩
    cases a0 with
    | none => have := (sa.nil rfl).1; have := HL.out; omega
    | some ad => exact ⟨ad, rfl, t1.newsI ad rfl⟩
  case c3 => have := hown1.1; simp at this ⊢; have := HL.out; omega
  intro w2 hg2 hb2
  have hown2 : w2.ownsRow w.heap.size 5 1 (.slice (some ⟨w.heap.size, 0, none⟩) len0 len0) len0 (A.map (Value.int .u8)) := by
    refine own_copied (Nat.le_refl _) (by unfold maxLen; omega) HL.out ?_
    rw [← splice_all _ (A.map (Value.int .u8)) ?_]
    exact hg2.out
    have := hown1.1; simp at this ⊢; have := HL.out; omega
  clear hown1 hgrow1 hblk t1 hg2
  have hbA : Below w.heap.size w (w2.alloc (.cells #[.int .u8 net, .int .u8 svc, .int .u16 dpc, .int .u16 opc, .int .u8 sls, .slice a6 len6 cap6] 33)) := hb2.alloc hb2.size _
  have hlt2 := (hown2.lt w.heap.size rfl).2
  have HB : Hid (badF net svc dpc opc sls) := hbad
  clear hbad
  go_wp2_with fail
  refine (ab_bad F net svc dpc opc sls _ _ _ ?hf HB.out).mono ?_
  case hf => rw [hbA.tape]; exact hF
  rintro e w3 ⟨⟨a, rfl⟩, hb3⟩
  have hb3' : Below w.heap.size w w3 := hbA.trans (hb3.mono (by simp; omega))
  have s1 : Sl w3 (some ⟨w.heap.size, 0, none⟩) len0 len0 A := by
    have q := sl_of_own hown2 sa.bytes
    exact q.below (((Below.refl _ _).alloc (Nat.le_refl _) _).trans (hb3.mono (by simp)))
  have s2 := sa.below hb3'
  clear hown2 hb3 hbA
  have hc : 3 < net ∨ (¬ 3 < net ∧ 15 < svc) ∨ (¬ 3 < net ∧ ¬ 15 < svc ∧ 16383 < dpc) ∨ (¬ 3 < net ∧ ¬ 15 < svc ∧ ¬ 16383 < dpc ∧ 16383 < opc) ∨ (¬ 3 < net ∧ ¬ 15 < svc ∧ ¬ 16383 < dpc ∧ ¬ 16383 < opc ∧ 15 < sls) := by
    have := HB.out; unfold badF at this; omega
  rcases hc with h | ⟨g1, h⟩ | ⟨g1, g2, h⟩ | ⟨g1, g2, g3, h⟩ | ⟨g1, g2, g3, g4, h⟩
  all_goals
    go_wp2_with fail
    refine (ceq_any _ s1 s2 (by omega)).mono ?_
    rintro e w4 ⟨rfl, hb4⟩
    go_wp2
    go_ret
    exact ⟨rfl, hb3'.trans (hb4.mono hb3'.size)⟩

set_option maxHeartbeats 1000000 in
set_option maxRecDepth 100000 in
theorem wire_ok (a0 : Option Addr) (len0 cap0 : Nat) (A : List Int) (net svc dpc opc sls : Int) (a6 : Option Addr) (len6 cap6 : Nat) (P : List Int) (w : World)
    (sa : Sl w a0 len0 cap0 A) (sp : Sl w a6 len6 cap6 P) (h0 : len0 ≤ 1024) (h6 : len6 ≤ 1024)
    (n0 : 0 ≤ net) (n1 : net ≤ 3) (s0 : 0 ≤ svc) (s1 : svc ≤ 15) (d0 : 0 ≤ dpc) (d1 : dpc ≤ 16383) (o0 : 0 ≤ opc) (o1 : opc ≤ 16383) (l0 : 0 ≤ sls) (l1 : sls ≤ 15) :
    Calls Ybaf.prog 5 #[.slice a0 len0 cap0, .int .u8 net, .int .u8 svc, .int .u16 dpc, .int .u16 opc, .int .u8 sls, .slice a6 len6 cap6] w fun e w' => e = .returned (.bool true) ∧ Below w.heap.size w w' := by
  obtain ⟨i0, hi, hz0, hz1, hz2⟩ := info_parts info5
  have HL : Hid (A.length = len0) := sa.hlen
  go_enter Ybaf.func5, Ybaf.ntmps5
  go_wp2_with (at_make; refine wpList_make_full _ rfl _ _ 22 rfl w.heap.size 5 i0 (.int .u8 0) 1 Ybaf.underlying22 hi hz0 hz1 _ _ _ _ len0 rfl rfl rfl rfl ?b2 ?b3 (Nat.le_refl _) ?_)
  case b2 => rw [hz2]; omega
  case b3 => unfold maxLen; omega
  intro w1 hown1 hgrow1
  have hb1 : Below w.heap.size w w1 := (Below.refl _ _).grown hgrow1 (Nat.le_refl _) (fun k h => by cases h)
  have hblk := (own_block hown1 rfl).2
  have t1 := sa.below hb1
  go_wp2_with (refine wpList_copy_splice rfl (.tmp 32) (.tmp 33) 22 22 rfl 5 Ybaf.underlying22 size5 (some ⟨w.heap.size, 0, none⟩) a0 len0 len0 len0 cap0 rfl rfl w.heap.size 0 _ 5 hblk (A.map (Value.int .u8)) ?c1 ?c2 ?c3 (ints_oneCell _ _) w.heap.size w hb1 (Nat.le_refl _) ?_)
  case c1 => simp [HL.out]
  case c2 =>
    intro hpos
    try refine ⟨rfl, ?_⟩
    cases a0 with
    | none => have := (sa.nil rfl).1; have := HL.out; omega
    | some ad => exact ⟨ad, rfl, t1.newsI ad rfl⟩
  case c3 => have := hown1.1; simp at this ⊢; have := HL.out; omega
  intro w2 hg2 hb2
  have hown2 : w2.ownsRow w.heap.size 5 1 (.slice (some ⟨w.heap.size, 0, none⟩) len0 len0) len0 (A.map (Value.int .u8)) := by
    refine own_copied (Nat.le_refl _) (by unfold maxLen; omega) HL.out ?_
    rw [← splice_all _ (A.map (Value.int .u8)) ?_]
    exact hg2.out
    have := hown1.1; simp at this ⊢; have := HL.out; omega
  clear hown1 hgrow1 hblk t1 hg2
  go_wp2_with fail
  refine (ab_ok net svc dpc opc sls a6 len6 cap6 P _ len0 _ w _ (hb2.alloc hb2.size _) sp (hown2.alloc _) (by omega) (by omega) n0 n1 s0 s1 d0 d1 o0 o1 l0 l1).mono ?_
  rintro e w3 ⟨v3, rfl, hown3, hb3⟩
  obtain ⟨g3, cap3, rfl, hg3⟩ : ∃ g c, v3 = .slice (some ⟨g, 0, none⟩) (len0 + 5 + len6) c ∧ g < w3.heap.size := by
    have hl := hown3.lt
    rcases hown3.2 with ⟨_, h'⟩ | ⟨g, c, cur, rfl, _, hh, _⟩
    · omega
    · exact ⟨g, c, rfl, (hl g rfl).2⟩
  have hO : Sl w3 (some ⟨g3, 0, none⟩) (len0 + 5 + len6) cap3 (A ++ five net svc dpc opc sls ++ P) := by
    refine sl_of_own (base := w.heap.size) ?_ ?_
    · simpa using hown3
    · intro x hx
      rcases List.mem_append.1 hx with hx | hx
      · rcases List.mem_append.1 hx with hx | hx
        · exact sa.bytes x hx
        · exact five_range net svc dpc opc sls n0 n1 s0 s1 d0 d1 o0 o1 l0 l1 x hx
      · exact sp.bytes x hx
  clear hown2 hown3 hb2
  go_wp2_with (at_make; refine wpList_make_own _ rfl _ _ 22 rfl w3.heap.size 5 i0 (.int .u8 0) 1 Ybaf.underlying22 hi hz0 hz1 _ _ _ (len0 + 5 + len6) rfl rfl (by omega) ?e2 ?e3 (Nat.le_refl _) ?_)
  case e2 => rw [hz2]; omega
  case e3 => unfold maxLen; omega
  intro w4 hown4 hgrow4
  have q4 : Below w3.heap.size w3 w4 := (Below.refl _ _).grown hgrow4 (Nat.le_refl _) (fun k h => by cases h)
  have t4 := sa.below (hb3.trans (q4.mono hb3.size))
  go_wp2_with (at_builtin; refine wpList_append_fits_any _ rfl (.tmp 81) (.tmp 82) 22 rfl w3.heap.size 5 i0 1 Ybaf.underlying22 hi hz1 w3.heap.size 0 (len0 + 5 + len6) [] rfl hown4 a0 len0 cap0 (A.map (Value.int .u8)) rfl ?f0 ?f1 ?f2 ?f3 ?f4 ?_)
  case f0 => simp [HL.out]
  case f1 => exact t4.nil
  case f2 => exact t4.news
  case f3 => exact ints_oneCell _ _
  case f4 => omega
  intro w5 hown5 hgrow5
  have q5 : Below w3.heap.size w3 w5 := q4.grown hgrow5 q4.size (fun k h => by cases h; exact Nat.le_refl _)
  try simp only [Nat.zero_add, List.nil_append] at hown5
  clear hown4 hgrow4 hgrow5 t4 q4
  have e1 := and255 dpc d0 d1
  have e2 := and3 opc o0 o1
  have e3 := and255 (opc / 4) (by omega) (by omega)
  go_wp2_with (at_builtin; refine wpList_append_fits _ rfl (.tmp 84) (.tmp 89) 22 rfl w3.heap.size 5 i0 1 Ybaf.underlying22 hi hz1 w3.heap.size len0 (len0 + 5 + len6) _ rfl (hown5.alloc _) ⟨w5.heap.size, 0, none⟩ 1 1 [.int .u8 (net * 64 + svc)] rfl rfl ?x0 ?y0 ?z0 ?_)
  case x0 => exact cell_one_new _ _ _
  case y0 => intro u hu; simp at hu; subst hu; rfl
  case z0 => omega
  intro w6 hown6 hgrow6
  have q6 : Below w3.heap.size w3 w6 := (q5.alloc q5.size _).grown hgrow6 (by have := q5.size; simp; omega) (fun k h => by cases h; exact Nat.le_refl _)
  clear hown5 hgrow6 q5
  go_wp2_with (at_builtin; refine wpList_append_fits _ rfl (.tmp 91) (.tmp 95) 22 rfl w3.heap.size 5 i0 1 Ybaf.underlying22 hi hz1 w3.heap.size (len0 + 1) (len0 + 5 + len6) _ rfl (hown6.alloc _) ⟨w6.heap.size, 0, none⟩ 1 1 [.int .u8 (dpc % 256)] rfl rfl ?x1 ?y1 ?z1 ?_)
  case x1 => exact cell_one_new _ _ _
  case y1 => intro u hu; simp at hu; subst hu; rfl
  case z1 => omega
  intro w7 hown7 hgrow7
  have q7 : Below w3.heap.size w3 w7 := (q6.alloc q6.size _).grown hgrow7 (by have := q6.size; simp; omega) (fun k h => by cases h; exact Nat.le_refl _)
  clear hown6 hgrow7 q6
  go_wp2_with (at_builtin; refine wpList_append_fits _ rfl (.tmp 97) (.tmp 106) 22 rfl w3.heap.size 5 i0 1 Ybaf.underlying22 hi hz1 w3.heap.size (len0 + 2) (len0 + 5 + len6) _ rfl (hown7.alloc _) ⟨w7.heap.size, 0, none⟩ 1 1 [.int .u8 (dpc / 256 + opc % 4 * 64)] rfl rfl ?x2 ?y2 ?z2 ?_)
  case x2 => exact cell_one_new _ _ _
  case y2 => intro u hu; simp at hu; subst hu; rfl
  case z2 => omega
  intro w8 hown8 hgrow8
  have q8 : Below w3.heap.size w3 w8 := (q7.alloc q7.size _).grown hgrow8 (by have := q7.size; simp; omega) (fun k h => by cases h; exact Nat.le_refl _)
  clear hown7 hgrow8 q7
  go_wp2_with (at_builtin; refine wpList_append_fits _ rfl (.tmp 108) (.tmp 113) 22 rfl w3.heap.size 5 i0 1 Ybaf.underlying22 hi hz1 w3.heap.size (len0 + 3) (len0 + 5 + len6) _ rfl (hown8.alloc _) ⟨w8.heap.size, 0, none⟩ 1 1 [.int .u8 (opc / 4 % 256)] rfl rfl ?x3 ?y3 ?z3 ?_)
  case x3 => exact cell_one_new _ _ _
  case y3 => intro u hu; simp at hu; subst hu; rfl
  case z3 => omega
  intro w9 hown9 hgrow9
  have q9 : Below w3.heap.size w3 w9 := (q8.alloc q8.size _).grown hgrow9 (by have := q8.size; simp; omega) (fun k h => by cases h; exact Nat.le_refl _)
  clear hown8 hgrow9 q8
  go_wp2_with (at_builtin; refine wpList_append_fits _ rfl (.tmp 115) (.tmp 122) 22 rfl w3.heap.size 5 i0 1 Ybaf.underlying22 hi hz1 w3.heap.size (len0 + 4) (len0 + 5 + len6) _ rfl (hown9.alloc _) ⟨w9.heap.size, 0, none⟩ 1 1 [.int .u8 (opc / 1024 + sls * 16)] rfl rfl ?x4 ?y4 ?z4 ?_)
  case x4 => exact cell_one_new _ _ _
  case y4 => intro u hu; simp at hu; subst hu; rfl
  case z4 => omega
  intro w10 hown10 hgrow10
  have q10 : Below w3.heap.size w3 w10 := (q9.alloc q9.size _).grown hgrow10 (by have := q9.size; simp; omega) (fun k h => by cases h; exact Nat.le_refl _)
  clear hown9 hgrow10 q9
  have t10 := sp.below (hb3.trans (q10.mono hb3.size))
  have HP : Hid (P.length = len6) := sp.hlen
  go_wp2_with (at_builtin; refine wpList_append_fits_any _ rfl (.tmp 124) (.tmp 125) 22 rfl w3.heap.size 5 i0 1 Ybaf.underlying22 hi hz1 w3.heap.size (len0 + 5) (len0 + 5 + len6) _ rfl hown10 a6 len6 cap6 (P.map (Value.int .u8)) rfl ?g0 ?g1 ?g2 ?g3 ?g4 ?_)
  case g0 => simp [HP.out]
  case g1 => exact t10.nil
  case g2 => exact t10.news
  case g3 => exact ints_oneCell _ _
  case g4 => omega
  intro w11 hown11 hgrow11
  have q11 : Below w3.heap.size w3 w11 := q10.grown hgrow11 q10.size (fun k h => by cases h; exact Nat.le_refl _)
  have hW : Sl w11 (some ⟨w3.heap.size, 0, none⟩) (len0 + 5 + len6) (len0 + 5 + len6) (A ++ five net svc dpc opc sls ++ P) := by
    refine sl_of_own (base := w3.heap.size) ?_ hO.bytes
    simpa [five] using hown11
  have hO' := hO.below q11
  have q12 : Below w.heap.size w w11 := hb3.trans (q11.mono hb3.size)
  clear hown10 hgrow11 q10 t10 hown11 e1 e2 e3
  go_wp2_with fail
  refine (ceq_any _ hO' hW (by omega)).mono ?_
  rintro e w12 ⟨rfl, hb12⟩
  go_wp2
  go_ret
  exact ⟨rfl, q12.trans (hb12.mono q12.size)⟩

theorem wire_any (F : Interp) (a0 : Option Addr) (len0 cap0 : Nat) (z0 : List Int) (net svc dpc opc sls : Int) (a6 : Option Addr) (len6 cap6 : Nat) (z6 : List Int) (w : World) (hF : F.answers w.tape)
    (w0 : IsRow .u8 w a0 len0 cap0 z0) (w1 : (Lit.int .u8 net).wf = true) (w2 : (Lit.int .u8 svc).wf = true) (w3 : (Lit.int .u16 dpc).wf = true) (w4 : (Lit.int .u16 opc).wf = true) (w5 : (Lit.int .u8 sls).wf = true) (w6 : IsRow .u8 w a6 len6 cap6 z6) :
    Calls Ybaf.prog 5 #[.slice a0 len0 cap0, .int .u8 net, .int .u8 svc, .int .u16 dpc, .int .u16 opc, .int .u8 sls, .slice a6 len6 cap6] w fun e w' => e = .returned (.bool true) ∧ Below w.heap.size w w' := by
  have b1 := bounds_u8 w1
  have b2 := bounds_u8 w2
  have b3 := bounds_u16 w3
  have b4 := bounds_u16 w4
  have b5 := bounds_u8 w5
  by_cases h0 : 1024 < len0
  · exact wire_long0 a0 len0 cap0 net svc dpc opc sls a6 len6 cap6 w h0
  by_cases h6 : 1024 < len6
  · exact wire_long6 a0 len0 cap0 net svc dpc opc sls a6 len6 cap6 w (by omega) h6
  by_cases hb : badF net svc dpc opc sls
  · exact wire_bad F a0 len0 cap0 _ net svc dpc opc sls a6 len6 cap6 _ w hF w0.sl w6.sl (by omega) (by omega) b1.1 b2.1 b3.1 b4.1 b5.1 hb
  · unfold badF at hb
    exact wire_ok a0 len0 cap0 _ net svc dpc opc sls a6 len6 cap6 _ w w0.sl w6.sl (by omega) (by omega) b1.1 (by omega) b2.1 (by omega) b3.1 (by omega) b4.1 (by omega) b5.1 (by omega)

end Go.Proofs.YbulkbdfmFmt
