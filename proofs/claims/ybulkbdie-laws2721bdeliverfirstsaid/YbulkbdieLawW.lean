/-
  THE WALK OVER LawS2721BDeliverFirst (5).
-/
import Derived.Test.YbulkbdieLawA
namespace Go.Proofs.Ybulkbdie
open Go.RowKit

theorem neq40_same (a b : Int) (w : World) : (binOp .neq 40 (.agg #[.int .u64 a, .int .u64 b]) (.agg #[.int .u64 a, .int .u64 b])).run Yba.prog w = .ok (.bool false) w := by
  go_simp

/-- The first place of q among the first k tokens; -1 for none. -/
def JS (zs : List Int) (q : Int) (k : Nat) (jv : Int) : Prop :=
  (jv = -1 ∧ ∀ t, t < k → zs.getD t 0 ≠ q) ∨ ∃ j : Nat, j < k ∧ jv = j ∧ zs.getD j 0 = q ∧ ∀ t, t < j → zs.getD t 0 ≠ q

theorem hit_ent (q : Int) (zs : List Int) (t : Nat) : hit q (ent zs t) = decide (zs.getD t 0 = q) := rfl

theorem cnt_succ (q : Int) (zs : List Int) (k : Nat) : (ents zs (k + 1)).countP (hit q) = (ents zs k).countP (hit q) + if zs.getD k 0 = q then 1 else 0 := by
  simp only [ents, List.range_succ, List.map_append, List.countP_append, List.map_cons, List.map_nil, List.countP_cons, List.countP_nil, hit_ent, Nat.zero_add, decide_eq_true_eq]

theorem cnt_le (q : Int) (zs : List Int) (k : Nat) : (ents zs k).countP (hit q) ≤ k := Nat.le_trans List.countP_le_length (by rw [ents_length]; exact Nat.le_refl _)

theorem no_hits {q : Int} {zs : List Int} {n : Nat} (h : ∀ t, t < n → zs.getD t 0 ≠ q) : ∀ e ∈ ents zs n, hit q e = false := by
  intro e he
  obtain ⟨t, ht, rfl⟩ := List.mem_map.1 he
  rw [hit_ent]
  exact decide_eq_false (h t (List.mem_range.1 ht))

theorem cnt_none {q : Int} {zs : List Int} {n : Nat} (h : ∀ t, t < n → zs.getD t 0 ≠ q) : (ents zs n).countP (hit q) = 0 :=
  List.countP_eq_zero.2 (fun e he => by rw [no_hits h e he]; simp)

/-- build, called with the new application. -/
theorem bld_e0 (a0 : Option Addr) (len cap : Nat) (zs : List Int) (w : World) (h0 : IsRow .u64 w a0 len cap zs) (hm : len ≤ 256) :
    Calls Yba.prog 11 #[.slice a0 len cap, .iface 33 (.pointer (some ⟨w.heap.size, 0, none⟩))] (w.alloc (.cells #[.slice none 0 0] 36)) fun e w' => ∃ eb g, e = .returned (.pointer (some ⟨eb, 0, none⟩)) ∧ E0 w w' w.heap.size eb g len zs ∧ Up w' eb 89 none (.slice none 0 0) 0 [] := by
  have hb : Below w.heap.size w (w.alloc (.cells #[.slice none 0 0] 36)) := (Below.refl _ _).alloc (Nat.le_refl _) _
  have hs : (w.alloc (.cells #[.slice none 0 0] 36)).heap.size = w.heap.size + 1 := by simp
  refine (bld_walk a0 len cap zs (.pointer (some ⟨w.heap.size, 0, none⟩)) _ (h0.below hb) hm).mono ?_
  rintro e w' ⟨he, B⟩
  have hA : w'.heap[w.heap.size]? = some (.cells #[.slice none 0 0] 36) := (B.below.block _ (by rw [hs]; omega)).trans (heap_alloc_new _ _)
  refine ⟨_, _, he, ⟨B.wl, B.app, by rw [blk_cell hA]; rfl, blk_free hA 0, by rw [hs]; omega, by rw [hs]; omega, hb.trans (B.below.mono (by rw [hs]; omega)), Nat.le_refl _, by rw [hs]; omega, by rw [hs]; omega⟩, B.up⟩

set_option maxHeartbeats 400000 in
theorem law_long (a0 : Option Addr) (len cap : Nat) (q p : Int) (seen : Bool) (w : World) (h : 256 < len) :
    Calls Yba.prog 5 #[.slice a0 len cap, .int .u64 q, .int .u8 p, .bool seen] w fun e w' => e = .returned (.bool true) ∧ Below w.heap.size w w' := by
  have h' : (256 : Int) < (len : Int) := by omega
  go_enter Yba.func5, Yba.ntmps5
  go_wp2
  go_ret
  exact ⟨rfl, Below.refl _ _⟩

set_option maxHeartbeats 8000000 in
set_option maxRecDepth 100000 in
theorem law_short (a0 : Option Addr) (len cap : Nat) (zs : List Int) (q p : Int) (seen : Bool) (w : World) (h0 : IsRow .u64 w a0 len cap zs) (hp : 0 ≤ p ∧ p ≤ 255) (hm : len ≤ 256) :
    Calls Yba.prog 5 #[.slice a0 len cap, .int .u64 q, .int .u8 p, .bool seen] w fun e w' => e = .returned (.bool true) ∧ Below w.heap.size w w' := by
  have hm' : ¬ (256 : Int) < (len : Int) := by omega
  go_enter Yba.func5, Yba.ntmps5
  go_upto_region 4 with fail
  go_cut [30] (fun s wx => (∃ bt : Bool, s = .bool bt ∧ (bt = true → 0 < len)) ∧ w = wx)
  case first =>
    go_wp2_with fail
    all_goals go_meet
    · exact ⟨⟨_, rfl, fun h => of_decide_eq_true h⟩, rfl⟩
    · exact ⟨⟨false, rfl, fun h => by cases h⟩, rfl⟩
  case rest =>
  obtain ⟨⟨bt, rfl, hbt⟩, rfl⟩ := hcut
  go_upto_if 30 with fail
  go_cut [9] (fun s wx => (∃ Q : Int, s = .int .u64 Q) ∧ w = wx)
  case first =>
    cases bt with
    | false =>
      go_wp2_with fail
      go_meet
      exact ⟨⟨_, rfl⟩, rfl⟩
    | true =>
      obtain ⟨b, off, rfl, hbl, hc, hw⟩ := h0.at (hbt rfl)
      have hlen := hbt rfl
      have d0 : 0 ≤ p / 2 % (len : Int) := Int.emod_nonneg _ (by omega)
      have d1 : p / 2 % (len : Int) < (len : Int) := Int.emod_lt_of_pos _ (by omega)
      have hcell := hc (p / 2 % (len : Int)).toNat (by omega)
      go_wp2_with fail
      go_meet
      exact ⟨⟨_, rfl⟩, rfl⟩
  case rest =>
  obtain ⟨⟨Q, rfl⟩, rfl⟩ := hcut
  clear hbt
  go_wp2_with fail
  go_loopw [10, 11, 42] (fun j c i wr => ∃ k : Nat, k ≤ len ∧ i = .int .i64 k ∧ (∃ jv : Int, j = .int .i64 jv ∧ JS zs Q k jv) ∧ c = .int .i64 ((ents zs k).countP (hit Q) : Nat) ∧ w = wr) (fun _ _ i _ => len - (intOf i).toNat)
  case atStart => exact ⟨0, Nat.zero_le _, rfl, ⟨-1, rfl, .inl ⟨rfl, fun t h => absurd h (by omega)⟩⟩, rfl, rfl⟩
  case round =>
    obtain ⟨k, hk, rfl, ⟨jv, rfl, hJ⟩, rfl, rfl⟩ := hrel
    have hcl := cnt_le Q zs k
    obtain ⟨n, hn⟩ : ∃ n, n = (ents zs k).countP (hit Q) := ⟨_, rfl⟩
    rw [← hn] at hcl ⊢
    have HN : Hid (n = (ents zs k).countP (hit Q)) := hn
    clear hn
    by_cases hlt : k < len
    · obtain ⟨b, off, rfl, hbl, hc, hw⟩ := h0.at (by omega)
      have hcell := hc k hlt
      obtain ⟨z, hz⟩ : ∃ z, z = zs.getD k 0 := ⟨_, rfl⟩
      rw [← hz] at hcell
      have HZ : Hid (z = zs.getD k 0) := hz
      have k0 : (0 : Int) ≤ (k : Int) := by omega
      have k1 : (k : Int) < (len : Int) := by omega
      clear hz hc hw
      by_cases hzq : z = Q
      · have hbq : (z == Q) = true := beq_iff_eq.2 hzq
        have HQ : Hid (z = Q) := hzq
        clear hzq
        rcases hJ with ⟨rfl, hno⟩ | ⟨j, hj, rfl, hjq, hfst⟩
        · have HO : Hid (∀ t, t < k → zs.getD t 0 ≠ Q) := hno
          clear hno
          go_wp2_with fail
          go_roundw
          case rel => exact ⟨k + 1, by omega, by go_num, ⟨k, rfl, .inr ⟨k, by omega, rfl, HZ.out ▸ HQ.out, HO.out⟩⟩, by rw [cnt_succ, ← HN.out, if_pos (HZ.out ▸ HQ.out)]; go_num, trivial⟩
          case measure => simp [intOf]; omega
        · have HO : Hid (j < k ∧ zs.getD j 0 = Q ∧ ∀ t, t < j → zs.getD t 0 ≠ Q) := ⟨hj, hjq, hfst⟩
          have hj0 : ¬ (j : Int) < 0 := by omega
          clear hjq hfst
          go_wp2_with fail
          go_roundw
          case rel => exact ⟨k + 1, by omega, by go_num, ⟨j, rfl, .inr ⟨j, by omega, rfl, HO.out.2.1, HO.out.2.2⟩⟩, by rw [cnt_succ, ← HN.out, if_pos (HZ.out ▸ HQ.out)]; go_num, trivial⟩
          case measure => simp [intOf]; omega
      · have hbq : (z == Q) = false := beq_eq_false_iff_ne.2 hzq
        have HQ : Hid (¬ z = Q) := hzq
        have HJ : Hid (JS zs Q k jv) := hJ
        clear hzq hJ
        go_wp2_with fail
        go_roundw
        case rel =>
          have hne : ¬ zs.getD k 0 = Q := HZ.out ▸ HQ.out
          refine ⟨k + 1, by omega, by go_num, ⟨jv, rfl, ?_⟩, by rw [cnt_succ, ← HN.out, if_neg hne]; rfl, trivial⟩
          rcases HJ.out with ⟨e, hno⟩ | ⟨j, hj, e, hjq, hfst⟩
          · refine .inl ⟨e, fun t ht => ?_⟩
            by_cases et : t = k
            · rw [et]; exact hne
            · exact hno t (by omega)
          · exact .inr ⟨j, by omega, e, hjq, hfst⟩
        case measure => simp [intOf]; omega
    · obtain rfl : k = len := by omega
      have hbld := bld_e0 a0 k cap zs w h0 hm
      clear h0
      rcases hJ with ⟨rfl, hno⟩ | ⟨j, hj, rfl, hjq, hfst⟩
      · -- no wait under the token
        have hn0 : n = 0 := by rw [HN.out]; exact cnt_none hno
        subst hn0
        have HO : Hid (∀ t, t < k → zs.getD t 0 ≠ Q) := hno
        clear hno HN hcl
        go_wp2_with fail
        refine hbld.mono ?_
        rintro e w2 ⟨eb, g, rfl, H, hU⟩
        have hrp := reply_none (q := Q) H hm (no_hits HO.out)
        clear hbld H hU
        cases seen
        all_goals
          go_wp2_with fail
          refine hrp.mono ?_
          rintro e w3 ⟨rfl, T⟩
          clear hrp
          have d97 := T.c97
          have da := T.ca
          go_wp2_with fail
          refine (len13 eb 95 _ w3 d97).mono ?_
          rintro e w4 ⟨rfl, rfl⟩
          have hag := reply_again T
          clear T
          go_wp2_with fail
          refine hag.mono ?_
          rintro e w4 ⟨rfl, T, hb4⟩
          clear hag d97 da
          have d97 := T.c97
          have da := T.ca
          go_wp2_with fail
          refine (len13 eb 95 _ w4 d97).mono ?_
          rintro e w5 ⟨rfl, rfl⟩
          have hfi := T.no.first
          have HT : Hid (Below w.heap.size w w5) := T.bel
          clear T
          go_wp2_with fail
          refine hfi.mono ?_
          rintro e w6 ⟨rfl, hb6⟩
          have HB6 : Hid (Below w.heap.size w w6) := HT.out.trans (hb6.mono HT.out.size)
          clear hfi hb6 HT d97 da
          go_wp2
          go_ret
          exact ⟨rfl, HB6.out⟩
      · -- a wait under the token
        have HO : Hid (j < k ∧ zs.getD j 0 = Q ∧ (∀ t, t < j → zs.getD t 0 ≠ Q)) := ⟨hj, hjq, hfst⟩
        have hj0 : ¬ (j : Int) < 0 := by omega
        have hj1 : (0 : Int) ≤ (j : Int) := by omega
        have hj2 : (j : Int) ≤ 256 := by omega
        clear hjq hfst
        go_wp2_with fail
        refine hbld.mono ?_
        rintro e w2 ⟨eb, g, rfl, H, hU⟩
        clear hbld
        cases seen with
        | true =>
          have hb2 : Below w2.heap.size w2 (w2.alloc (.map #[] 0)) := (Below.refl _ _).alloc (Nat.le_refl _) _
          obtain ⟨W3, hup, hM, hg3⟩ := (MapIs.made w2).put (by unfold maxLen; omega) (0, (j : Int), (j : Int) + 1) (okN_j j (by omega)) (by simp)
          have hb3 : Below w2.heap.size w2 W3 := hb2.grown hg3 (by simp) (by intro k' e; cases e; exact Nat.le_refl _)
          have H3 := H.below hb3
          have hup' : (Instr.mapUpdate 43 (.map (some w2.heap.size)) (.agg #[.int .u64 0, .int .u64 j, .int .u64 ((j : Int) + 1)]) (.bool true)).run Yba.prog (w2.alloc (.map #[] 0)) = .ok () W3 := hup
          have hmk : (Instr.makeMap 43 none).run Yba.prog w2 = .ok (.map (some w2.heap.size)) (w2.alloc (.map #[] 0)) := by kernel_rfl
          have hs3 : (W3.setCell ⟨eb, 93, none⟩ (.map (some w2.heap.size))).heap.size = W3.heap.size := by simp
          have e93 : W3.cell? ⟨eb, 93, none⟩ = some (.map none) := (hb3.cell (p := ⟨eb, 93, none⟩) H.elt).trans hU.c4
          have f93 : W3.frozen? ⟨eb, 93, none⟩ = false := H3.wl.fe 93
          have hBe : w2.heap.size ≠ eb := by have := H.elt; omega
          have hBg : w2.heap.size ≠ g := by have := H.wl.glt; omega
          have hrp := reply_old (q := Q) (H3.set93 (.map (some w2.heap.size))) hm j HO.out.1 HO.out.2.1 HO.out.2.2 ((k : Int) - (n : Int)) (by rw [HN.out]) w2.heap.size 1 (World.cell?_setCell_same _ _ _ e93) (hM.setCell hBe _) hBe hBg
          rw [hs3] at hrp
          clear hup hM hg3 hb3 hb2 H H3 hU hBe hBg
          go_wp2_with fail
          refine hrp.mono ?_
          rintro e w3 ⟨rfl, T⟩
          clear hrp
          have d97 := T.c97
          have da := T.ca
          go_wp2_with fail
          refine (len13 eb 95 _ w3 d97).mono ?_
          rintro e w4 ⟨rfl, rfl⟩
          have hag := reply_again T
          clear T
          go_wp2_with fail
          refine hag.mono ?_
          rintro e w4 ⟨rfl, T, hb4⟩
          clear hag d97 da
          have d97 := T.c97
          have da := T.ca
          go_wp2_with fail
          refine (len13 eb 95 _ w4 d97).mono ?_
          rintro e w5 ⟨rfl, rfl⟩
          have hfi := T.no.first
          have HT : Hid (Below w.heap.size w w5) := T.bel
          clear T
          go_wp2_with fail
          refine hfi.mono ?_
          rintro e w6 ⟨rfl, hb6⟩
          have HB6 : Hid (Below w.heap.size w w6) := HT.out.trans (hb6.mono HT.out.size)
          clear hfi hb6 HT d97 da
          go_wp2
          go_ret
          exact ⟨rfl, HB6.out⟩
        | false =>
          have hne := neq40_same 0 (j : Int)
          have hrp := reply_new (q := Q) H hm j HO.out.1 HO.out.2.1 HO.out.2.2 ((k : Int) - (n : Int)) (by rw [HN.out]) hU
          clear H hU
          go_wp2_with fail
          refine hrp.mono ?_
          rintro e w3 ⟨rfl, g', o, cp, T, p0, p1⟩
          clear hrp
          have d97 := T.c97
          have da := T.ca
          go_wp2_with fail
          refine (len13 eb 95 _ w3 d97).mono ?_
          rintro e w4 ⟨rfl, rfl⟩
          have hag := reply_again T
          clear T
          go_wp2_with fail
          refine hag.mono ?_
          rintro e w4 ⟨rfl, T, hb4⟩
          clear hag d97 da
          have d97 := T.c97
          have da := T.ca
          go_wp2_with fail
          refine (len13 eb 95 _ w4 d97).mono ?_
          rintro e w5 ⟨rfl, rfl⟩
          have hfi := T.no.first
          have HT : Hid (Below w.heap.size w w5) := T.bel
          clear T
          go_wp2_with fail
          refine hfi.mono ?_
          rintro e w6 ⟨rfl, hb6⟩
          have HB6 : Hid (Below w.heap.size w w6) := HT.out.trans (hb6.mono HT.out.size)
          clear hfi hb6 HT d97 da
          go_wp2
          go_ret
          exact ⟨rfl, HB6.out⟩

theorem law_walk (a0 : Option Addr) (len cap : Nat) (zs : List Int) (q p : Int) (seen : Bool) (w : World) (h0 : IsRow .u64 w a0 len cap zs) (_hq : (Lit.int .u64 q).wf = true) (hp : (Lit.int .u8 p).wf = true) :
    Calls Yba.prog 5 #[.slice a0 len cap, .int .u64 q, .int .u8 p, .bool seen] w fun e w' => e = .returned (.bool true) ∧ Below w.heap.size w w' := by
  by_cases h : 256 < len
  · exact law_long a0 len cap q p seen w h
  · exact law_short a0 len cap zs q p seen w h0 (by simp [Lit.wf, IntKind.min, IntKind.max, IntKind.signed, IntKind.bits] at hp; omega) (by omega)

end Go.Proofs.Ybulkbdie
