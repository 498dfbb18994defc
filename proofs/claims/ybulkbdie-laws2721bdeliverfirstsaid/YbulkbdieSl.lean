/-
  THE WALKS OVER zzs2721cname (15), slices.Index (24), slices.Contains (16), slices.Equal (18) at messageName.
-/
import Derived.Test.YbulkbdieUp
import Derived.WalkKit
import Derived.WalkSpells
import Derived.WalkLawsBesides
import Derived.LoopTactic
import Derived.Deep.QuietTactic
import Derived.BigQuiet
import Derived.Laws.ResultCell
import Derived.Laws.BitsAllLaws
namespace Go.Proofs.Ybulkbdie
open Go.RowKit

set_option maxHeartbeats 400000 in
theorem eql42 (a b c a' b' c' : Int) (w : World) : (binOp .eql 42 (.agg #[.int .u64 a, .int .u64 b, .int .u64 c]) (.agg #[.int .u64 a', .int .u64 b', .int .u64 c'])).run Yba.prog w = .ok (.bool (decide ((a, b, c) = (a', b', c')))) w := by
  go_simp
  by_cases h1 : a = a' <;> by_cases h2 : b = b' <;> by_cases h3 : c = c' <;> simp [h1, h2, h3]

theorem and255 (x : Int) (h : 0 ≤ x ∧ x ≤ 65535) : bits .and .u16 x 255 = x % 256 := by
  obtain ⟨a, rfl⟩ := Int.eq_ofNat_of_zero_le h.1
  have e := u16_and_nat a 255 (by omega) (by omega)
  rw [nat_mask8] at e
  simpa using e

set_option maxHeartbeats 400000 in
theorem name_any (x : Int) (w : World) (hx : 0 ≤ x ∧ x ≤ 65535) :
    Calls Yba.prog 15 #[.int .u16 x] w fun e w' => e = .returned (.agg #[.int .u64 0, .int .u64 (x / 256), .int .u64 (x % 256)]) ∧ Below w.heap.size w w' := by
  have he := and255 x hx
  go_enter Yba.func15, Yba.ntmps15
  go_wp2
  exact bodyPost_ret (v := .agg #[.int .u64 0, .int .u64 (x / 256), .int .u64 (x % 256)]) (by simp [results, Yba.results15, go_sem]) rfl ⟨rfl, (Below.refl _ _).alloc (Nat.le_refl _) _⟩

/-! ### the cells of a row of names -/
theorem flat_get : ∀ (L : List Nm) (k : Nat) (h : k < L.length), (L.flatMap cellsN)[k * 3]? = some (.int .u64 L[k].1) ∧ (L.flatMap cellsN)[k * 3 + 1]? = some (.int .u64 L[k].2.1) ∧ (L.flatMap cellsN)[k * 3 + 2]? = some (.int .u64 L[k].2.2)
  | [], k, h => by simp at h
  | x :: L, 0, h => by simp [cellsN]
  | x :: L, k + 1, h => by
    have ih := flat_get L k (by simpa using h)
    have e : ∀ i, ((x :: L).flatMap cellsN)[(k + 1) * 3 + i]? = (L.flatMap cellsN)[k * 3 + i]? := by
      intro i
      rw [List.flatMap_cons, List.getElem?_append_right (by simp [cellsN]; omega)]
      congr 1
      simp [cellsN]
      omega
    have e0 := e 0
    simp only [Nat.add_zero] at e0
    rw [e0, e 1, e 2]
    simpa using ih

/-- A ROW OF NAMES, ITS CELLS BY THE ELEMENT. -/
theorem Mid.name {w : World} {g o n cap : Nat} {L : List Nm} (h : Mid w 3 (.slice (some ⟨g, o, none⟩) n cap) n (L.flatMap cellsN)) (k : Nat) (hk : k < L.length) :
    w.cell? ⟨g, o + k * 3, none⟩ = some (.int .u64 L[k].1) ∧ w.cell? ⟨g, o + k * 3 + 1, none⟩ = some (.int .u64 L[k].2.1) ∧ w.cell? ⟨g, o + k * 3 + 2, none⟩ = some (.int .u64 L[k].2.2) := by
  obtain ⟨f0, f1, f2⟩ := flat_get L k hk
  rcases h.2 with ⟨e, _⟩ | ⟨g', o', cap', e, _, _, _, hr, _⟩
  · cases e
  · cases e
    exact ⟨hr _ _ f0, hr _ _ f1, hr _ _ f2⟩

set_option maxHeartbeats 1000000 in
theorem idx_nil (ao : Option Addr) (cap : Nat) (a b c : Int) (w : World) :
    Calls Yba.prog 24 #[.slice ao 0 cap, .agg #[.int .u64 a, .int .u64 b, .int .u64 c]] w fun e w' => e = .returned (.int .i64 (-1)) ∧ Below w.heap.size w w' := by
  go_enter Yba.func24, Yba.ntmps24
  go_wp2
  refine wp_loop_rounds 1 ?_
  rw [rounds_succ]
  go_wp2
  go_ret
  exact ⟨rfl, (Below.refl _ _).alloc (Nat.le_refl _) _⟩

set_option maxHeartbeats 1000000 in
theorem idx_pos (g o n cap : Nat) (L : List Nm) (a b c : Int) (w : World) (hO : Mid w 3 (.slice (some ⟨g, o, none⟩) n cap) n (L.flatMap cellsN)) (hn : L.length = n) (hm : n ≤ 4096) :
    Calls Yba.prog 24 #[.slice (some ⟨g, o, none⟩) n cap, .agg #[.int .u64 a, .int .u64 b, .int .u64 c]] w fun e w' => (∃ i : Int, e = .returned (.int .i64 i) ∧ decide (0 ≤ i) = decide ((a, b, c) ∈ L)) ∧ Below w.heap.size w w' := by
  have hglt : g < w.heap.size := hO.lt rfl
  have HN : Hid (L.length = n) := hn
  clear hn
  go_enter Yba.func24, Yba.ntmps24
  go_wp2
  go_loopw [8] (fun i wr => ∃ k : Nat, k ≤ n ∧ i = .int .i64 k ∧ (∀ t (h : t < L.length), t < k → L[t] ≠ (a, b, c)) ∧ Below (w.heap.size + 1) (w.alloc (.cells #[.int .u64 a, .int .u64 b, .int .u64 c] 42)) wr) (fun i _ => n - (intOf i).toNat)
  case atStart => exact ⟨0, Nat.zero_le _, rfl, fun t h h' => absurd h' (by omega), Below.refl _ _⟩
  case round =>
    obtain ⟨k, hk, rfl, hno, hb⟩ := hrel
    by_cases hlt : k < n
    · have hkL : k < L.length := by rw [HN.out]; exact hlt
      obtain ⟨d0, d1, d2⟩ := hO.name k hkL
      have p0 : wr.cell? ⟨w.heap.size, 0, none⟩ = some (.int .u64 a) := (hb.cell (p := ⟨w.heap.size, 0, none⟩) (Nat.lt_succ_self _)).trans (by simp)
      have p1 : wr.cell? ⟨w.heap.size, 1, none⟩ = some (.int .u64 b) := (hb.cell (p := ⟨w.heap.size, 1, none⟩) (Nat.lt_succ_self _)).trans (by simp)
      have p2 : wr.cell? ⟨w.heap.size, 2, none⟩ = some (.int .u64 c) := (hb.cell (p := ⟨w.heap.size, 2, none⟩) (Nat.lt_succ_self _)).trans (by simp)
      have hb' : Below w.heap.size w wr := ((Below.refl _ _).alloc (Nat.le_refl _) _).trans (hb.mono (by omega))
      have s0 := (hb'.cell (p := ⟨g, o + k * 3, none⟩) hglt).trans d0
      have s1 := (hb'.cell (p := ⟨g, o + k * 3 + 1, none⟩) hglt).trans d1
      have s2 := (hb'.cell (p := ⟨g, o + k * 3 + 2, none⟩) hglt).trans d2
      clear d0 d1 d2
      obtain ⟨⟨x, y, z⟩, hLk⟩ : ∃ q, q = L[k] := ⟨_, rfl⟩
      rw [← hLk] at s0 s1 s2
      have HLk : Hid ((x, y, z) = L[k]) := hLk
      clear hLk hb'
      have k0 : (0 : Int) ≤ (k : Int) := by omega
      have k1 : (k : Int) < (n : Int) := by omega
      by_cases heq : (a, b, c) = (x, y, z)
      · have he : ∀ w, (binOp .eql 42 (.agg #[.int .u64 a, .int .u64 b, .int .u64 c]) (.agg #[.int .u64 x, .int .u64 y, .int .u64 z])).run Yba.prog w = .ok (.bool true) w := by intro w; rw [eql42]; simp [heq]
        have HE : Hid ((a, b, c) = (x, y, z)) := heq
        clear heq hno
        go_wp2
        go_quiet (fail)
        go_wp2
        go_ret
        refine ⟨⟨k, rfl, ?_⟩, ?_⟩
        · have : (a, b, c) ∈ L := by rw [HE.out, HLk.out]; exact List.getElem_mem hkL
          simp [this]
        · exact below_drewN (((Below.refl _ _).alloc (Nat.le_refl _) _).trans (hb.mono (by omega))) _
      · have he : ∀ w, (binOp .eql 42 (.agg #[.int .u64 a, .int .u64 b, .int .u64 c]) (.agg #[.int .u64 x, .int .u64 y, .int .u64 z])).run Yba.prog w = .ok (.bool false) w := by intro w; rw [eql42, decide_eq_false heq]
        have HE : Hid (¬ (a, b, c) = (x, y, z)) := heq
        have HO : Hid (∀ t (h : t < L.length), t < k → L[t] ≠ (a, b, c)) := hno
        clear heq hno
        go_wp2
        go_quiet (fail)
        go_wp2
        go_roundw
        case rel =>
          refine ⟨k + 1, by omega, by go_num, fun t h ht => ?_, below_drewN hb _⟩
          by_cases e : t = k
          · subst e; rw [← HLk.out]; exact fun e => HE.out e.symm
          · exact HO.out t h (by omega)
        case measure => simp [intOf]; omega
    · have HO : Hid (∀ t (h : t < L.length), t < k → L[t] ≠ (a, b, c)) := hno
      clear hno
      go_wp2
      go_ret
      refine ⟨⟨-1, rfl, ?_⟩, ((Below.refl _ _).alloc (Nat.le_refl _) _).trans (hb.mono (by omega))⟩
      have : (a, b, c) ∉ L := by
        intro h
        obtain ⟨t, ht, e⟩ := List.getElem_of_mem h
        exact HO.out t ht (by have := HN.out; omega) e
      simp [this]

theorem idx_any {v : Value} {n : Nat} {L : List Nm} (a b c : Int) (w : World) (hO : Mid w 3 v n (L.flatMap cellsN)) (hn : L.length = n) (hm : n ≤ 4096) :
    Calls Yba.prog 24 #[v, .agg #[.int .u64 a, .int .u64 b, .int .u64 c]] w fun e w' => (∃ i : Int, e = .returned (.int .i64 i) ∧ decide (0 ≤ i) = decide ((a, b, c) ∈ L)) ∧ Below w.heap.size w w' := by
  rcases hO.2 with ⟨rfl, rfl⟩ | ⟨g, o, cap, rfl, _⟩
  · refine (idx_nil none 0 a b c w).mono ?_
    rintro e w' ⟨he, hb⟩
    obtain rfl : L = [] := List.eq_nil_of_length_eq_zero hn
    exact ⟨⟨-1, he, by simp⟩, hb⟩
  · exact idx_pos g o n cap L a b c w hO hn hm

set_option maxHeartbeats 400000 in
theorem contains_any {v : Value} {n : Nat} {L : List Nm} (a b c : Int) (w : World) (hO : Mid w 3 v n (L.flatMap cellsN)) (hn : L.length = n) (hm : n ≤ 4096) (r : Bool) (hr : decide ((a, b, c) ∈ L) = r) :
    Calls Yba.prog 16 #[v, .agg #[.int .u64 a, .int .u64 b, .int .u64 c]] w fun e w' => e = .returned (.bool r) ∧ Below w.heap.size w w' := by
  have HN : Hid (L.length = n) := hn
  have HR : Hid (decide ((a, b, c) ∈ L) = r) := hr
  clear hn hr
  go_enter Yba.func16, Yba.ntmps16
  go_wp2_with fail
  refine (idx_any a b c _ (hO.alloc _) HN.out hm).mono ?_
  rintro e w1 ⟨⟨i, rfl, hi⟩, hb⟩
  rw [HR.out] at hi
  have hb1 : Below w.heap.size w w1 := ((Below.refl _ _).alloc (Nat.le_refl _) _).trans (hb.mono (by simp))
  go_wp2
  go_ret
  exact ⟨rfl, hb1⟩

theorem neq42_same (a b c : Int) (w : World) : (binOp .neq 42 (.agg #[.int .u64 a, .int .u64 b, .int .u64 c]) (.agg #[.int .u64 a, .int .u64 b, .int .u64 c])).run Yba.prog w = .ok (.bool false) w := by
  go_simp

set_option maxHeartbeats 400000 in
theorem equal_nil (a1 a2 : Option Addr) (c1 c2 : Nat) (w : World) :
    Calls Yba.prog 18 #[.slice a1 0 c1, .slice a2 0 c2] w fun e w' => e = .returned (.bool true) ∧ Below w.heap.size w w' := by
  go_enter Yba.func18, Yba.ntmps18
  go_wp2
  refine wp_loop_rounds 1 ?_
  rw [rounds_succ]
  go_wp2
  go_ret
  exact ⟨rfl, Below.refl _ _⟩

set_option maxHeartbeats 1000000 in
theorem equal_pos (g1 o1 g2 o2 n c1 c2 : Nat) (L : List Nm) (w : World) (h1 : Mid w 3 (.slice (some ⟨g1, o1, none⟩) n c1) n (L.flatMap cellsN)) (h2 : Mid w 3 (.slice (some ⟨g2, o2, none⟩) n c2) n (L.flatMap cellsN)) (hn : L.length = n) (hm : n ≤ 4096) :
    Calls Yba.prog 18 #[.slice (some ⟨g1, o1, none⟩) n c1, .slice (some ⟨g2, o2, none⟩) n c2] w fun e w' => e = .returned (.bool true) ∧ Below w.heap.size w w' := by
  have l1 : g1 < w.heap.size := h1.lt rfl
  have l2 : g2 < w.heap.size := h2.lt rfl
  have HN : Hid (L.length = n) := hn
  clear hn
  go_enter Yba.func18, Yba.ntmps18
  go_wp2
  go_loopw [13] (fun i wr => ∃ k : Nat, k ≤ n ∧ i = .int .i64 k ∧ Below w.heap.size w wr) (fun i _ => n - (intOf i).toNat)
  case atStart => exact ⟨0, Nat.zero_le _, rfl, Below.refl _ _⟩
  case round =>
    obtain ⟨k, hk, rfl, hb⟩ := hrel
    by_cases hlt : k < n
    · have hkL : k < L.length := by rw [HN.out]; exact hlt
      obtain ⟨d0, d1, d2⟩ := h1.name k hkL
      obtain ⟨e0, e1, e2⟩ := h2.name k hkL
      have s0 := (hb.cell (p := ⟨g1, o1 + k * 3, none⟩) l1).trans d0
      have s1 := (hb.cell (p := ⟨g1, o1 + k * 3 + 1, none⟩) l1).trans d1
      have s2 := (hb.cell (p := ⟨g1, o1 + k * 3 + 2, none⟩) l1).trans d2
      have t0 := (hb.cell (p := ⟨g2, o2 + k * 3, none⟩) l2).trans e0
      have t1 := (hb.cell (p := ⟨g2, o2 + k * 3 + 1, none⟩) l2).trans e1
      have t2 := (hb.cell (p := ⟨g2, o2 + k * 3 + 2, none⟩) l2).trans e2
      obtain ⟨⟨x, y, z⟩, hLk⟩ : ∃ q, q = L[k] := ⟨_, rfl⟩
      rw [← hLk] at s0 s1 s2 t0 t1 t2
      clear hLk d0 d1 d2 e0 e1 e2 h1 h2
      have k0 : (0 : Int) ≤ (k : Int) := by omega
      have k1 : (k : Int) < (n : Int) := by omega
      have he := neq42_same x y z
      go_wp2
      go_quiet (fail)
      go_wp2
      go_roundw
      case rel => exact ⟨k + 1, by omega, by go_num, below_drewN hb _⟩
      case measure => simp [intOf]; omega
    · clear h1 h2
      go_wp2
      go_ret
      exact ⟨rfl, hb⟩

theorem equal_any {v1 v2 : Value} {n : Nat} {L : List Nm} (w : World) (h1 : Mid w 3 v1 n (L.flatMap cellsN)) (h2 : Mid w 3 v2 n (L.flatMap cellsN)) (hn : L.length = n) (hm : n ≤ 4096) :
    Calls Yba.prog 18 #[v1, v2] w fun e w' => e = .returned (.bool true) ∧ Below w.heap.size w w' := by
  rcases h1.2 with ⟨rfl, rfl⟩ | ⟨g1, o1, c1, rfl, _⟩
  · rcases h2.2 with ⟨rfl, _⟩ | ⟨g2, o2, c2, rfl, _⟩
    · exact equal_nil _ _ _ _ w
    · exact equal_nil _ _ _ _ w
  · rcases h2.2 with ⟨rfl, h0⟩ | ⟨g2, o2, c2, rfl, _⟩
    · subst h0
      exact equal_nil _ _ _ _ w
    · exact equal_pos g1 o1 g2 o2 n c1 c2 L w h1 h2 hn hm

end Go.Proofs.Ybulkbdie
