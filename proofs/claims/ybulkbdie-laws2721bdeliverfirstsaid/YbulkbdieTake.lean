/-
  THE WALK OVER (*confirmations).take (21).
-/
import Derived.Test.YbulkbdieRm
import Derived.Laws.ResultCell
namespace Go.Proofs.Ybulkbdie
open Go.RowKit

theorem blk_cell {w : World} {b : Nat} {C : Array Value} {t : TypeId} (h : w.heap[b]? = some (.cells C t)) (j : Nat) : w.cell? ⟨b, j, none⟩ = C[j]? := by
  unfold World.cell?; simp [h]
theorem blk_free {w : World} {b : Nat} {C : Array Value} {t : TypeId} (h : w.heap[b]? = some (.cells C t)) (j : Nat) : w.frozen? ⟨b, j, none⟩ = false := by
  unfold World.frozen?; simp [h]

theorem below_set {B : Nat} {a w : World} (h : Below B a w) {b o : Nat} (hb : B ≤ b) (u : Value) : Below B a (w.setCell ⟨b, o, none⟩ u) := h.setCell (p := ⟨b, o, none⟩) hb u

/-- Nine stores into one new block. -/
theorem below_nine {B : Nat} {a w : World} {b : Nat} {u0 u1 u2 u3 u4 u5 u6 u7 u8 : Value} (hb : B ≤ b) (h : Below B a w) : Below B a (((((((((w.setCell ⟨b, 0, none⟩ u0).setCell ⟨b, 1, none⟩ u1).setCell ⟨b, 2, none⟩ u2).setCell ⟨b, 3, none⟩ u3).setCell ⟨b, 4, none⟩ u4).setCell ⟨b, 5, none⟩ u5).setCell ⟨b, 6, none⟩ u6).setCell ⟨b, 7, none⟩ u7).setCell ⟨b, 8, none⟩ u8) :=
  below_set (below_set (below_set (below_set (below_set (below_set (below_set (below_set (below_set h hb _) hb _) hb _) hb _) hb _) hb _) hb _) hb _) hb _

set_option maxHeartbeats 1000000 in
set_option maxRecDepth 100000 in
theorem take_none (eb eo g : Nat) (q : Int) (w : World) (h : NoHit w eb eo g q) (hg : g < w.heap.size) :
    Calls Yba.prog 21 #[.pointer (some ⟨eb, eo, none⟩), .int .u64 q] w fun e w' => e = .returned (.tuple #[.agg #[.int .u64 0, .int .u64 0, .slice none 0 0, .int .u64 0, .int .u64 0, .int .u64 0, .int .u64 0, .bool false, .string ⟨#[]⟩], .bool false]) ∧ Below w.heap.size w w' := by
  have HB : Below w.heap.size w (w.alloc (.cells #[.int .u64 0, .int .u64 0, .slice none 0 0, .int .u64 0, .int .u64 0, .int .u64 0, .int .u64 0, .bool false, .string ⟨#[]⟩] 108)) := (Below.refl _ _).alloc (Nat.le_refl _) _
  have heb : eb < w.heap.size := World.block_lt_of_cell? _ _ h.1
  have HN : Hid (NoHit (w.alloc (.cells #[.int .u64 0, .int .u64 0, .slice none 0 0, .int .u64 0, .int .u64 0, .int .u64 0, .int .u64 0, .bool false, .string ⟨#[]⟩] 108)) eb eo g q) := h.kept (HB.cell (p := ⟨eb, eo, none⟩) heb) (HB.cell (p := ⟨eb, eo + 1, none⟩) heb) (HB.block g hg)
  clear h
  go_enter Yba.func21, Yba.ntmps21
  go_wp2_with fail
  refine HN.out.first.mono ?_
  rintro e w1 ⟨rfl, hb1⟩
  have hz : w1.heap[w.heap.size]? = some (.cells #[.int .u64 0, .int .u64 0, .slice none 0 0, .int .u64 0, .int .u64 0, .int .u64 0, .int .u64 0, .bool false, .string ⟨#[]⟩] 108) := (hb1.block _ (by simp)).trans (heap_alloc_new _ _)
  have hlt : w.heap.size < w1.heap.size := by have := hb1.size; simp at this; omega
  have HZ : Hid (Below w.heap.size w w1) := HB.trans (hb1.mono (by simp))
  have z0 := blk_cell hz 0
  have z1 := blk_cell hz 1
  have z2 := blk_cell hz 2
  have z3 := blk_cell hz 3
  have z4 := blk_cell hz 4
  have z5 := blk_cell hz 5
  have z6 := blk_cell hz 6
  have z7 := blk_cell hz 7
  have z8 := blk_cell hz 8
  have zf := blk_free hz
  simp only [List.getElem?_toArray, List.getElem?_cons_zero, List.getElem?_cons_succ] at z0 z1 z2 z3 z4 z5 z6 z7 z8
  clear hb1 HB hz
  go_wp2
  refine bodyPost_ret (v := .tuple #[.agg #[.int .u64 0, .int .u64 0, .slice none 0 0, .int .u64 0, .int .u64 0, .int .u64 0, .int .u64 0, .bool false, .string ⟨#[]⟩], .bool false]) ?_ rfl ?_
  · simp [results, Yba.results21, go_sem, z0, z1, z2, z3, z4, z5, z6, z7, z8, hlt]
  · refine ⟨rfl, ?_⟩
    refine Below.alloc ?_ (by simp; omega) _
    refine below_nine (Nat.le_refl _) ?_
    exact HZ.out

set_option maxHeartbeats 2000000 in
set_option maxRecDepth 100000 in
theorem take_hit (eb eo g n c j : Nat) (a b : Int) (E : List Ent) (q : Int) (w : World) (hn : E.length = n) (hm : n ≤ 4096) (hok : ∀ x ∈ E, okE x) (W : Wl w eb eo g c E n)
    (hj : j < E.length) (hEj : E[j] = (a, b, q, true)) (hfst : ∀ t (h' : t < E.length), t < j → hit q E[t] = false) (h : Int) (hh : h = (n : Int) - (E.countP (hit q) : Nat)) :
    Calls Yba.prog 21 #[.pointer (some ⟨eb, eo, none⟩), .int .u64 q] w fun e w' => e = .returned (.tuple #[.agg #[.int .u64 0, .int .u64 0, .slice none 0 0, .int .u64 0, .int .u64 a, .int .u64 b, .int .u64 0, .bool false, .string ⟨#[]⟩], .bool true]) ∧ RmOut w w' eb eo g q h := by
  have HH : Hid (h = (n : Int) - (E.countP (hit q) : Nat)) := hh
  clear hh
  have HB : Below w.heap.size w (w.alloc (.cells #[.int .u64 0, .int .u64 0, .slice none 0 0, .int .u64 0, .int .u64 0, .int .u64 0, .int .u64 0, .bool false, .string ⟨#[]⟩] 108)) := (Below.refl _ _).alloc (Nat.le_refl _) _
  have heb : eb < w.heap.size := World.block_lt_of_cell? _ _ W.c0
  have hgl := W.glt
  have hfe := W.fe (eo + 3)
  have hne := W.ne
  have HW : Hid (Wl (w.alloc (.cells #[.int .u64 0, .int .u64 0, .slice none 0 0, .int .u64 0, .int .u64 0, .int .u64 0, .int .u64 0, .bool false, .string ⟨#[]⟩] 108)) eb eo g c E n) := W.below HB
  have HP : Hid (E.length = n ∧ (∀ x ∈ E, okE x) ∧ E[j] = (a, b, q, true) ∧ (∀ t (h' : t < E.length), t < j → hit q E[t] = false)) := ⟨hn, hok, hEj, hfst⟩
  clear W hok hEj hfst
  go_enter Yba.func21, Yba.ntmps21
  go_wp2_with fail
  refine (first_walk eb eo g n c E q _ hn hm (by rw [← hn]; exact HW.out.c0) HW.out.c1 HW.out.rows).mono ?_
  rintro e w1 ⟨hfo, hb1⟩
  obtain ⟨hn', hok, hEj, hfst⟩ := HP.out
  have hhit : hit q E[j] = true := by rw [hEj]; simp [hit]
  have he : e = .returned (.tuple #[.pointer (some ⟨g, j * 15, none⟩), .bool true]) := by
    rcases hfo with ⟨hno, _⟩ | ⟨j', hj', hh', hf', he⟩
    · rw [hno _ (List.getElem_mem hj)] at hhit; cases hhit
    · have : j' = j := by
        rcases Nat.lt_trichotomy j' j with h | h | h
        · rw [hfst j' hj' h] at hh'; cases hh'
        · exact h
        · rw [hf' j hj h] at hhit; cases hhit
      rw [he, this]
  subst he
  have W1 := HW.out.below hb1
  have cell : ∀ t, t < 15 → ∀ v, (ecells (a, b, q, true))[t]? = some v → w1.cell? ⟨g, j * 15 + t, none⟩ = some v := fun t ht v hv => W1.rows.at j hj t ht v (by rw [hEj]; exact hv)
  have e0 := cell 0 (by omega) _ rfl
  have e1 := cell 1 (by omega) _ rfl
  have e2 := cell 2 (by omega) _ rfl
  have e3 := cell 3 (by omega) _ rfl
  have e4 := cell 4 (by omega) _ rfl
  have e5 := cell 5 (by omega) _ rfl
  have e6 := cell 6 (by omega) _ rfl
  have e7 := cell 7 (by omega) _ rfl
  have e8 := cell 8 (by omega) _ rfl
  simp only [Nat.add_zero] at e0
  have hlt : w.heap.size < w1.heap.size := by have := hb1.size; simp at this; omega
  have HZ : Hid (Below w.heap.size w w1) := HB.trans (hb1.mono (by simp))
  have HzB : Hid (w1.heap[w.heap.size]? = some (.cells #[.int .u64 0, .int .u64 0, .slice none 0 0, .int .u64 0, .int .u64 0, .int .u64 0, .int .u64 0, .bool false, .string ⟨#[]⟩] 108)) := (hb1.block _ (by simp)).trans (heap_alloc_new _ _)
  have hrm := rm_walk eb eo g n c E q (w1.alloc (.cells #[.int .u64 0, .int .u64 0, .slice none 0 0, .int .u64 0, .int .u64 a, .int .u64 b, .int .u64 0, .bool false, .string ⟨#[]⟩] 108)) hn hm hok (W1.below ((Below.refl _ _).alloc (Nat.le_refl _) _))
  clear hn' hok hEj hfst hhit hfo W1 cell hb1 HB
  go_wp2_with fail
  refine hrm.mono ?_
  rintro e w2 ⟨rfl, R2⟩
  clear hrm e0 e1 e2 e3 e4 e5 e6 e7 e8
  have hz : w2.heap[w.heap.size]? = some (.cells #[.int .u64 0, .int .u64 0, .slice none 0 0, .int .u64 0, .int .u64 0, .int .u64 0, .int .u64 0, .bool false, .string ⟨#[]⟩] 108) := (R2.fr.block _ (by simp; omega) (by omega) (by omega)).trans ((Below.heap_alloc w1 _ _ hlt).trans HzB.out)
  have hv : w2.heap[w1.heap.size]? = some (.cells #[.int .u64 0, .int .u64 0, .slice none 0 0, .int .u64 0, .int .u64 a, .int .u64 b, .int .u64 0, .bool false, .string ⟨#[]⟩] 108) := (R2.fr.block _ (by simp) (by omega) (by omega)).trans (heap_alloc_new _ _)
  have R0 : RmOut w w2 eb eo g q h := HH.out ▸ R2.from heb ((HZ.out).alloc (Nat.le_of_lt hlt) _)
  have hl2 : w1.heap.size < w2.heap.size := by have := R2.fr.size; simp at this; omega
  have hcn : E.countP (hit q) ≤ n := by rw [← hn]; exact List.countP_le_length
  have hh0 : 0 ≤ h := by have := HH.out; omega
  have d2 := R0.c2
  have d3 := R0.c3
  have hR : ∃ w3, Calls Yba.prog 28 #[.pointer (some ⟨eb, eo, none⟩)] w2 (fun e w' => e = .returned (.tuple #[]) ∧ w' = w3) ∧ RmOut w w3 eb eo g q h ∧ (∀ k, k ≠ eb → w3.heap[k]? = w2.heap[k]?) ∧ w3.heap.size = w2.heap.size := by
    by_cases hz : h = 0
    · exact ⟨_, drop_none eb eo w2 (hz ▸ d2) d3 ((R0.fr.frozen _).trans hfe), R0.drop hne, fun k hk => Below.heap_setCell w2 _ _ k hk, by simp⟩
    · exact ⟨w2, drop_keep eb eo h w2 d2 (by omega), R0, fun _ _ => rfl, rfl⟩
  obtain ⟨w3, hdrop, R3, hk3, hs3⟩ := hR
  have hz3 := (hk3 w.heap.size (by omega)).trans hz
  have hv3 := (hk3 w1.heap.size (by omega)).trans hv
  have HR : Hid (RmOut w w3 eb eo g q h) := R3
  clear R0 R2 R3 d2 d3 hz hv hk3
  go_wp2_with fail
  refine hdrop.mono ?_
  rintro e w4 ⟨rfl, rfl⟩
  clear hdrop
  have z0 := blk_cell hz3 0
  have z1 := blk_cell hz3 1
  have z2 := blk_cell hz3 2
  have z3 := blk_cell hz3 3
  have z4 := blk_cell hz3 4
  have z5 := blk_cell hz3 5
  have z6 := blk_cell hz3 6
  have z7 := blk_cell hz3 7
  have z8 := blk_cell hz3 8
  have zf := blk_free hz3
  have v0 := blk_cell hv3 0
  have v1 := blk_cell hv3 1
  have v2 := blk_cell hv3 2
  have v3 := blk_cell hv3 3
  have v4 := blk_cell hv3 4
  have v5 := blk_cell hv3 5
  have v6 := blk_cell hv3 6
  have v7 := blk_cell hv3 7
  have v8 := blk_cell hv3 8
  simp only [List.getElem?_toArray, List.getElem?_cons_zero, List.getElem?_cons_succ] at z0 z1 z2 z3 z4 z5 z6 z7 z8 v0 v1 v2 v3 v4 v5 v6 v7 v8
  clear hz3 hv3
  go_wp2
  refine bodyPost_ret (v := .tuple #[.agg #[.int .u64 0, .int .u64 0, .slice none 0 0, .int .u64 0, .int .u64 a, .int .u64 b, .int .u64 0, .bool false, .string ⟨#[]⟩], .bool true]) ?_ rfl ?_
  · simp [results, Yba.results21, go_sem, z0, z1, z2, z3, z4, z5, z6, z7, z8]
  · refine ⟨rfl, HR.out.upon heb hgl ?_⟩
    refine below_nine (Nat.le_refl _) ?_
    exact Below.refl _ _

end Go.Proofs.Ybulkbdie
