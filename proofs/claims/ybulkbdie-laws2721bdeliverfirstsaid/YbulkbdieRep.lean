/-
  THE WALK OVER (*engine).takeOriginReply (12).
-/
import Derived.Test.YbulkbdieDv
namespace Go.Proofs.Ybulkbdie
open Go.RowKit

set_option maxHeartbeats 2000000 in
set_option maxRecDepth 100000 in
theorem rep_none (eb rb g : Nat) (q : Int) (w : World) (h : NoHit w eb 95 g q) (hg : g < w.heap.size) (cq : w.cell? ⟨rb, 0, none⟩ = some (.int .u64 q)) :
    Calls Yba.prog 12 #[.pointer (some ⟨eb, 0, none⟩), .pointer (some ⟨rb, 0, none⟩)] w fun e w' => e = .returned (.tuple #[]) ∧ Below w.heap.size w w' := by
  have heb : eb < w.heap.size := World.block_lt_of_cell? _ _ h.1
  have hrb : rb < w.heap.size := World.block_lt_of_cell? _ _ cq
  have HB : Below w.heap.size w (w.alloc (.cells #[.int .u64 0, .int .u64 0, .slice none 0 0, .int .u64 0, .int .u64 0, .int .u64 0, .int .u64 0, .bool false, .string ⟨#[]⟩] 108)).drew := ((Below.refl _ _).alloc (Nat.le_refl _) _).drew
  have ht := take_none eb 95 g q w.drew ⟨h.1, h.2⟩ hg
  have ht2 := take_none eb 95 g q (w.alloc (.cells #[.int .u64 0, .int .u64 0, .slice none 0 0, .int .u64 0, .int .u64 0, .int .u64 0, .int .u64 0, .bool false, .string ⟨#[]⟩] 108)).drew (h.kept (HB.cell (p := ⟨eb, 95, none⟩) heb) (HB.cell (p := ⟨eb, 95 + 1, none⟩) heb) (HB.block g hg)) (by show g < (w.alloc _).heap.size; simp; omega)
  clear h HB
  go_enter Yba.func12, Yba.ntmps12
  go_wp2_with fail
  go_cut [5] (fun s wx => s = .bool false ∧ Below w.heap.size w wx)
  case first =>
    go_region_with (first | (go_at_call 21; refine ht.mono ?_; rintro e w1 ⟨rfl, hb1⟩; have HB1 : Hid (Below w.heap.size w w1) := ⟨hb1.os, hb1.tape, hb1.output, hb1.size, hb1.block⟩; have hrr := (HB1.out.cell (p := ⟨rb, 0, none⟩) hrb).trans cq; have hls : w.heap.size ≤ w1.heap.size := HB1.out.size; clear hb1) | (go_at_call 21; refine ht2.mono ?_; rintro e w1 ⟨rfl, hb1⟩; have HB1 : Hid (Below w.heap.size w w1) := ((Below.refl w.heap.size w).alloc (Nat.le_refl _) _).trans (Below.mono ⟨hb1.os, hb1.tape, hb1.output, hb1.size, hb1.block⟩ (by simp)); have hz : w1.heap[w.heap.size]? = some (.cells #[.int .u64 0, .int .u64 0, .slice none 0 0, .int .u64 0, .int .u64 0, .int .u64 0, .int .u64 0, .bool false, .string ⟨#[]⟩] 108) := (hb1.block _ (by show _ < (w.alloc _).heap.size; simp)).trans (heap_alloc_new w _); have z0 := blk_cell hz 0; have z1 := blk_cell hz 1; have z2 := blk_cell hz 2; have z3 := blk_cell hz 3; have z4 := blk_cell hz 4; have z5 := blk_cell hz 5; have z6 := blk_cell hz 6; have z7 := blk_cell hz 7; have z8 := blk_cell hz 8; have zf := blk_free hz; simp only [List.getElem?_toArray, List.getElem?_cons_zero, List.getElem?_cons_succ] at z0 z1 z2 z3 z4 z5 z6 z7 z8; clear hz; have hrr := (HB1.out.cell (p := ⟨rb, 0, none⟩) hrb).trans cq; have hls : w.heap.size ≤ w1.heap.size := HB1.out.size; clear hb1))
    all_goals (go_wp2_with fail; go_meet; refine ⟨rfl, ?_⟩)
    · exact HB1.out.alloc hls _
    · exact below_nine (Nat.le_refl _) HB1.out
    · exact below_nine (Nat.le_refl _) HB1.out
  case rest =>
    obtain ⟨rfl, hb⟩ := hcut
    go_wp2
    go_end0
    exact ⟨rfl, hb⟩

set_option maxHeartbeats 4000000 in
set_option maxRecDepth 100000 in
theorem rep_hit (eb rb g n c j : Nat) (a b : Int) (E : List Ent) (q : Int) (w : World) (hn : E.length = n) (hm : n ≤ 4096) (hok : ∀ x ∈ E, okE x) (W : Wl w eb 95 g c E n)
    (hj : j < E.length) (hEj : E[j] = (a, b, q, true)) (hfst : ∀ t (h' : t < E.length), t < j → hit q E[t] = false) (h : Int) (hh : h = (n : Int) - (E.countP (hit q) : Nat)) (cq : w.cell? ⟨rb, 0, none⟩ = some (.int .u64 q)) (hrn : rb ≠ eb) (hrg : rb ≠ g)
    (Q : World → World → Prop) (Hd : ∀ wx, RmOut w wx eb 95 g q h → Calls Yba.prog 22 #[.pointer (some ⟨eb, 0, none⟩), .agg #[.int .u64 0, .int .u64 0, .slice none 0 0, .int .u64 0, .int .u64 a, .int .u64 b, .int .u64 0, .bool false, .string ⟨#[]⟩]] wx fun e w' => e = .returned (.tuple #[]) ∧ Q wx w') :
    Calls Yba.prog 12 #[.pointer (some ⟨eb, 0, none⟩), .pointer (some ⟨rb, 0, none⟩)] w fun e w' => e = .returned (.tuple #[]) ∧ ∃ wx, RmOut w wx eb 95 g q h ∧ Q wx w' := by
  have heb : eb < w.heap.size := World.block_lt_of_cell? _ _ W.c0
  have hg : g < w.heap.size := W.glt
  have hrb : rb < w.heap.size := World.block_lt_of_cell? _ _ cq
  have HB0 : Below w.heap.size w w.drew := (Below.refl _ _).drew
  have HB : Below w.heap.size w (w.alloc (.cells #[.int .u64 0, .int .u64 0, .slice none 0 0, .int .u64 0, .int .u64 0, .int .u64 0, .int .u64 0, .bool false, .string ⟨#[]⟩] 108)).drew := ((Below.refl _ _).alloc (Nat.le_refl _) _).drew
  have ht := take_hit eb 95 g n c j a b E q w.drew hn hm hok (W.below HB0) hj hEj hfst h hh
  have ht2 := take_hit eb 95 g n c j a b E q (w.alloc (.cells #[.int .u64 0, .int .u64 0, .slice none 0 0, .int .u64 0, .int .u64 0, .int .u64 0, .int .u64 0, .bool false, .string ⟨#[]⟩] 108)).drew hn hm hok (W.below HB) hj hEj hfst h hh
  have HD : Hid (∀ wx, RmOut w wx eb 95 g q h → Calls Yba.prog 22 #[.pointer (some ⟨eb, 0, none⟩), .agg #[.int .u64 0, .int .u64 0, .slice none 0 0, .int .u64 0, .int .u64 a, .int .u64 b, .int .u64 0, .bool false, .string ⟨#[]⟩]] wx fun e w' => e = .returned (.tuple #[]) ∧ Q wx w') := Hd
  have HBH : Hid (Below w.heap.size w w.drew ∧ Below w.heap.size w (w.alloc (.cells #[.int .u64 0, .int .u64 0, .slice none 0 0, .int .u64 0, .int .u64 0, .int .u64 0, .int .u64 0, .bool false, .string ⟨#[]⟩] 108)).drew) := ⟨HB0, HB⟩
  clear HB HB0 W hok hEj hfst hh Hd hn
  go_enter Yba.func12, Yba.ntmps12
  go_wp2_with fail
  go_cut [4, 5] (fun s4 s5 wx => s5 = .bool true ∧ RmOut w wx eb 95 g q h ∧ ∃ p, s4 = .pointer (some ⟨p, 0, none⟩) ∧ wx.cell? ⟨p, 0, none⟩ = some (.int .u64 0) ∧ wx.cell? ⟨p, 1, none⟩ = some (.int .u64 0) ∧ wx.cell? ⟨p, 2, none⟩ = some (.slice none 0 0) ∧ wx.cell? ⟨p, 3, none⟩ = some (.int .u64 0) ∧ wx.cell? ⟨p, 4, none⟩ = some (.int .u64 a) ∧ wx.cell? ⟨p, 5, none⟩ = some (.int .u64 b) ∧ wx.cell? ⟨p, 6, none⟩ = some (.int .u64 0) ∧ wx.cell? ⟨p, 7, none⟩ = some (.bool false) ∧ wx.cell? ⟨p, 8, none⟩ = some (.string ⟨#[]⟩))
  case first =>
    go_region_with (first | (go_at_call 21; refine ht.mono ?_; rintro e w1 ⟨rfl, R1⟩; have HR : Hid (RmOut w w1 eb 95 g q h) := R1.from heb HBH.out.1; have hrr : w1.cell? ⟨rb, 0, none⟩ = some (.int .u64 q) := (World.cell?_of_block (a := ⟨rb, 0, none⟩) (HR.out.fr.block rb hrb hrn hrg)).trans cq; have hls : w.heap.size ≤ w1.heap.size := HR.out.fr.size; clear R1) | (go_at_call 21; refine ht2.mono ?_; rintro e w1 ⟨rfl, R1⟩; have HR : Hid (RmOut w w1 eb 95 g q h) := R1.from heb HBH.out.2; have hz : w1.heap[w.heap.size]? = some (.cells #[.int .u64 0, .int .u64 0, .slice none 0 0, .int .u64 0, .int .u64 0, .int .u64 0, .int .u64 0, .bool false, .string ⟨#[]⟩] 108) := (R1.fr.block _ (by show _ < (w.alloc _).heap.size; simp) (by omega) (by omega)).trans (heap_alloc_new w _); have z0 := blk_cell hz 0; have z1 := blk_cell hz 1; have z2 := blk_cell hz 2; have z3 := blk_cell hz 3; have z4 := blk_cell hz 4; have z5 := blk_cell hz 5; have z6 := blk_cell hz 6; have z7 := blk_cell hz 7; have z8 := blk_cell hz 8; have zf := blk_free hz; simp only [List.getElem?_toArray, List.getElem?_cons_zero, List.getElem?_cons_succ] at z0 z1 z2 z3 z4 z5 z6 z7 z8; clear hz; have hrr : w1.cell? ⟨rb, 0, none⟩ = some (.int .u64 q) := (World.cell?_of_block (a := ⟨rb, 0, none⟩) (HR.out.fr.block rb hrb hrn hrg)).trans cq; have hls : w.heap.size ≤ w1.heap.size := HR.out.fr.size; clear R1))
    all_goals (go_wp2_with fail; go_meet; refine ⟨rfl, ?_, _, rfl, ?_⟩)
    · exact HR.out.upon heb hg ((Below.refl _ _).alloc hls _)
    · simp
    · exact HR.out.upon heb hg (below_nine (Nat.le_refl _) (Below.refl _ _))
    · simp [go_sem, z0, z1, z2, z3, z4, z5, z6, z7, z8]
    · exact HR.out.upon heb hg (below_nine (Nat.le_refl _) (Below.refl _ _))
    · simp [go_sem, z0, z1, z2, z3, z4, z5, z6, z7, z8]
  case rest =>
    obtain ⟨rfl, R, p, rfl, x0, x1, x2, x3, x4, x5, x6, x7, x8⟩ := hcut
    have hdv := HD.out wc R
    have HR : Hid (RmOut w wc eb 95 g q h) := R
    clear R
    go_wp2_with fail
    refine hdv.mono ?_
    rintro e w2 ⟨rfl, hQ⟩
    go_wp2
    go_end0
    exact ⟨rfl, wc, HR.out, hQ⟩

end Go.Proofs.Ybulkbdie
