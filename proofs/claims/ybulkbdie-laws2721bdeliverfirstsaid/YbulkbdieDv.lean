/-
  THE WALK OVER (*engine).deliver (22).
-/
import Derived.Test.YbulkbdieTake
import Derived.Test.YbulkbdieDl
import Derived.Test.YbulkbdieFd
import Derived.Test.YbulkbdieFdNil
import Derived.Deep.RegionWith
namespace Go.Proofs.Ybulkbdie
open Go.RowKit

set_option maxHeartbeats 2000000 in
set_option maxRecDepth 100000 in
theorem dv_old (eb B n : Nat) (L : List Nm) (a b : Int) (w : World) (hx : okN (0, a, b)) (hin : (0, a, b) ∈ L) (c4 : w.cell? ⟨eb, 93, none⟩ = some (.map (some B))) (hM : MapIs w B n L) :
    Calls Yba.prog 22 #[.pointer (some ⟨eb, 0, none⟩), .agg #[.int .u64 0, .int .u64 0, .slice none 0 0, .int .u64 0, .int .u64 a, .int .u64 b, .int .u64 0, .bool false, .string ⟨#[]⟩]] w fun e w' => e = .returned (.tuple #[]) ∧ Below w.heap.size w w' := by
  have hlt : eb < w.heap.size := World.block_lt_of_cell? _ _ c4
  have HB : Hid (∀ w1, Below w.heap.size w w1 → Calls Yba.prog 17 #[.pointer (some ⟨eb, 89, none⟩), .agg #[.int .u64 0, .int .u64 a, .int .u64 b]] w1 fun e w' => e = .returned (.bool false) ∧ Below w1.heap.size w1 w') := fun w1 hb =>
    fd_old eb 89 B n L 0 a b w1 hx hin ((hb.cell (p := ⟨eb, 93, none⟩) hlt).trans c4) (hM.kept (hb.block B hM.lt))
  clear hx hin hM c4
  go_enter Yba.func22, Yba.ntmps22
  go_wp2_with fail
  go_cut [9] (fun s wx => s = .bool false ∧ Below w.heap.size w wx)
  case first =>
    go_region_with (first | (go_at_call 29; refine (name29 a b _).mono ?_; rintro e w1 ⟨rfl, hb1⟩; have HB1 : Hid (Below w.heap.size w w1) := ((Below.refl w.heap.size w).alloc (Nat.le_refl _) _).trans (Below.mono ⟨hb1.os, hb1.tape, hb1.output, hb1.size, hb1.block⟩ (by simp)); clear hb1) | (go_at_call 17; refine (HB.out _ ⟨HB1.out.os, HB1.out.tape, HB1.out.output, HB1.out.size, HB1.out.block⟩).mono ?_; rintro e w2 ⟨rfl, hb2⟩))
    go_wp2_with fail
    go_meet
    exact ⟨rfl, HB1.out.trans (hb2.mono HB1.out.size)⟩
  case rest =>
    obtain ⟨rfl, hb⟩ := hcut
    go_wp2
    go_end0
    exact ⟨rfl, hb⟩

/-- WHAT A DELIVERY LEAVES. -/
structure DvOut (w w' : World) (eb ab : Nat) (a : Int) : Prop where
  row : ∃ g o cap, w'.cell? ⟨ab, 0, none⟩ = some (.slice (some ⟨g, o, none⟩) 1 cap) ∧ w'.cell? ⟨g, o, none⟩ = some (.int .u64 0) ∧ w'.cell? ⟨g, o + 1, none⟩ = some (.int .u64 a) ∧ w.heap.size ≤ g
  os : w'.os = w.os
  tape : w'.tape = w.tape
  output : w'.output = w.output
  size : w.heap.size ≤ w'.heap.size
  block : ∀ k, k < w.heap.size → k ≠ ab → k ≠ eb → w'.heap[k]? = w.heap[k]?
  cell : ∀ o, o ≠ 93 → o ≠ 94 → w'.cell? ⟨eb, o, none⟩ = w.cell? ⟨eb, o, none⟩
  frozen : ∀ o, w'.frozen? ⟨eb, o, none⟩ = w.frozen? ⟨eb, o, none⟩

theorem dv_done {w w1 wc w2 : World} {eb ab : Nat} {a : Int} (hF : Fr w1 wc eb 89 none (.slice none 0 0)) (hb : Below w.heap.size w w1) (hD : DlOut wc w2 ab a) (hlt : eb < w.heap.size) (hne : ab ≠ eb) : DvOut w w2 eb ab a := by
  have s1 := hb.size
  have s2 := hF.size
  have s3 := hD.size
  have hbe : w2.heap[eb]? = wc.heap[eb]? := hD.block eb (by omega) hne.symm
  obtain ⟨g, o, cap, r1, r2, r3, r4⟩ := hD.row
  exact ⟨⟨g, o, cap, r1, r2, r3, by omega⟩, hD.os.trans (hF.os.trans hb.os), hD.tape.trans (hF.tape.trans hb.tape), hD.output.trans (hF.output.trans hb.output), by omega,
    fun k hk h1 h2 => (hD.block k (by omega) h1).trans ((hF.block k (by omega) h2 (by simp) (by simp [Value.ownBlock])).trans (hb.block k hk)),
    fun o h1 h2 => (World.cell?_of_block (a := ⟨eb, o, none⟩) hbe).trans ((hF.cell o (by omega) (by omega)).trans (hb.cell (p := ⟨eb, o, none⟩) hlt)),
    fun o => (World.frozen?_of_block (a := ⟨eb, o, none⟩) hbe).trans ((hF.frozen o).trans (hb.frozen (p := ⟨eb, o, none⟩) hlt))⟩

theorem nil_ahead33 (p : Addr) (w : World) : (nilAhead 327 33 (.pointer (some p)) "Deliver").run Yba.prog w = .ok (some false) w := by kernel_rfl
theorem method33 (p : Addr) (w : World) : (method 327 33 (.pointer (some p)) "Deliver").run Yba.prog w = .ok (51, .pointer (some p)) w := by kernel_rfl

set_option maxHeartbeats 2000000 in
set_option maxRecDepth 100000 in
theorem dv_new (eb ab : Nat) (a b : Int) (w : World) (hx : okN (0, a, b)) (hU : Up w eb 89 none (.slice none 0 0) 0 []) (c89 : w.cell? ⟨eb, 89, none⟩ = some (.iface 33 (.pointer (some ⟨ab, 0, none⟩)))) (ca : w.cell? ⟨ab, 0, none⟩ = some (.slice none 0 0)) (fa : w.frozen? ⟨ab, 0, none⟩ = false) (hne : ab ≠ eb) :
    Calls Yba.prog 22 #[.pointer (some ⟨eb, 0, none⟩), .agg #[.int .u64 0, .int .u64 0, .slice none 0 0, .int .u64 0, .int .u64 a, .int .u64 b, .int .u64 0, .bool false, .string ⟨#[]⟩]] w fun e w' => e = .returned (.tuple #[]) ∧ DvOut w w' eb ab a := by
  have hlt : eb < w.heap.size := hU.lt
  have hla : ab < w.heap.size := World.block_lt_of_cell? _ _ ca
  have HB : Hid (∀ w1, Below w.heap.size w w1 → Calls Yba.prog 17 #[.pointer (some ⟨eb, 89, none⟩), .agg #[.int .u64 0, .int .u64 a, .int .u64 b]] w1 fun e w' => e = .returned (.bool true) ∧ Fr w1 w' eb 89 none (.slice none 0 0)) := fun w1 hb =>
    (fd_new_nil eb 89 0 _ 0 a b w1 ⟨(hb.cell (p := ⟨eb, 89 + 4, none⟩) hlt).trans hU.c4, (hb.cell (p := ⟨eb, 89 + 5, none⟩) hlt).trans hU.c5, (hb.frozen (p := ⟨eb, 89 + 4, none⟩) hlt).trans hU.f4, (hb.frozen (p := ⟨eb, 89 + 5, none⟩) hlt).trans hU.f5, .inl ⟨rfl, rfl⟩, Mid.nil _ _, by simp, by simp, by simp, by simp [Value.ownBlock], by simp⟩ hx).mono (by
      rintro e w' ⟨he, v', _, hF, _⟩
      exact ⟨he, hF⟩)
  clear hx hU
  have na := nil_ahead33 ⟨ab, 0, none⟩
  have nm := method33 ⟨ab, 0, none⟩
  go_enter Yba.func22, Yba.ntmps22
  go_wp2_with fail
  go_cut [9] (fun s wx => s = .bool true ∧ ∃ w1, Below (w.heap.size + 1) (w.alloc (.cells #[.int .u64 0, .int .u64 0, .slice none 0 0, .int .u64 0, .int .u64 a, .int .u64 b, .int .u64 0, .bool false, .string ⟨#[]⟩] 108)) w1 ∧ Fr w1 wx eb 89 none (.slice none 0 0))
  case first =>
    go_region_with (first | (go_at_call 29; refine (name29 a b _).mono ?_; rintro e w1 ⟨rfl, hb1⟩; have HB1 : Hid (Below (w.heap.size + 1) (w.alloc (.cells #[.int .u64 0, .int .u64 0, .slice none 0 0, .int .u64 0, .int .u64 a, .int .u64 b, .int .u64 0, .bool false, .string ⟨#[]⟩] 108)) w1) := Below.mono ⟨hb1.os, hb1.tape, hb1.output, hb1.size, hb1.block⟩ (by simp); clear hb1) | (go_at_call 17; refine (HB.out _ (((Below.refl w.heap.size w).alloc (Nat.le_refl _) _).trans (Below.mono ⟨HB1.out.os, HB1.out.tape, HB1.out.output, HB1.out.size, HB1.out.block⟩ (by omega)))).mono ?_; rintro e w2 ⟨rfl, hb2⟩))
    go_wp2_with fail
    go_meet
    exact ⟨rfl, w1, HB1.out, hb2⟩
  case rest =>
    obtain ⟨rfl, w1, hb1, hF⟩ := hcut
    have hs1 : w.heap.size < w1.heap.size := by have := hb1.size; simp at this; omega
    have hbw : Below w.heap.size w w1 := ((Below.refl w.heap.size w).alloc (Nat.le_refl _) _).trans (hb1.mono (by omega))
    have hA : wc.heap[w.heap.size]? = some (.cells #[.int .u64 0, .int .u64 0, .slice none 0 0, .int .u64 0, .int .u64 a, .int .u64 b, .int .u64 0, .bool false, .string ⟨#[]⟩] 108) := (hF.block _ hs1 (by omega) (by simp) (by simp [Value.ownBlock])).trans ((hb1.block _ (by omega)).trans (heap_alloc_new _ _))
    have v0 := blk_cell hA 0
    have v1 := blk_cell hA 1
    have v2 := blk_cell hA 2
    have v3 := blk_cell hA 3
    have v4 := blk_cell hA 4
    have v8 := blk_cell hA 8
    simp only [List.getElem?_toArray, List.getElem?_cons_zero, List.getElem?_cons_succ] at v0 v1 v2 v3 v4 v8
    have d89 : wc.cell? ⟨eb, 89, none⟩ = some (.iface 33 (.pointer (some ⟨ab, 0, none⟩))) := (hF.cell 89 (by omega) (by omega)).trans ((hbw.cell (p := ⟨eb, 89, none⟩) hlt).trans c89)
    have hba : wc.heap[ab]? = w.heap[ab]? := (hF.block ab (by omega) hne (by simp) (by simp [Value.ownBlock])).trans (hbw.block ab hla)
    have da : wc.cell? ⟨ab, 0, none⟩ = some (.slice none 0 0) := (World.cell?_of_block (a := ⟨ab, 0, none⟩) hba).trans ca
    have df : wc.frozen? ⟨ab, 0, none⟩ = false := (World.frozen?_of_block (a := ⟨ab, 0, none⟩) hba).trans fa
    have HF : Hid (Fr w1 wc eb 89 none (.slice none 0 0) ∧ Below w.heap.size w w1) := ⟨hF, hbw⟩
    have hsw : w.heap.size < wc.heap.size := by have := hF.size; omega
    clear hF hb1 hbw hA hba c89 ca fa HB
    go_wp2_with fail
    go_region_with (first | (go_at_call 30; refine (app_walk eb 89 _ wc.drew d89).mono ?_; rintro e w2 ⟨rfl, rfl⟩) | (go_at_call 51; refine (dl_walk ab a wc.drew da df).mono ?_; rintro e w2 ⟨rfl, hD⟩))
    all_goals (go_end0; exact ⟨rfl, dv_done HF.out.1 HF.out.2 ⟨hD.row, hD.os, hD.tape, hD.output, hD.size, hD.block⟩ hlt hne⟩)

end Go.Proofs.Ybulkbdie
