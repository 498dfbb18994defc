/-
  THE WALKS OVER (*zzs2721bapp).Deliver (51) and (*upcalls).appOf (30).
-/
import Derived.Test.YbulkbdieOut
import Derived.Deep.RegionLaw
namespace Go.Proofs.Ybulkbdie
open Go.RowKit

theorem info40 : (Yba.prog.info? 40).map (fun i => (i.zero, i.size, i.bytes)) = some (some (.agg #[.int .u64 0, .int .u64 0]), 2, 16) := by kernel_rfl

/-- WHAT Deliver LEAVES: one element lies in the application's list. -/
structure DlOut (w w' : World) (ab : Nat) (a : Int) : Prop where
  row : ∃ g o cap, w'.cell? ⟨ab, 0, none⟩ = some (.slice (some ⟨g, o, none⟩) 1 cap) ∧ w'.cell? ⟨g, o, none⟩ = some (.int .u64 0) ∧ w'.cell? ⟨g, o + 1, none⟩ = some (.int .u64 a) ∧ w.heap.size ≤ g
  os : w'.os = w.os
  tape : w'.tape = w.tape
  output : w'.output = w.output
  size : w.heap.size ≤ w'.heap.size
  block : ∀ k, k < w.heap.size → k ≠ ab → w'.heap[k]? = w.heap[k]?

set_option maxHeartbeats 2000000 in
set_option maxRecDepth 100000 in
theorem dl_walk (ab : Nat) (a : Int) (w : World) (c : w.cell? ⟨ab, 0, none⟩ = some (.slice none 0 0)) (f : w.frozen? ⟨ab, 0, none⟩ = false) :
    Calls Yba.prog 51 #[.pointer (some ⟨ab, 0, none⟩), .agg #[.int .u64 0, .int .u64 0, .slice none 0 0, .int .u64 0, .int .u64 a]] w fun e w' => e = .returned (.tuple #[]) ∧ DlOut w w' ab a := by
  obtain ⟨i0, hi, hz0, hz1, hz2⟩ := info_parts info40
  have hlt : ab < w.heap.size := World.block_lt_of_cell? _ _ c
  obtain ⟨W1, hW1⟩ : ∃ X, X = ((w.alloc (.cells #[.int .u64 0, .int .u64 0, .slice none 0 0, .int .u64 0, .int .u64 a] 106)).alloc (.cells #[.int .u64 0, .int .u64 a] 40)).drew := ⟨_, rfl⟩
  have hs1 : W1.heap.size = w.heap.size + 2 := by rw [hW1]; show (World.alloc _ _).heap.size = _; simp
  have hB1 : Below w.heap.size w W1 := by rw [hW1]; exact (((Below.refl _ _).alloc (Nat.le_refl _) _).alloc (by simp) _).drew
  obtain ⟨g, o, cap, W4, hap, O4, hloc, g4⟩ := (Mid.nil W1 2).append (P := Yba.prog) 34 34 40 i0 (.agg #[.int .u64 0, .int .u64 0]) 16 Yba.underlying34 hi hz0 hz1 hz2 rfl (by omega) ⟨w.heap.size + 1, 0, none⟩ 1 [.int .u64 0, .int .u64 a] rfl (by
    intro j u hj
    rw [hW1]
    match j, hj with
    | 0, hj => simp at hj; subst hj; simp [Addr.add]
    | 1, hj => simp at hj; subst hj; simp [Addr.add]
    | j + 2, hj => simp at hj) (by intro u hu; simp at hu; rcases hu with rfl | rfl <;> rfl) (by unfold maxLen; omega) (by omega)
  have q0 : W4.cell? ⟨ab, 0, none⟩ = some (.slice none 0 0) := g4.cell (a := ⟨ab, 0, none⟩) ((hB1.cell (p := ⟨ab, 0, none⟩) hlt).trans c) (by simp [Value.ownBlock])
  have qf : W4.frozen? ⟨ab, 0, none⟩ = false := (World.frozen?_of_block (a := ⟨ab, 0, none⟩) (g4.block ab (by omega) (by simp [Value.ownBlock]))).trans ((hB1.frozen (p := ⟨ab, 0, none⟩) hlt).trans f)
  have hgb : w.heap.size ≤ g := by
    rcases hloc with e | e
    · simp [Value.ownBlock] at e
    · omega
  have hout : DlOut w (W4.setCell ⟨ab, 0, none⟩ (.slice (some ⟨g, o, none⟩) 1 cap)) ab a := by
    have hgn : g ≠ ab := by omega
    refine ⟨⟨g, o, cap, World.cell?_setCell_same _ _ _ q0, ?_, ?_, hgb⟩, ?_, ?_, ?_, ?_, ?_⟩
    · rw [World.cell?_setCell_other (h := by intro e; have e1 := congrArg Addr.block e; simp only at e1; omega)]
      rcases O4.2 with ⟨e, _⟩ | ⟨g', o', cap', e, _, _, _, hra, _⟩
      · cases e
      · cases e; exact hra 0 _ rfl
    · rw [World.cell?_setCell_other (h := by intro e; have e1 := congrArg Addr.block e; simp only at e1; omega)]
      rcases O4.2 with ⟨e, _⟩ | ⟨g', o', cap', e, _, _, _, hra, _⟩
      · cases e
      · cases e; exact hra 1 _ rfl
    · exact g4.os.trans hB1.os
    · exact g4.tape.trans hB1.tape
    · exact g4.output.trans hB1.output
    · have := g4.size; simp; omega
    · intro k hk hne
      exact (Below.heap_setCell W4 _ _ k hne).trans ((g4.block k (by omega) (by simp [Value.ownBlock])).trans (hB1.block k hk))
  rw [hW1] at hap
  have HO : Hid (DlOut w (W4.setCell ⟨ab, 0, none⟩ (.slice (some ⟨g, o, none⟩) 1 cap)) ab a) := hout
  clear hout O4 g4 hB1 hloc
  go_enter Yba.func51, Yba.ntmps51
  go_wp2_with fail
  go_region_law (refine step_append_run rfl (.tmp 8) (.tmp 11) 34 34 rfl rfl (.slice none 0 0) _ _ _ rfl rfl hap ?_)
  all_goals (go_end0; exact ⟨rfl, HO.out⟩)

set_option maxHeartbeats 400000 in
theorem app_walk (ub uo : Nat) (v : Value) (w : World) (c : w.cell? ⟨ub, uo, none⟩ = some v) :
    Calls Yba.prog 30 #[.pointer (some ⟨ub, uo, none⟩), .string ⟨#[]⟩] w fun e w' => e = .returned v ∧ w' = w := by
  go_enter Yba.func30, Yba.ntmps30
  go_wp2
  go_ret
  exact ⟨rfl, rfl⟩

end Go.Proofs.Ybulkbdie
