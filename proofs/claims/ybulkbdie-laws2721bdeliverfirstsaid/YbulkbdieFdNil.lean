/-
  THE WALKS OVER (*upcalls).firstDelivery (function 17): the first name of all.
-/
import Derived.Test.YbulkbdieFdNew
import Derived.WalkKit
import Derived.WalkSpells
import Derived.WalkLawsBesides
import Derived.RegionTactic
import Derived.Deep.QuietTactic
import Derived.BigQuiet
import Derived.BigRegion
import Derived.OwnWalk
import Derived.Deep.DeepCutAuto
namespace Go.Proofs.Ybulkbdie
open Go.RowKit

set_option maxHeartbeats 1000000 in
set_option maxRecDepth 100000 in
theorem fd_new_nil (ub uo n : Nat) (v : Value) (a b c : Int) (w : World) (hU : Up w ub uo none v n []) (hx : okN (a, b, c)) :
    Calls Yba.prog 17 #[.pointer (some ⟨ub, uo, none⟩), .agg #[.int .u64 a, .int .u64 b, .int .u64 c]] w fun e w' => e = .returned (.bool true) ∧
      ∃ v', Up w' ub uo (some (w.heap.size + 1)) v' 1 [(a, b, c)] ∧ Fr w w' ub uo none v ∧ ∀ g, v'.ownBlock = some g → v.ownBlock = some g ∨ w.heap.size ≤ g := by
  have hlt := hU.lt
  have c4 := hU.c4
  have c5 := hU.c5
  have f4 := hU.f4
  have f5 := hU.f5
  obtain ⟨i0, hi, hz0, hz1, hz2⟩ := info_parts info42
  have hlk : ∀ q, (Instr.lookup 43 (.map none) (.agg #[.int .u64 a, .int .u64 b, .int .u64 c]) false).run Yba.prog ((w.alloc (.cells #[.int .u64 a, .int .u64 b, .int .u64 c] 42)).drewN q) = .ok (.bool false) ((w.alloc (.cells #[.int .u64 a, .int .u64 b, .int .u64 c] 42)).drewN q) := by
    intro q
    exact look_nil _ (a, b, c) hx
  have q43 : ∀ (w : World) (r : Option Nat), (binOp .eql 43 (.map r) (.map none)).run Yba.prog w = .ok (.bool r.isNone) w := fun w r => run_eql_map_nil w _ _ _ r Yba.underlying43
  have hmm := @run_makeMap Yba.prog
  have HU : Hid (Up w ub uo none v n []) := hU
  clear hU
  obtain ⟨B, hBeq⟩ : ∃ B, B = w.heap.size + 1 := ⟨_, rfl⟩
  have hB : B ≠ ub := by omega
  have HBE : Hid (B = w.heap.size + 1) := hBeq
  rw [← hBeq]
  clear hBeq
  go_enter Yba.func17, Yba.ntmps17
  go_wp2
  go_quiet (fail)
  go_wp2
  obtain ⟨W1, hW1⟩ : ∃ W, W = ((w.alloc (.cells #[.int .u64 a, .int .u64 b, .int .u64 c] 42)).drewN nq).setCell ⟨ub, uo + 4, none⟩ (.map (some (w.heap.size + 1))) := ⟨_, rfl⟩
  obtain ⟨W2, hW2⟩ : ∃ W, W = W1.alloc (.map #[] 0) := ⟨_, rfl⟩
  rw [← hW1, ← hW2, ← HBE.out]
  have hsz : W1.heap.size = w.heap.size + 1 := by rw [hW1]; simp
  have hl1 : ub < W1.heap.size := by omega
  have e4 : W2.cell? ⟨ub, uo + 4, none⟩ = some (.map (some B)) := by
    rw [hW2]
    refine (World.cell?_alloc_lt _ _ _ hl1).trans ?_
    rw [hW1, ← HBE.out]
    exact World.cell?_setCell_same _ _ _ ((World.cell?_alloc_lt w _ _ hlt).trans c4)
  have e5 : W2.cell? ⟨ub, uo + 5, none⟩ = some v := by
    rw [hW2]
    refine (World.cell?_alloc_lt _ _ _ hl1).trans ?_
    rw [hW1, World.cell?_setCell_other (h := by intro e; cases e)]
    exact (World.cell?_alloc_lt w _ _ hlt).trans c5
  have g4 : W2.frozen? ⟨ub, uo + 4, none⟩ = false := by
    rw [hW2]
    refine (World.frozen?_of_block (a := ⟨ub, uo + 4, none⟩) (Below.heap_alloc _ _ ub hl1)).trans ?_
    rw [hW1, World.frozen?_setCell]
    exact (World.frozen?_of_block (a := ⟨ub, uo + 4, none⟩) (Below.heap_alloc w _ ub hlt)).trans f4
  have g5 : W2.frozen? ⟨ub, uo + 5, none⟩ = false := by
    rw [hW2]
    refine (World.frozen?_of_block (a := ⟨ub, uo + 5, none⟩) (Below.heap_alloc _ _ ub hl1)).trans ?_
    rw [hW1, World.frozen?_setCell]
    exact (World.frozen?_of_block (a := ⟨ub, uo + 5, none⟩) (Below.heap_alloc w _ ub hlt)).trans f5
  have kk : ∀ i x, (#[Value.int .u64 a, .int .u64 b, .int .u64 c] : Array Value)[i]? = some x → W2.cell? ⟨w.heap.size, i, none⟩ = some x := by
    intro i x h
    rw [hW2]
    refine (World.cell?_alloc_lt _ _ _ (by show w.heap.size < _; omega)).trans ?_
    rw [hW1, World.cell?_setCell_other (h := by intro e; cases e; omega)]
    show (w.alloc _).cell? _ = _
    rw [World.cell?_alloc_new]
    exact h
  have k0 : W2.cell? ⟨w.heap.size, 0, none⟩ = some (.int .u64 a) := kk 0 _ rfl
  have k1 : W2.cell? ⟨w.heap.size, 1, none⟩ = some (.int .u64 b) := kk 1 _ rfl
  have k2 : W2.cell? ⟨w.heap.size, 2, none⟩ = some (.int .u64 c) := kk 2 _ rfl
  have M2 : MapIs W2 B 0 [] := by
    rw [hW2]
    have := MapIs.made W1
    rw [hsz, ← HBE.out] at this
    exact this
  have O2 : Mid W2 3 v 0 [] := by rw [hW2, hW1]; exact ((((HU.out.ord.alloc _).drewN _).setCell (fun g hg => HU.out.vne g hg) _).alloc _)
  have F2 : Fr w W2 ub uo none v := by rw [hW2, hW1]; exact ((((Fr.refl _ _ _ _ _).alloc hlt _).drewN _).setCell (.inl rfl) _).alloc hlt _
  have z2 : w.heap.size < W2.heap.size := by rw [hW2]; simp; omega
  have hNB : B ≠ w.heap.size := by have := HBE.out; omega
  have hBn : none = some B ∨ v.ownBlock = some B ∨ w.heap.size ≤ B := .inr (.inr (by have := HBE.out; omega))
  have hmv : ∀ g, v.ownBlock = some g → g ≠ B := fun g hg e => by have := HU.out.ord.lt hg; have := HBE.out; omega
  have hvu := HU.out.vne
  clear hW2 hW1 hlk c4 c5 f4 f5 kk hsz hl1 hmm
  -- region 5: the map is written
  obtain ⟨W3, hup, M3, g3⟩ := M2.drew.put (by unfold maxLen; omega) (a, b, c) hx (by simp)
  have hup' : (Instr.mapUpdate 43 (.map (some B)) (.agg #[.int .u64 a, .int .u64 b, .int .u64 c]) (.bool true)).run Yba.prog W2.drew = .ok () W3 := hup
  clear hup
  go_region
  have hub3 : some ub ≠ some B := fun e => hB (Option.some.inj e).symm
  have d4 : W3.cell? ⟨ub, uo + 4, none⟩ = some (.map (some B)) := g3.cell (a := ⟨ub, uo + 4, none⟩) e4 hub3
  have d5 : W3.cell? ⟨ub, uo + 5, none⟩ = some v := g3.cell (a := ⟨ub, uo + 5, none⟩) e5 hub3
  have df4 : W3.frozen? ⟨ub, uo + 4, none⟩ = false := (World.frozen?_of_block (a := ⟨ub, uo + 4, none⟩) (g3.block ub (by show ub < W2.heap.size; omega) hub3)).trans g4
  have df5 : W3.frozen? ⟨ub, uo + 5, none⟩ = false := (World.frozen?_of_block (a := ⟨ub, uo + 5, none⟩) (g3.block ub (by show ub < W2.heap.size; omega) hub3)).trans g5
  have l0 : W3.cell? ⟨w.heap.size, 0, none⟩ = some (.int .u64 a) := g3.cell (a := ⟨w.heap.size, 0, none⟩) k0 (fun e => hNB (Option.some.inj e).symm)
  have l1 : W3.cell? ⟨w.heap.size, 1, none⟩ = some (.int .u64 b) := g3.cell (a := ⟨w.heap.size, 1, none⟩) k1 (fun e => hNB (Option.some.inj e).symm)
  have l2 : W3.cell? ⟨w.heap.size, 2, none⟩ = some (.int .u64 c) := g3.cell (a := ⟨w.heap.size, 2, none⟩) k2 (fun e => hNB (Option.some.inj e).symm)
  have O3 : Mid W3 3 v 0 [] := O2.drew.grown g3 (fun g hg e => hmv g hg (Option.some.inj e))
  have F3 : Fr w W3 ub uo none v := F2.drew.grown hlt g3 (fun k e => by cases e; exact ⟨hB, hBn⟩)
  have z3 : W2.heap.size ≤ W3.heap.size := g3.size
  clear e4 e5 g4 g5 k0 k1 k2 O2 F2 M2 g3 hup' hub3
  -- region 6: the order grows
  have O3' := (O3.alloc (.cells #[.int .u64 a, .int .u64 b, .int .u64 c] 42)).drew
  obtain ⟨g, o, cap, W4, hap, O4, hloc, g4⟩ := O3'.append (P := Yba.prog) 47 47 42 i0 (.agg #[.int .u64 0, .int .u64 0, .int .u64 0]) 24 Yba.underlying47 hi hz0 hz1 hz2 rfl (by omega) ⟨W3.heap.size, 0, none⟩ 1 [.int .u64 a, .int .u64 b, .int .u64 c] rfl (by
    intro j u hj
    match j, hj with
    | 0, hj => simp at hj; subst hj; simp [Addr.add]
    | 1, hj => simp at hj; subst hj; simp [Addr.add]
    | 2, hj => simp at hj; subst hj; simp [Addr.add]
    | j + 3, hj => simp at hj) (by intro u hu; simp at hu; rcases hu with rfl | rfl | rfl <;> rfl) (by unfold maxLen; omega) (by omega)
  have vub : some ub ≠ v.ownBlock := fun e => hvu ub e.symm rfl
  have hu3 : ub < ((W3.alloc (.cells #[.int .u64 a, .int .u64 b, .int .u64 c] 42)).drew).heap.size := by show ub < (W3.alloc _).heap.size; simp; omega
  have q4 : W4.cell? ⟨ub, uo + 4, none⟩ = some (.map (some B)) := g4.cell (a := ⟨ub, uo + 4, none⟩) ((World.cell?_alloc_lt W3 _ _ (by show ub < _; omega)).trans d4) vub
  have q5 : W4.cell? ⟨ub, uo + 5, none⟩ = some v := g4.cell (a := ⟨ub, uo + 5, none⟩) ((World.cell?_alloc_lt W3 _ _ (by show ub < _; omega)).trans d5) vub
  have qf4 : W4.frozen? ⟨ub, uo + 4, none⟩ = false := ((World.frozen?_of_block (a := ⟨ub, uo + 4, none⟩) (g4.block ub hu3 vub)).trans (World.frozen?_of_block (a := ⟨ub, uo + 4, none⟩) (Below.heap_alloc W3 _ ub (by omega)))).trans df4
  have qf5 : W4.frozen? ⟨ub, uo + 5, none⟩ = false := ((World.frozen?_of_block (a := ⟨ub, uo + 5, none⟩) (g4.block ub hu3 vub)).trans (World.frozen?_of_block (a := ⟨ub, uo + 5, none⟩) (Below.heap_alloc W3 _ ub (by omega)))).trans df5
  have M4 : MapIs W4 B (0 + 1) [(a, b, c)] := ((M3.alloc _).drew).grown g4 (fun e => hmv B e.symm rfl)
  have F4 : Fr w W4 ub uo none v := ((F3.alloc hlt _).drew).grown hlt g4 (fun k e => ⟨fun e' => by subst e'; exact vub e.symm, .inr (.inl e)⟩)
  have z4 : W3.heap.size < W4.heap.size := by have := g4.size; simp at this; omega
  have hgub : g ≠ ub := by
    rcases hloc with e | e
    · exact hvu g e
    · simp at e; omega
  have hgB : B ≠ g := by
    rcases hloc with e | e
    · exact fun e' => hmv g e e'.symm
    · have := M3.lt; simp at e; omega
  have hgn : v.ownBlock = some g ∨ w.heap.size ≤ g := by
    rcases hloc with e | e
    · exact .inl e
    · simp at e; exact .inr (by omega)
  clear O3' g4 hloc vub hu3
  have hu3 : ub < W3.heap.size := by omega
  have hn3 : w.heap.size < W3.heap.size := by omega
  go_upto_region 6 with fail
  go_cut [] (fun wx => wx = W4.setCell ⟨ub, uo + 5, none⟩ (.slice (some ⟨g, o, none⟩) (0 + 1) cap))
  case first =>
    go_region_law (refine step_append_run (by rfl) (.tmp 29) (.tmp 31) 47 47 (by rfl) (by rfl) v _ _ _ (by rfl) (by rfl) hap ?_)
    all_goals (go_wp2_with fail; go_meet; rfl)
  case rest =>
  have h4 : wc.cell? ⟨ub, uo + 4, none⟩ = some (.map (some B)) := by rw [hcut, World.cell?_setCell_other (h := by intro e; cases e)]; exact q4
  have h5 : wc.cell? ⟨ub, uo + 5, none⟩ = some (.slice (some ⟨g, o, none⟩) (0 + 1) cap) := by rw [hcut]; exact World.cell?_setCell_same W4 _ _ q5
  have hf4 : wc.frozen? ⟨ub, uo + 4, none⟩ = false := by rw [hcut, World.frozen?_setCell]; exact qf4
  have hf5 : wc.frozen? ⟨ub, uo + 5, none⟩ = false := by rw [hcut, World.frozen?_setCell]; exact qf5
  have M5 : MapIs wc B (0 + 1) [(a, b, c)] := by rw [hcut]; exact M4.setCell hB _
  have O5 : Mid wc 3 (.slice (some ⟨g, o, none⟩) (0 + 1) cap) (0 + 1) ([.int .u64 a, .int .u64 b, .int .u64 c]) := by rw [hcut]; exact O4.setCell (fun g' e => by cases e; exact hgub) _
  have F5 : Fr w wc ub uo none v := by rw [hcut]; exact F4.setCell (.inr rfl) _
  have hcap : 0 + 1 ≤ cap := by
    rcases O4.2 with ⟨e, _⟩ | ⟨_, _, _, e, h, _⟩
    · cases e
    · cases e; exact h
  clear hcut q4 q5 qf4 qf5 M4 O4 F4 d4 d5 df4 df5 l0 l1 l2 O3 F3 M3 hap
  go_wp2
  go_ret
  refine ⟨rfl, _, ⟨h4, h5, hf4, hf5, .inr ⟨B, rfl, M5⟩, ?_, ?_, by simp, fun B' e => by cases e; exact hB, fun g' e => by cases e; exact hgub, fun B' g' e1 e2 => by cases e1; cases e2; exact hgB⟩, F5, fun g' e => by cases e; exact hgn⟩
  · simpa [cellsN] using O5
  · intro x hx'; simp at hx'; subst hx'; exact hx

end Go.Proofs.Ybulkbdie
