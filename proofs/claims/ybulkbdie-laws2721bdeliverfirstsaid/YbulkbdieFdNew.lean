/-
  THE WALKS OVER (*upcalls).firstDelivery (function 17): a name that is not among those held.
-/
import Derived.Test.YbulkbdieUp
import Derived.WalkKit
import Derived.WalkSpells
import Derived.WalkLawsBesides
import Derived.RegionTactic
import Derived.Deep.QuietTactic
import Derived.BigQuiet
import Derived.BigRegion
import Derived.OwnWalk
import Derived.Deep.DeepCutAuto
namespace Go.Proofs.Ybulkbdie
open Go.RowKit

theorem info42 : (Yba.prog.info? 42).map (fun i => (i.zero, i.size, i.bytes)) = some (some (.agg #[.int .u64 0, .int .u64 0, .int .u64 0]), 3, 24) := by kernel_rfl

set_option maxHeartbeats 1000000 in
set_option maxRecDepth 100000 in
theorem fd_new_some (ub uo B n : Nat) (L : List Nm) (v : Value) (a b c : Int) (w : World) (hU : Up w ub uo (some B) v n L) (hx : okN (a, b, c)) (hnew : (a, b, c) ∉ L) (hlen : L.length ≤ 1024) (hn : n ≤ 100000) :
    Calls Yba.prog 17 #[.pointer (some ⟨ub, uo, none⟩), .agg #[.int .u64 a, .int .u64 b, .int .u64 c]] w fun e w' => e = .returned (.bool true) ∧
      ∃ v', Up w' ub uo (some B) v' (n + 1) (win (L ++ [(a, b, c)])) ∧ Fr w w' ub uo (some B) v ∧ ∀ g, v'.ownBlock = some g → v.ownBlock = some g ∨ w.heap.size ≤ g := by
  have hlt := hU.lt
  have c4 := hU.c4
  have c5 := hU.c5
  have f4 := hU.f4
  have f5 := hU.f5
  have hM : MapIs w B n L := by
    rcases hU.set with ⟨h, _⟩ | ⟨B', h, hm⟩
    · cases h
    · cases h; exact hm
  have hB := hU.mne B rfl
  obtain ⟨i0, hi, hz0, hz1, hz2⟩ := info_parts info42
  have hlk : ∀ q, (Instr.lookup 43 (.map (some B)) (.agg #[.int .u64 a, .int .u64 b, .int .u64 c]) false).run Yba.prog ((w.alloc (.cells #[.int .u64 a, .int .u64 b, .int .u64 c] 42)).drewN q) = .ok (.bool false) ((w.alloc (.cells #[.int .u64 a, .int .u64 b, .int .u64 c] 42)).drewN q) := by
    intro q
    have := ((hM.alloc (.cells #[.int .u64 a, .int .u64 b, .int .u64 c] 42)).drewN q).look (a, b, c) hx
    simp [hnew, valN] at this
    exact this
  have q43 : ∀ (w : World) (r : Option Nat), (binOp .eql 43 (.map r) (.map none)).run Yba.prog w = .ok (.bool r.isNone) w := fun w r => run_eql_map_nil w _ _ _ r Yba.underlying43
  have HN : Hid ((a, b, c) ∉ L) := hnew
  clear hnew
  have HU : Hid (Up w ub uo (some B) v n L) := hU
  clear hU
  go_enter Yba.func17, Yba.ntmps17
  go_wp2
  go_quiet (fail)
  go_wp2
  obtain ⟨W2, hW2⟩ : ∃ W, W = (w.alloc (.cells #[.int .u64 a, .int .u64 b, .int .u64 c] 42)).drewN nq := ⟨_, rfl⟩
  rw [← hW2]
  have e4 : W2.cell? ⟨ub, uo + 4, none⟩ = some (.map (some B)) := by rw [hW2]; exact (World.cell?_alloc_lt w _ _ hlt).trans c4
  have e5 : W2.cell? ⟨ub, uo + 5, none⟩ = some v := by rw [hW2]; exact (World.cell?_alloc_lt w _ _ hlt).trans c5
  have g4 : W2.frozen? ⟨ub, uo + 4, none⟩ = false := by rw [hW2]; exact (World.frozen?_of_block (a := ⟨ub, uo + 4, none⟩) (Below.heap_alloc w _ ub hlt)).trans f4
  have g5 : W2.frozen? ⟨ub, uo + 5, none⟩ = false := by rw [hW2]; exact (World.frozen?_of_block (a := ⟨ub, uo + 5, none⟩) (Below.heap_alloc w _ ub hlt)).trans f5
  have k0 : W2.cell? ⟨w.heap.size, 0, none⟩ = some (.int .u64 a) := by rw [hW2]; show (w.alloc _).cell? _ = _; simp
  have k1 : W2.cell? ⟨w.heap.size, 1, none⟩ = some (.int .u64 b) := by rw [hW2]; show (w.alloc _).cell? _ = _; simp
  have k2 : W2.cell? ⟨w.heap.size, 2, none⟩ = some (.int .u64 c) := by rw [hW2]; show (w.alloc _).cell? _ = _; simp
  have M2 : MapIs W2 B n L := by rw [hW2]; exact (hM.alloc _).drewN _
  have O2 : Mid W2 3 v L.length (L.flatMap cellsN) := by rw [hW2]; exact (HU.out.ord.alloc _).drewN _
  have F2 : Fr w W2 ub uo (some B) v := by rw [hW2]; exact ((Fr.refl _ _ _ _ _).alloc hlt _).drewN _
  have z2 : w.heap.size < W2.heap.size := by rw [hW2]; show _ < (w.alloc _).heap.size; simp
  have hNB : B ≠ w.heap.size := by have := hM.lt; omega
  have hBn : some B = some B ∨ v.ownBlock = some B ∨ w.heap.size ≤ B := .inl rfl
  have hmv : ∀ g, v.ownBlock = some g → g ≠ B := fun g hg e => HU.out.mv B g rfl hg e.symm
  have hvu := HU.out.vne
  clear hW2 hlk c4 c5 f4 f5 hM
  -- region 5: the map is written
  obtain ⟨W3, hup, M3, g3⟩ := M2.drew.put (by unfold maxLen; omega) (a, b, c) hx HN.out
  have hup' : (Instr.mapUpdate 43 (.map (some B)) (.agg #[.int .u64 a, .int .u64 b, .int .u64 c]) (.bool true)).run Yba.prog W2.drew = .ok () W3 := hup
  clear hup
  go_region
  have hub3 : some ub ≠ some B := fun e => hB (Option.some.inj e).symm
  have d4 : W3.cell? ⟨ub, uo + 4, none⟩ = some (.map (some B)) := g3.cell (a := ⟨ub, uo + 4, none⟩) e4 hub3
  have d5 : W3.cell? ⟨ub, uo + 5, none⟩ = some v := g3.cell (a := ⟨ub, uo + 5, none⟩) e5 hub3
  have df4 : W3.frozen? ⟨ub, uo + 4, none⟩ = false := (World.frozen?_of_block (a := ⟨ub, uo + 4, none⟩) (g3.block ub (by show ub < W2.heap.size; omega) hub3)).trans g4
  have df5 : W3.frozen? ⟨ub, uo + 5, none⟩ = false := (World.frozen?_of_block (a := ⟨ub, uo + 5, none⟩) (g3.block ub (by show ub < W2.heap.size; omega) hub3)).trans g5
  have l0 : W3.cell? ⟨w.heap.size, 0, none⟩ = some (.int .u64 a) := g3.cell (a := ⟨w.heap.size, 0, none⟩) k0 (fun e => hNB (Option.some.inj e).symm)
  have l1 : W3.cell? ⟨w.heap.size, 1, none⟩ = some (.int .u64 b) := g3.cell (a := ⟨w.heap.size, 1, none⟩) k1 (fun e => hNB (Option.some.inj e).symm)
  have l2 : W3.cell? ⟨w.heap.size, 2, none⟩ = some (.int .u64 c) := g3.cell (a := ⟨w.heap.size, 2, none⟩) k2 (fun e => hNB (Option.some.inj e).symm)
  have O3 : Mid W3 3 v L.length (L.flatMap cellsN) := O2.drew.grown g3 (fun g hg e => hmv g hg (Option.some.inj e))
  have F3 : Fr w W3 ub uo (some B) v := F2.drew.grown hlt g3 (fun k e => by cases e; exact ⟨hB, hBn⟩)
  have z3 : W2.heap.size ≤ W3.heap.size := g3.size
  clear e4 e5 g4 g5 k0 k1 k2 O2 F2 M2 g3 hup' hub3
  -- region 6: the order grows
  have O3' := (O3.alloc (.cells #[.int .u64 a, .int .u64 b, .int .u64 c] 42)).drew
  obtain ⟨g, o, cap, W4, hap, O4, hloc, g4⟩ := O3'.append (P := Yba.prog) 47 47 42 i0 (.agg #[.int .u64 0, .int .u64 0, .int .u64 0]) 24 Yba.underlying47 hi hz0 hz1 hz2 rfl (by omega) ⟨W3.heap.size, 0, none⟩ 1 [.int .u64 a, .int .u64 b, .int .u64 c] rfl (by
    intro j u hj
    match j, hj with
    | 0, hj => simp at hj; subst hj; simp [Addr.add]
    | 1, hj => simp at hj; subst hj; simp [Addr.add]
    | 2, hj => simp at hj; subst hj; simp [Addr.add]
    | j + 3, hj => simp at hj) (by intro u hu; simp at hu; rcases hu with rfl | rfl | rfl <;> rfl) (by unfold maxLen; omega) (by omega)
  have vub : some ub ≠ v.ownBlock := fun e => hvu ub e.symm rfl
  have hu3 : ub < ((W3.alloc (.cells #[.int .u64 a, .int .u64 b, .int .u64 c] 42)).drew).heap.size := by show ub < (W3.alloc _).heap.size; simp; omega
  have q4 : W4.cell? ⟨ub, uo + 4, none⟩ = some (.map (some B)) := g4.cell (a := ⟨ub, uo + 4, none⟩) ((World.cell?_alloc_lt W3 _ _ (by show ub < _; omega)).trans d4) vub
  have q5 : W4.cell? ⟨ub, uo + 5, none⟩ = some v := g4.cell (a := ⟨ub, uo + 5, none⟩) ((World.cell?_alloc_lt W3 _ _ (by show ub < _; omega)).trans d5) vub
  have qf4 : W4.frozen? ⟨ub, uo + 4, none⟩ = false := ((World.frozen?_of_block (a := ⟨ub, uo + 4, none⟩) (g4.block ub hu3 vub)).trans (World.frozen?_of_block (a := ⟨ub, uo + 4, none⟩) (Below.heap_alloc W3 _ ub (by omega)))).trans df4
  have qf5 : W4.frozen? ⟨ub, uo + 5, none⟩ = false := ((World.frozen?_of_block (a := ⟨ub, uo + 5, none⟩) (g4.block ub hu3 vub)).trans (World.frozen?_of_block (a := ⟨ub, uo + 5, none⟩) (Below.heap_alloc W3 _ ub (by omega)))).trans df5
  have M4 : MapIs W4 B (n + 1) (L ++ [(a, b, c)]) := ((M3.alloc _).drew).grown g4 (fun e => hmv B e.symm rfl)
  have F4 : Fr w W4 ub uo (some B) v := ((F3.alloc hlt _).drew).grown hlt g4 (fun k e => ⟨fun e' => by subst e'; exact vub e.symm, .inr (.inl e)⟩)
  have z4 : W3.heap.size < W4.heap.size := by have := g4.size; simp at this; omega
  have hgub : g ≠ ub := by
    rcases hloc with e | e
    · exact hvu g e
    · simp at e; omega
  have hgB : B ≠ g := by
    rcases hloc with e | e
    · exact fun e' => hmv g e e'.symm
    · have := M3.lt; simp at e; omega
  have hgn : v.ownBlock = some g ∨ w.heap.size ≤ g := by
    rcases hloc with e | e
    · exact .inl e
    · simp at e; exact .inr (by omega)
  clear O3' g4 hloc vub hu3
  have hu3 : ub < W3.heap.size := by omega
  have hn3 : w.heap.size < W3.heap.size := by omega
  go_upto_region 6 with fail
  go_cut [] (fun wx => wx = W4.setCell ⟨ub, uo + 5, none⟩ (.slice (some ⟨g, o, none⟩) (L.length + 1) cap))
  case first =>
    go_region_law (refine step_append_run (by rfl) (.tmp 29) (.tmp 31) 47 47 (by rfl) (by rfl) v _ _ _ (by rfl) (by rfl) hap ?_)
    all_goals (go_wp2_with fail; go_meet; rfl)
  case rest =>
  have h4 : wc.cell? ⟨ub, uo + 4, none⟩ = some (.map (some B)) := by rw [hcut, World.cell?_setCell_other (h := by intro e; cases e)]; exact q4
  have h5 : wc.cell? ⟨ub, uo + 5, none⟩ = some (.slice (some ⟨g, o, none⟩) (L.length + 1) cap) := by rw [hcut]; exact World.cell?_setCell_same W4 _ _ q5
  have hf4 : wc.frozen? ⟨ub, uo + 4, none⟩ = false := by rw [hcut, World.frozen?_setCell]; exact qf4
  have hf5 : wc.frozen? ⟨ub, uo + 5, none⟩ = false := by rw [hcut, World.frozen?_setCell]; exact qf5
  have M5 : MapIs wc B (n + 1) (L ++ [(a, b, c)]) := by rw [hcut]; exact M4.setCell hB _
  have O5 : Mid wc 3 (.slice (some ⟨g, o, none⟩) (L.length + 1) cap) (L.length + 1) (L.flatMap cellsN ++ [.int .u64 a, .int .u64 b, .int .u64 c]) := by rw [hcut]; exact O4.setCell (fun g' e => by cases e; exact hgub) _
  have F5 : Fr w wc ub uo (some B) v := by rw [hcut]; exact F4.setCell (.inr rfl) _
  have hcap : L.length + 1 ≤ cap := by
    rcases O4.2 with ⟨e, _⟩ | ⟨_, _, _, e, h, _⟩
    · cases e
    · cases e; exact h
  clear hcut q4 q5 qf4 qf5 M4 O4 F4 d4 d5 df4 df5 l0 l1 l2 O3 F3 M3 hap
  by_cases hbig : L.length + 1 ≤ 1024
  · go_wp2
    go_ret
    refine ⟨rfl, _, ⟨h4, h5, hf4, hf5, .inr ⟨B, rfl, ?_⟩, ?_, ?_, ?_, fun B' e => by cases e; exact hB, fun g' e => by cases e; exact hgub, fun B' g' e1 e2 => by cases e1; cases e2; exact hgB⟩, F5, fun g' e => by cases e; exact hgn⟩
    · rw [win_small _ (by simp; omega)]; exact M5
    · rw [win_small _ (by simp; omega)]; simpa [cellsN] using O5
    · rw [win_small _ (by simp; omega)]; exact fun x hx' => by
        rcases List.mem_append.1 hx' with h | h
        · exact HU.out.okL x h
        · simp at h; subst h; exact hx
    · rw [win_small _ (by simp; omega)]; exact nodup_snoc HU.out.nodup HN.out
  · obtain ⟨y, L', hLy⟩ : ∃ y L', L = y :: L' := by
      cases L with
      | nil => simp at hbig
      | cons y L' => exact ⟨y, L', rfl⟩
    obtain ⟨y0, y1, y2⟩ := y
    have hoky : okN (y0, y1, y2) := HU.out.okL _ (by rw [hLy]; simp)
    have hnd : (L ++ [(a, b, c)]).Nodup := nodup_snoc HU.out.nodup HN.out
    have hflat : L.flatMap cellsN ++ [.int .u64 a, .int .u64 b, .int .u64 c] = [.int .u64 y0, .int .u64 y1, .int .u64 y2] ++ (L' ++ [(a, b, c)]).flatMap cellsN := by rw [hLy]; simp [cellsN]
    have hL1 : L.length = 1024 := by omega
    have hl' : L'.length + 1 = L.length := by rw [hLy]; rfl
    have hra : wc.rangeAt g o (L.flatMap cellsN ++ [.int .u64 a, .int .u64 b, .int .u64 c]) := by
      rcases O5.2 with ⟨e, _⟩ | ⟨_, _, _, e, _, _, _, h, _⟩
      · cases e
      · cases e; exact h
    rw [hflat] at hra O5
    have m0 : wc.cell? ⟨g, o, none⟩ = some (.int .u64 y0) := hra 0 _ rfl
    have m1 : wc.cell? ⟨g, o + 1, none⟩ = some (.int .u64 y1) := hra 1 _ rfl
    have m2 : wc.cell? ⟨g, o + 2, none⟩ = some (.int .u64 y2) := hra 2 _ rfl
    have hlist : L ++ [(a, b, c)] = (y0, y1, y2) :: (L' ++ [(a, b, c)]) := by rw [hLy]; rfl
    rw [hlist] at M5 hnd
    obtain ⟨hny, hnd'⟩ := List.nodup_cons.1 hnd
    obtain ⟨W6, hdel, M6, g6⟩ := M5.drew.del hoky hny 0
    have HD : Hid (L.length = 1024 ∧ L'.length + 1 = L.length ∧ L ++ [(a, b, c)] = (y0, y1, y2) :: (L' ++ [(a, b, c)]) ∧ (L' ++ [(a, b, c)]).Nodup ∧ L = (y0, y1, y2) :: L') := ⟨hL1, hl', hlist, hnd', hLy⟩
    have hub6 : some ub ≠ some B := fun e => hB (Option.some.inj e).symm
    have hw6 : ub < wc.heap.size := World.block_lt_of_cell? _ _ h4
    have r4 : W6.cell? ⟨ub, uo + 4, none⟩ = some (.map (some B)) := g6.cell (a := ⟨ub, uo + 4, none⟩) h4 hub6
    have r5 : W6.cell? ⟨ub, uo + 5, none⟩ = some (.slice (some ⟨g, o, none⟩) (L.length + 1) cap) := g6.cell (a := ⟨ub, uo + 5, none⟩) h5 hub6
    have rf4 : W6.frozen? ⟨ub, uo + 4, none⟩ = false := (World.frozen?_of_block (a := ⟨ub, uo + 4, none⟩) (g6.block ub hw6 hub6)).trans hf4
    have rf5 : W6.frozen? ⟨ub, uo + 5, none⟩ = false := (World.frozen?_of_block (a := ⟨ub, uo + 5, none⟩) (g6.block ub hw6 hub6)).trans hf5
    have O6 := O5.drew.grown g6 (fun g' e e' => by cases e; exact hgB (Option.some.inj e').symm)
    have F6 : Fr w W6 ub uo (some B) v := F5.drew.grown hlt g6 (fun k e => by cases e; exact ⟨hB, hBn⟩)
    clear hL1 hl' hlist hnd hnd' hLy hflat hra M5 O5 F5 g6 hub6 hny
    have hb1 : 1024 ≤ L.length := by omega
    have hc1 : 1024 ≤ cap := by omega
    clear hbig
    go_upto_region 8 with fail
    go_cut [] (fun wx => wx = W6)
    case first =>
      go_region_law (refine step_delete_run (by rfl) (.tmp 44) (.tmp 50) 43 42 0 (by rfl) (by rfl) _ _ _ _ (by rfl) (by rfl) hdel ?_)
      all_goals (go_wp2_with fail; go_meet; rfl)
    case rest =>
    subst hcut
    go_wp2
    go_ret
    obtain ⟨hL1, hl', hlist, hnd', hLy⟩ := HD.out
    have hwin : win (L ++ [(a, b, c)]) = L' ++ [(a, b, c)] := by rw [hlist]; exact win_big _ _ (by simp; omega)
    have hlen' : (L' ++ [(a, b, c)]).length = L.length := by simp; omega
    rw [hwin]
    refine ⟨rfl, _, ⟨?_, World.cell?_setCell_same _ _ _ r5, ?_, ?_, .inr ⟨B, rfl, M6.setCell hB _⟩, ?_, ?_, hnd', fun B' e => by cases e; exact hB, fun g' e => by cases e; exact hgub, fun B' g' e1 e2 => by cases e1; cases e2; exact hgB⟩, F6.setCell (.inr rfl) _, fun g' e => by cases e; exact hgn⟩
    · rw [World.cell?_setCell_other (h := by intro e; cases e)]; exact r4
    · rw [World.frozen?_setCell]; exact rf4
    · rw [World.frozen?_setCell]; exact rf5
    · rw [hlen']; exact (O6.tail rfl).setCell (fun g' e => by cases e; exact hgub) _
    · intro x hx'
      rcases List.mem_append.1 hx' with h | h
      · exact HU.out.okL x (by rw [hLy]; exact List.mem_cons_of_mem _ h)
      · simp at h; subst h; exact hx
end Go.Proofs.Ybulkbdie
