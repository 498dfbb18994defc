/-
  WHAT (*upcalls).firstDelivery KEEPS: the fields 'delivered' and 'deliveredOrder' hold the names of a list; the frame of a call.
-/
import Derived.Test.YbulkbdieMap
import Derived.Test.YbulkbdieMid
import Derived.Below
import Derived.WalkSmall
namespace Go.Proofs.Ybulkbdie
open Go.RowKit

theorem MapIs.drewN {w : World} {B n : Nat} {L : List Nm} (h : MapIs w B n L) (q : Nat) : MapIs (w.drewN q) B n L := h.kept rfl
theorem MapIs.drew {w : World} {B n : Nat} {L : List Nm} (h : MapIs w B n L) : MapIs w.drew B n L := h.kept rfl
theorem MapIs.alloc {w : World} {B n : Nat} {L : List Nm} (h : MapIs w B n L) (o : Obj) : MapIs (w.alloc o) B n L := h.kept (Below.heap_alloc w o B h.lt)
theorem MapIs.setCell {w : World} {B n : Nat} {L : List Nm} (h : MapIs w B n L) {a : Addr} (ha : B ≠ a.block) (u : Value) : MapIs (w.setCell a u) B n L := h.kept (Below.heap_setCell w a u B ha)
theorem MapIs.grown {w w' : World} {B n : Nat} {L : List Nm} (h : MapIs w B n L) {row : Option Nat} (hg : w.grownBy w' row) (hne : some B ≠ row) : MapIs w' B n L := h.kept (hg.block B h.lt hne)

theorem Mid.drewN {w : World} {size : Nat} {v : Value} {n : Nat} {xs : List Value} (h : Mid w size v n xs) (q : Nat) : Mid (w.drewN q) size v n xs := h.kept (Nat.le_refl _) (fun _ _ => rfl)
theorem Mid.drew {w : World} {size : Nat} {v : Value} {n : Nat} {xs : List Value} (h : Mid w size v n xs) : Mid w.drew size v n xs := h.kept (Nat.le_refl _) (fun _ _ => rfl)
theorem Mid.alloc {w : World} {size : Nat} {v : Value} {n : Nat} {xs : List Value} (h : Mid w size v n xs) (o : Obj) : Mid (w.alloc o) size v n xs := h.kept (by simp) (fun g hg => Below.heap_alloc w o g (h.lt hg))
theorem Mid.setCell {w : World} {size : Nat} {v : Value} {n : Nat} {xs : List Value} (h : Mid w size v n xs) {a : Addr} (ha : ∀ g, v.ownBlock = some g → g ≠ a.block) (u : Value) : Mid (w.setCell a u) size v n xs :=
  h.kept (by simp) (fun g hg => Below.heap_setCell w a u g (ha g hg))
theorem Mid.grown {w w' : World} {size : Nat} {v : Value} {n : Nat} {xs : List Value} (h : Mid w size v n xs) {row : Option Nat} (hg : w.grownBy w' row) (hne : ∀ g, v.ownBlock = some g → some g ≠ row) : Mid w' size v n xs :=
  h.kept hg.size (fun g hg' => hg.block g (h.lt hg') (hne g hg'))

/-- THE RECEIVER AT ⟨ub, uo⟩ HOLDS THE NAMES OF L. -/
structure Up (w : World) (ub uo : Nat) (m : Option Nat) (v : Value) (n : Nat) (L : List Nm) : Prop where
  c4 : w.cell? ⟨ub, uo + 4, none⟩ = some (.map m)
  c5 : w.cell? ⟨ub, uo + 5, none⟩ = some v
  f4 : w.frozen? ⟨ub, uo + 4, none⟩ = false
  f5 : w.frozen? ⟨ub, uo + 5, none⟩ = false
  set : (m = none ∧ L = []) ∨ ∃ B, m = some B ∧ MapIs w B n L
  ord : Mid w 3 v L.length (L.flatMap cellsN)
  okL : ∀ x ∈ L, okN x
  nodup : L.Nodup
  mne : ∀ B, m = some B → B ≠ ub
  vne : ∀ g, v.ownBlock = some g → g ≠ ub
  mv : ∀ B g, m = some B → v.ownBlock = some g → B ≠ g

theorem Up.lt {w : World} {ub uo : Nat} {m : Option Nat} {v : Value} {n : Nat} {L : List Nm} (h : Up w ub uo m v n L) : ub < w.heap.size := World.block_lt_of_cell? _ _ h.c4

/-- WHAT A CALL TURNS: the two cells of the receiver, its map's block, its order's block; what else was there is as it was. -/
structure Fr (w w' : World) (ub uo : Nat) (m : Option Nat) (v : Value) : Prop where
  os : w'.os = w.os
  tape : w'.tape = w.tape
  output : w'.output = w.output
  size : w.heap.size ≤ w'.heap.size
  block : ∀ k, k < w.heap.size → k ≠ ub → m ≠ some k → v.ownBlock ≠ some k → w'.heap[k]? = w.heap[k]?
  cell : ∀ o, o ≠ uo + 4 → o ≠ uo + 5 → w'.cell? ⟨ub, o, none⟩ = w.cell? ⟨ub, o, none⟩
  frozen : ∀ o, w'.frozen? ⟨ub, o, none⟩ = w.frozen? ⟨ub, o, none⟩

section
variable {w w1 w2 : World} {ub uo : Nat} {m : Option Nat} {v : Value}

theorem Fr.refl (w : World) (ub uo : Nat) (m : Option Nat) (v : Value) : Fr w w ub uo m v := ⟨rfl, rfl, rfl, Nat.le_refl _, fun _ _ _ _ _ => rfl, fun _ _ _ => rfl, fun _ => rfl⟩

theorem Fr.drewN (h : Fr w w1 ub uo m v) (q : Nat) : Fr w (w1.drewN q) ub uo m v := ⟨h.os, h.tape, h.output, h.size, h.block, h.cell, h.frozen⟩
theorem Fr.drew (h : Fr w w1 ub uo m v) : Fr w w1.drew ub uo m v := ⟨h.os, h.tape, h.output, h.size, h.block, h.cell, h.frozen⟩

theorem Fr.grown {row : Option Nat} (h : Fr w w1 ub uo m v) (hub : ub < w.heap.size) (hg : w1.grownBy w2 row) (hr : ∀ k, row = some k → k ≠ ub ∧ (m = some k ∨ v.ownBlock = some k ∨ w.heap.size ≤ k)) : Fr w w2 ub uo m v := by
  have hu : some ub ≠ row := fun e => (hr ub e.symm).1 rfl
  have hs := h.size
  refine ⟨hg.os.trans h.os, hg.tape.trans h.tape, hg.output.trans h.output, Nat.le_trans h.size hg.size, fun k hk h1 h2 h3 => ?_, fun o h1 h2 => ?_, fun o => ?_⟩
  · refine (hg.block k (by omega) (fun e => ?_)).trans (h.block k hk h1 h2 h3)
    rcases (hr k e.symm).2 with e' | e' | e'
    · exact h2 e'
    · exact h3 e'
    · omega
  · exact (World.cell?_of_block (a := ⟨ub, o, none⟩) (hg.block ub (by omega) hu)).trans (h.cell o h1 h2)
  · exact (World.frozen?_of_block (a := ⟨ub, o, none⟩) (hg.block ub (by omega) hu)).trans (h.frozen o)

theorem Fr.alloc (h : Fr w w1 ub uo m v) (hub : ub < w.heap.size) (o : Obj) : Fr w (w1.alloc o) ub uo m v :=
  h.grown hub (World.grownBy_alloc w1 o none) (fun k e => by cases e)

theorem Fr.setCell (h : Fr w w1 ub uo m v) {o : Nat} (ho : o = uo + 4 ∨ o = uo + 5) (u : Value) : Fr w (w1.setCell ⟨ub, o, none⟩ u) ub uo m v := by
  refine ⟨h.os, h.tape, h.output, by simpa using h.size, fun k hk h1 h2 h3 => ?_, fun o' h1 h2 => ?_, fun o' => ?_⟩
  · exact (Below.heap_setCell w1 _ u k h1).trans (h.block k hk h1 h2 h3)
  · rw [← h.cell o' h1 h2]
    exact World.cell?_setCell_other w1 (a := ⟨ub, o, none⟩) (b := ⟨ub, o', none⟩) (v := u) (by intro e; cases e; omega)
  · rw [← h.frozen o']
    exact World.frozen?_setCell _ _ _ _

/-- What lies in another block is as it was. -/
theorem Fr.other (h : Fr w w1 ub uo m v) (a : Addr) (hk : a.block < w.heap.size) (h1 : a.block ≠ ub) (h2 : m ≠ some a.block) (h3 : v.ownBlock ≠ some a.block) : w1.cell? a = w.cell? a :=
  World.cell?_of_block (h.block a.block hk h1 h2 h3)

/-- Below every block of the receiver's. -/
theorem Fr.below (h : Fr w w1 ub uo m v) {B : Nat} (hub : B ≤ ub) (hlt : ub < w.heap.size) (hm : ∀ k, m = some k → B ≤ k) (hv : ∀ k, v.ownBlock = some k → B ≤ k) : Below B w w1 :=
  ⟨h.os, h.tape, h.output, h.size, fun k hk => h.block k (by omega) (by omega) (fun e => by have := hm k e; omega) (fun e => by have := hv k e; omega)⟩

end

/-- THE WINDOW OF THE LAST 1024. -/
def win (l : List Nm) : List Nm := if 1024 < l.length then l.tail else l

theorem win_small (l : List Nm) (h : l.length ≤ 1024) : win l = l := by unfold win; rw [if_neg (by omega)]
theorem win_big (x : Nm) (l : List Nm) (h : 1024 < l.length + 1) : win (x :: l) = l := by unfold win; rw [if_pos (by simpa using h)]; rfl
theorem nodup_snoc {l : List Nm} {x : Nm} (h : l.Nodup) (hx : x ∉ l) : (l ++ [x]).Nodup := by
  rw [List.nodup_append]
  exact ⟨h, by simp, fun a ha b hb => by simp at hb; subst hb; exact fun e => hx (e ▸ ha)⟩

end Go.Proofs.Ybulkbdie
