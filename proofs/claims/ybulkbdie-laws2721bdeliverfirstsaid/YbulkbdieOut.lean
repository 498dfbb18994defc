/-
  THE WALK OVER (*waitList).takeOut (function 31).
-/
import Derived.Test.YbulkbdieFst
import Derived.Deep.RegionHeld3
import Derived.Deep.DeepCutAuto
import Derived.BigRegion
namespace Go.Proofs.Ybulkbdie
open Go.RowKit

theorem size115 : (Yba.prog.info? 115).map (·.size) = some 13 := by kernel_rfl

set_option maxHeartbeats 4000000 in
set_option maxRecDepth 100000 in
theorem out_walk (eb eo g n c k : Nat) (h : Int) (x : Ent) (w : World) (hk : k < n) (_hm : n ≤ 4096) (hge : g ≠ eb) (c0 : w.cell? ⟨eb, eo, none⟩ = some (.slice (some ⟨g, 0, none⟩) n c)) (c2 : w.cell? ⟨eb, eo + 2, none⟩ = some (.int .i64 h)) (f2 : w.frozen? ⟨eb, eo + 2, none⟩ = false)
    (hh : 0 ≤ h ∧ h ≤ 100000) (cell : ∀ j, j < 15 → ∀ v, (ecells x)[j]? = some v → w.cell? ⟨g, k * 15 + j, none⟩ = some v) (hf : ∀ o, w.frozen? ⟨g, o, none⟩ = false) :
    Calls Yba.prog 31 #[.pointer (some ⟨eb, eo, none⟩), .int .i64 k] w fun e w' => e = .returned (.tuple #[]) ∧
      w' = ((((w.setCells g (k * 15) (wcells dead)).setCell ⟨g, k * 15 + 14, none⟩ (.bool false)).setCell ⟨eb, eo + 2, none⟩ (.int .i64 (h - 1))).alloc (.cells (wcells dead).toArray 115)).drew := by
  have k0 : (0 : Int) ≤ (k : Int) := by omega
  have k1 : (k : Int) < (n : Int) := by omega
  have e0 := cell 0 (by omega) _ rfl
  have e1 := cell 1 (by omega) _ rfl
  have e2 := cell 2 (by omega) _ rfl
  have e3 := cell 3 (by omega) _ rfl
  have e4 := cell 4 (by omega) _ rfl
  have e5 := cell 5 (by omega) _ rfl
  have e6 := cell 6 (by omega) _ rfl
  have e7 := cell 7 (by omega) _ rfl
  have e8 := cell 8 (by omega) _ rfl
  have e9 := cell 9 (by omega) _ rfl
  have e10 := cell 10 (by omega) _ rfl
  have e11 := cell 11 (by omega) _ rfl
  have e12 := cell 12 (by omega) _ rfl
  have e14 := cell 14 (by omega) _ rfl
  simp only [Nat.add_zero] at e0
  have hgl : g < w.heap.size := World.block_lt_of_cell? _ _ e0
  have hel : eb < w.heap.size := World.block_lt_of_cell? _ _ c0
  clear cell
  go_enter Yba.func31, Yba.ntmps31
  go_wp2
  go_region
  go_wp2
  go_end0
  exact ⟨rfl, rfl⟩

/-! ### the list of waits as a whole -/
theorem rows_of {w : World} {g : Nat} {E : List Ent} (h : ∀ t (ht : t < E.length) j, j < 15 → w.cell? ⟨g, t * 15 + j, none⟩ = (ecells E[t])[j]?) : Rows15 w g E := by
  intro i v hv
  have hi : i < E.length * 15 := by have := (List.getElem?_eq_some_iff.1 hv).1; rwa [eflat_length] at this
  have e : i = i / 15 * 15 + i % 15 := by omega
  rw [Nat.zero_add, e, h (i / 15) (by omega) (i % 15) (by omega), ← eflat_get E (i / 15) (by omega) (i % 15) (by omega), ← e]
  exact hv

theorem Rows15.cellAt {w : World} {g : Nat} {E : List Ent} (h : Rows15 w g E) (t : Nat) (ht : t < E.length) (j : Nat) (hj : j < 15) : w.cell? ⟨g, t * 15 + j, none⟩ = (ecells E[t])[j]? := by
  obtain ⟨v, hv⟩ : ∃ v, (ecells E[t])[j]? = some v := ⟨(ecells E[t])[j]'(by rw [ecells_length]; exact hj), List.getElem?_eq_getElem _⟩
  rw [hv]
  exact h.at t ht j hj v hv

/-- THE LIST OF WAITS AT ⟨eb, eo⟩, not indexed: its entries E lie in block g; h of them are counted as held. -/
structure Wl (w : World) (eb eo g c : Nat) (E : List Ent) (h : Int) : Prop where
  c0 : w.cell? ⟨eb, eo, none⟩ = some (.slice (some ⟨g, 0, none⟩) E.length c)
  c1 : w.cell? ⟨eb, eo + 1, none⟩ = some (.map none)
  c2 : w.cell? ⟨eb, eo + 2, none⟩ = some (.int .i64 h)
  c3 : w.cell? ⟨eb, eo + 3, none⟩ = some (.map none)
  fe : ∀ o, w.frozen? ⟨eb, o, none⟩ = false
  rows : Rows15 w g E
  fg : ∀ o, w.frozen? ⟨g, o, none⟩ = false
  ne : g ≠ eb
  glt : g < w.heap.size
  cap : E.length ≤ c

/-- WHAT THE FUNCTIONS ON THE LIST TURN: its four cells, its entries' block. -/
structure FrW (w w' : World) (eb eo g : Nat) : Prop where
  os : w'.os = w.os
  tape : w'.tape = w.tape
  output : w'.output = w.output
  size : w.heap.size ≤ w'.heap.size
  block : ∀ k, k < w.heap.size → k ≠ eb → k ≠ g → w'.heap[k]? = w.heap[k]?
  cell : ∀ o, (o < eo ∨ eo + 3 < o) → w'.cell? ⟨eb, o, none⟩ = w.cell? ⟨eb, o, none⟩
  frozen : ∀ o, w'.frozen? ⟨eb, o, none⟩ = w.frozen? ⟨eb, o, none⟩

section
variable {w w1 w2 : World} {eb eo g : Nat}

theorem FrW.refl (w : World) (eb eo g : Nat) : FrW w w eb eo g := ⟨rfl, rfl, rfl, Nat.le_refl _, fun _ _ _ _ => rfl, fun _ _ => rfl, fun _ => rfl⟩

theorem FrW.trans (h : FrW w w1 eb eo g) (k : FrW w1 w2 eb eo g) : FrW w w2 eb eo g :=
  ⟨k.os.trans h.os, k.tape.trans h.tape, k.output.trans h.output, Nat.le_trans h.size k.size, fun i hi h1 h2 => (k.block i (Nat.lt_of_lt_of_le hi h.size) h1 h2).trans (h.block i hi h1 h2), fun o ho => (k.cell o ho).trans (h.cell o ho), fun o => (k.frozen o).trans (h.frozen o)⟩

theorem FrW.below (h : FrW w w1 eb eo g) (hlt : eb < w.heap.size) (hb : Below w1.heap.size w1 w2) : FrW w w2 eb eo g :=
  h.trans ⟨hb.os, hb.tape, hb.output, hb.size, fun i hi _ _ => hb.block i hi, fun o _ => hb.cell (p := ⟨eb, o, none⟩) (Nat.lt_of_lt_of_le hlt h.size), fun o => hb.frozen (p := ⟨eb, o, none⟩) (Nat.lt_of_lt_of_le hlt h.size)⟩

theorem FrW.setCell (h : FrW w w1 eb eo g) {o : Nat} (ho : eo ≤ o ∧ o ≤ eo + 3) (u : Value) : FrW w (w1.setCell ⟨eb, o, none⟩ u) eb eo g := by
  refine h.trans ⟨rfl, rfl, rfl, by simp, fun k _ h1 _ => Below.heap_setCell w1 _ u k h1, fun o' h' => ?_, fun o' => World.frozen?_setCell _ _ _ _⟩
  exact World.cell?_setCell_other w1 (a := ⟨eb, o, none⟩) (b := ⟨eb, o', none⟩) (v := u) (by intro e; cases e; omega)

/-- Whatever turns the entries' block alone. -/
theorem FrW.grown (h : FrW w w1 eb eo g) (hlt : eb < w.heap.size) (hge : g ≠ eb) (hg : w1.grownBy w2 (some g)) : FrW w w2 eb eo g := by
  have hl : eb < w1.heap.size := Nat.lt_of_lt_of_le hlt h.size
  have hb := hg.block eb hl (fun e => hge (Option.some.inj e).symm)
  exact h.trans ⟨hg.os, hg.tape, hg.output, hg.size, fun k hk _ h2 => hg.block k hk (fun e => h2 (Option.some.inj e)), fun o _ => World.cell?_of_block (a := ⟨eb, o, none⟩) hb, fun o => World.frozen?_of_block (a := ⟨eb, o, none⟩) hb⟩

end

/-- The list stays what it is while what is there does. -/
theorem Wl.below {w w' : World} {eb eo g c : Nat} {E : List Ent} {h : Int} (k : Wl w eb eo g c E h) (hb : Below w.heap.size w w') : Wl w' eb eo g c E h := by
  have hl : eb < w.heap.size := World.block_lt_of_cell? _ _ k.c0
  exact ⟨(hb.cell (p := ⟨eb, eo, none⟩) hl).trans k.c0, (hb.cell (p := ⟨eb, eo + 1, none⟩) hl).trans k.c1, (hb.cell (p := ⟨eb, eo + 2, none⟩) hl).trans k.c2, (hb.cell (p := ⟨eb, eo + 3, none⟩) hl).trans k.c3, fun o => (hb.frozen (p := ⟨eb, o, none⟩) hl).trans (k.fe o),
    fun i v hv => (hb.cell (p := ⟨g, 0 + i, none⟩) k.glt).trans (k.rows i v hv), fun o => (hb.frozen (p := ⟨g, o, none⟩) k.glt).trans (k.fg o), k.ne, Nat.lt_of_lt_of_le k.glt hb.size, k.cap⟩

/-- WHAT takeOut LEAVES: the entry is dead; one is held less. -/
theorem Wl.out {w : World} {eb eo g c : Nat} {E : List Ent} {h : Int} (W : Wl w eb eo g c E h) (k : Nat) (hk : k < E.length) :
    Wl ((((w.setCells g (k * 15) (wcells dead)).setCell ⟨g, k * 15 + 14, none⟩ (.bool false)).setCell ⟨eb, eo + 2, none⟩ (.int .i64 (h - 1))).alloc (.cells (wcells dead).toArray 115)).drew eb eo g c (E.set k dead) (h - 1) ∧
    FrW w ((((w.setCells g (k * 15) (wcells dead)).setCell ⟨g, k * 15 + 14, none⟩ (.bool false)).setCell ⟨eb, eo + 2, none⟩ (.int .i64 (h - 1))).alloc (.cells (wcells dead).toArray 115)).drew eb eo g := by
  have hl : eb < w.heap.size := World.block_lt_of_cell? _ _ W.c0
  have hne := W.ne
  obtain ⟨W1, hW1⟩ : ∃ X, X = w.setCells g (k * 15) (wcells dead) := ⟨_, rfl⟩
  obtain ⟨W2, hW2⟩ : ∃ X, X = W1.setCell ⟨g, k * 15 + 14, none⟩ (.bool false) := ⟨_, rfl⟩
  obtain ⟨W3, hW3⟩ : ∃ X, X = W2.setCell ⟨eb, eo + 2, none⟩ (.int .i64 (h - 1)) := ⟨_, rfl⟩
  rw [← hW1, ← hW2, ← hW3]
  have g1 : w.grownBy W1 (some g) := by rw [hW1]; exact grown_setCells w g _ _
  have g2 : W1.grownBy W2 (some g) := by rw [hW2]; exact ⟨rfl, rfl, rfl, by simp, fun i _ hi => Below.heap_setCell W1 _ _ i (fun e => hi (by rw [e]))⟩
  have s1 := g1.size
  have s2 := g2.size
  have s3 : W3.heap.size = W2.heap.size := by rw [hW3]; simp
  have b12 : ∀ i, i < w.heap.size → i ≠ g → W2.heap[i]? = w.heap[i]? := fun i hi hn => (g2.block i (by omega) (fun e => hn (Option.some.inj e))).trans (g1.block i hi (fun e => hn (Option.some.inj e)))
  have hbe := b12 eb hl hne.symm
  have ce : ∀ o, W2.cell? ⟨eb, o, none⟩ = w.cell? ⟨eb, o, none⟩ := fun o => World.cell?_of_block (a := ⟨eb, o, none⟩) hbe
  have fe : ∀ o, W3.frozen? ⟨eb, o, none⟩ = w.frozen? ⟨eb, o, none⟩ := fun o => by rw [hW3, World.frozen?_setCell]; exact World.frozen?_of_block (a := ⟨eb, o, none⟩) hbe
  have ce3 : ∀ o, o ≠ eo + 2 → W3.cell? ⟨eb, o, none⟩ = w.cell? ⟨eb, o, none⟩ := fun o ho => by
    rw [hW3, World.cell?_setCell_other (h := by intro e; cases e; exact ho rfl)]; exact ce o
  have cg3 : ∀ o, W3.cell? ⟨g, o, none⟩ = W2.cell? ⟨g, o, none⟩ := fun o => by
    rw [hW3, World.cell?_setCell_other (h := by intro e; cases e; exact hne rfl)]
  have fg3 : ∀ o, W3.frozen? ⟨g, o, none⟩ = false := fun o => by
    rw [hW3, World.frozen?_setCell, hW2, World.frozen?_setCell, hW1, World.frozen?_setCells]; exact W.fg o
  have hl3 : ∀ (o : Nat), (⟨eb, o, none⟩ : Addr).block < W3.heap.size := fun o => by show eb < _; omega
  have hg3 : ∀ (o : Nat), (⟨g, o, none⟩ : Addr).block < W3.heap.size := fun o => by show g < _; have := W.glt; omega
  have up : ∀ (a : Addr), a.block < W3.heap.size → (W3.alloc (.cells (wcells dead).toArray 115)).drew.cell? a = W3.cell? a := fun a ha => World.cell?_alloc_lt W3 _ a ha
  have uf : ∀ (a : Addr), a.block < W3.heap.size → (W3.alloc (.cells (wcells dead).toArray 115)).drew.frozen? a = W3.frozen? a := fun a ha => World.frozen?_of_block (Below.heap_alloc W3 _ a.block ha)
  have there : ∀ j, j < (wcells dead).length → (w.cell? ⟨g, k * 15 + j, none⟩).isSome = true := fun j hj => by
    have hj' : j < 13 := hj
    rw [W.rows.cellAt k hk j (by omega), List.getElem?_eq_getElem (by rw [ecells_length]; omega)]; rfl
  constructor
  · refine ⟨?_, ?_, ?_, ?_, fun o => ?_, rows_of ?_, fun o => ?_, hne, ?_, ?_⟩
    · rw [up _ (hl3 _), ce3 _ (by omega), List.length_set]; exact W.c0
    · rw [up _ (hl3 _), ce3 _ (by omega)]; exact W.c1
    · rw [up _ (hl3 _), hW3]; exact World.cell?_setCell_same W2 _ _ ((ce _).trans W.c2)
    · rw [up _ (hl3 _), ce3 _ (by omega)]; exact W.c3
    · rw [uf _ (hl3 _), fe]; exact W.fe o
    · intro t ht j hj
      have ht' : t < E.length := by simpa using ht
      rw [up _ (hg3 _), cg3]
      by_cases htk : t = k
      · subst htk
        have e1 : (E.set t dead)[t] = dead := by simp
        rw [e1]
        by_cases hj14 : j = 14
        · subst hj14
          rw [hW2]
          have hs : ∃ u, W1.cell? ⟨g, t * 15 + 14, none⟩ = some u := by
            rw [hW1, World.cell?_setCells_out _ _ _ _ _ (fun _ _ => .inr (by show t * 15 + 13 ≤ t * 15 + 14; omega))]
            exact ⟨_, W.rows.at t ht' 14 (by omega) _ rfl⟩
          obtain ⟨u, hu⟩ := hs
          rw [World.cell?_setCell_same W1 _ _ hu]
          rfl
        · rw [hW2, World.cell?_setCell_other (h := by intro e; have e' := congrArg Addr.off e; simp only at e'; omega), hW1]
          by_cases hj13 : j = 13
          · subst hj13
            rw [World.cell?_setCells_out _ _ _ _ _ (fun _ _ => .inr (by show t * 15 + 13 ≤ t * 15 + 13; omega)), W.rows.cellAt t ht' 13 (by omega)]
            rfl
          · have hjl : j < (wcells dead).length := by show j < 13; omega
            rw [World.cell?_setCells_in g (wcells dead) (t * 15) w there j hjl]
            unfold ecells
            rw [List.getElem?_append_left hjl, List.getElem?_eq_getElem hjl]
      · have e1 : (E.set k dead)[t] = E[t] := by rw [List.getElem_set_ne (by omega)]
        rw [e1, hW2, World.cell?_setCell_other (h := by intro e; have e' := congrArg Addr.off e; simp only at e'; omega), hW1, World.cell?_setCells_out _ _ _ _ _ (fun _ _ => by
          show t * 15 + j < k * 15 ∨ k * 15 + 13 ≤ t * 15 + j
          omega)]
        exact W.rows.cellAt t ht' j hj
    · rw [uf _ (hg3 _)]; exact fg3 o
    · have := W.glt; show g < (W3.alloc _).heap.size; simp; omega
    · rw [List.length_set]; exact W.cap
  · have F := ((FrW.refl w eb eo g).grown hl hne g1).grown hl hne g2
    have F3 : FrW w W3 eb eo g := by rw [hW3]; exact F.setCell (by omega) _
    exact F3.below hl (((Below.refl _ _).alloc (Nat.le_refl _) _).drew)

end Go.Proofs.Ybulkbdie
