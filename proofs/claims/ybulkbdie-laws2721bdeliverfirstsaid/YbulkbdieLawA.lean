/-
  THE THREE WAYS OF A REPLY (no wait under the token; one, its message delivered already; one, its message new), from the engine as build leaves it.
-/
import Derived.Test.YbulkbdieBld
namespace Go.Proofs.Ybulkbdie
open Go.RowKit

theorem IsRow.below {k : IntKind} {w w' : World} {a : Option Addr} {len cap : Nat} {zs : List Int} (h : IsRow k w a len cap zs) (hb : Below w.heap.size w w') : IsRow k w' a len cap zs := by
  rcases h with h | ⟨x, rfl, h1, h2, h3, h4, h5⟩
  · exact .inl h
  · exact .inr ⟨x, rfl, h1, h2, h3, fun i hi => (hb.cell (World.block_lt_of_cell? _ _ (h4 i hi))).trans (h4 i hi), h5⟩

/-- THE ENGINE AND THE APPLICATION before the first reply. -/
structure E0 (w x : World) (ab eb g len : Nat) (zs : List Int) : Prop where
  wl : Wl x eb 95 g len (ents zs len) len
  app : x.cell? ⟨eb, 89, none⟩ = some (.iface 33 (.pointer (some ⟨ab, 0, none⟩)))
  ca : x.cell? ⟨ab, 0, none⟩ = some (.slice none 0 0)
  fa : x.frozen? ⟨ab, 0, none⟩ = false
  nae : ab ≠ eb
  nag : ab ≠ g
  bel : Below w.heap.size w x
  lab : w.heap.size ≤ ab
  leb : w.heap.size ≤ eb
  lg : w.heap.size ≤ g

section
variable {w x : World} {ab eb g len : Nat} {zs : List Int}

theorem E0.elt (H : E0 w x ab eb g len zs) : eb < x.heap.size := World.block_lt_of_cell? _ _ H.app
theorem E0.alt (H : E0 w x ab eb g len zs) : ab < x.heap.size := World.block_lt_of_cell? _ _ H.ca

theorem E0.below {x' : World} (H : E0 w x ab eb g len zs) (hb : Below x.heap.size x x') : E0 w x' ab eb g len zs :=
  ⟨H.wl.below hb, (hb.cell (p := ⟨eb, 89, none⟩) H.elt).trans H.app, (hb.cell (p := ⟨ab, 0, none⟩) H.alt).trans H.ca, (hb.frozen (p := ⟨ab, 0, none⟩) H.alt).trans H.fa, H.nae, H.nag, H.bel.trans (hb.mono H.bel.size), H.lab, H.leb, H.lg⟩

end

/-- The map of delivered names is set. -/
theorem E0.set93 {w x : World} {ab eb g len : Nat} {zs : List Int} (H : E0 w x ab eb g len zs) (u : Value) : E0 w (x.setCell ⟨eb, 93, none⟩ u) ab eb g len zs := by
  have n1 : ∀ (o' : Nat), o' ≠ 93 → (x.setCell ⟨eb, 93, none⟩ u).cell? ⟨eb, o', none⟩ = x.cell? ⟨eb, o', none⟩ := fun o' hne => World.cell?_setCell_other x (a := ⟨eb, 93, none⟩) (b := ⟨eb, o', none⟩) (v := u) (by intro e; have e1 := congrArg Addr.off e; simp only at e1; omega)
  have hk : ∀ k, k ≠ eb → (x.setCell ⟨eb, 93, none⟩ u).heap[k]? = x.heap[k]? := fun k hk => Below.heap_setCell x _ _ k hk
  have hg := hk g H.wl.ne
  have ha := hk ab H.nae
  exact ⟨⟨(n1 _ (by omega)).trans H.wl.c0, (n1 _ (by omega)).trans H.wl.c1, (n1 _ (by omega)).trans H.wl.c2, (n1 _ (by omega)).trans H.wl.c3, fun o => (World.frozen?_setCell _ _ _ _).trans (H.wl.fe o), fun i v hv => (World.cell?_of_block (a := ⟨g, 0 + i, none⟩) hg).trans (H.wl.rows i v hv), fun o => (World.frozen?_setCell _ _ _ _).trans (H.wl.fg o), H.wl.ne, by have := H.wl.glt; simpa using this, H.wl.cap⟩,
    (n1 _ (by omega)).trans H.app, (World.cell?_of_block (a := ⟨ab, 0, none⟩) ha).trans H.ca, (World.frozen?_setCell _ _ _ _).trans H.fa, H.nae, H.nag, H.bel.setCell (p := ⟨eb, 93, none⟩) H.leb _, H.lab, H.leb, H.lg⟩

/-- THE ENGINE AND THE APPLICATION after a reply. -/
structure Tl (w x : World) (ab eb g : Nat) (q h : Int) (ao : Option Addr) (n c : Nat) : Prop where
  no : NoHit x eb 95 g q
  c97 : x.cell? ⟨eb, 97, none⟩ = some (.int .i64 h)
  ca : x.cell? ⟨ab, 0, none⟩ = some (.slice ao n c)
  bel : Below w.heap.size w x
  glt : g < x.heap.size

section
variable {w x : World} {ab eb g : Nat} {q h : Int} {ao : Option Addr} {n c : Nat}

theorem Tl.elt (T : Tl w x ab eb g q h ao n c) : eb < x.heap.size := World.block_lt_of_cell? _ _ T.c97
theorem Tl.alt (T : Tl w x ab eb g q h ao n c) : ab < x.heap.size := World.block_lt_of_cell? _ _ T.ca

theorem Tl.below {x' : World} (T : Tl w x ab eb g q h ao n c) (hb : Below x.heap.size x x') : Tl w x' ab eb g q h ao n c :=
  ⟨T.no.kept (hb.cell (p := ⟨eb, 95, none⟩) T.elt) (hb.cell (p := ⟨eb, 95 + 1, none⟩) T.elt) (hb.block g T.glt), (hb.cell (p := ⟨eb, 97, none⟩) T.elt).trans T.c97, (hb.cell (p := ⟨ab, 0, none⟩) T.alt).trans T.ca, T.bel.trans (hb.mono T.bel.size), Nat.lt_of_lt_of_le T.glt hb.size⟩

/-- A second reply does nothing. -/
theorem reply_again (T : Tl w x ab eb g q h ao n c) :
    Calls Yba.prog 12 #[.pointer (some ⟨eb, 0, none⟩), .pointer (some ⟨x.heap.size, 0, none⟩)] (x.alloc (.cells #[.int .u64 q] 103)) fun e w' => e = .returned (.tuple #[]) ∧ Tl w w' ab eb g q h ao n c ∧ Below x.heap.size x w' := by
  have hb : Below x.heap.size x (x.alloc (.cells #[.int .u64 q] 103)) := (Below.refl _ _).alloc (Nat.le_refl _) _
  have T1 := T.below hb
  refine (rep_none eb x.heap.size g q _ T1.no T1.glt (by rw [blk_cell (heap_alloc_new _ _)]; rfl)).mono ?_
  rintro e w' ⟨he, hb'⟩
  exact ⟨he, T1.below hb', hb.trans (hb'.mono hb.size)⟩

end

theorem FrW.bel {w x wx : World} {eb eo g : Nat} (F : FrW x wx eb eo g) (hw : w.heap.size ≤ x.heap.size) (leb : w.heap.size ≤ eb) (lg : w.heap.size ≤ g) : Below w.heap.size x wx :=
  ⟨F.os, F.tape, F.output, F.size, fun k hk => F.block k (by omega) (by omega) (by omega)⟩

theorem okN_j (j : Nat) (h : j ≤ 256) : okN (0, (j : Int), (j : Int) + 1) := (show okE ((j : Int), (j : Int) + 1, 0, true) from ⟨⟨by show (0 : Int) ≤ j; omega, by show (j : Int) ≤ 4096; omega⟩, by show (0 : Int) ≤ (j : Int) + 1; omega, by show (j : Int) + 1 ≤ 4096; omega⟩).name

section
variable {w x : World} {ab eb g len : Nat} {zs : List Int} {q : Int}

theorem reply_none (H : E0 w x ab eb g len zs) (hm : len ≤ 256) (hno : ∀ e ∈ ents zs len, hit q e = false) :
    Calls Yba.prog 12 #[.pointer (some ⟨eb, 0, none⟩), .pointer (some ⟨x.heap.size, 0, none⟩)] (x.alloc (.cells #[.int .u64 q] 103)) fun e w' => e = .returned (.tuple #[]) ∧ Tl w w' ab eb g q len none 0 0 := by
  refine (reply_again (T := (⟨⟨H.wl.c1, _, _, _, H.wl.c0, .inr ⟨_, rfl, rfl, by rw [ents_length]; omega, H.wl.rows, hno⟩⟩, H.wl.c2, H.ca, H.bel, H.wl.glt⟩ : Tl w x ab eb g q len none 0 0))).mono ?_
  rintro e w' ⟨he, T, _⟩
  exact ⟨he, T⟩

theorem reply_old (H : E0 w x ab eb g len zs) (hm : len ≤ 256) (j : Nat) (hj : j < len) (hq : zs.getD j 0 = q) (hfst : ∀ t, t < j → zs.getD t 0 ≠ q) (h : Int) (hh : h = (len : Int) - ((ents zs len).countP (hit q) : Nat))
    (B n : Nat) (c93 : x.cell? ⟨eb, 93, none⟩ = some (.map (some B))) (hM : MapIs x B n [(0, (j : Int), (j : Int) + 1)]) (hBe : B ≠ eb) (hBg : B ≠ g) :
    Calls Yba.prog 12 #[.pointer (some ⟨eb, 0, none⟩), .pointer (some ⟨x.heap.size, 0, none⟩)] (x.alloc (.cells #[.int .u64 q] 103)) fun e w' => e = .returned (.tuple #[]) ∧ Tl w w' ab eb g q h none 0 0 := by
  have hb : Below x.heap.size x (x.alloc (.cells #[.int .u64 q] 103)) := (Below.refl _ _).alloc (Nat.le_refl _) _
  have H1 := H.below hb
  have hM1 := hM.alloc (.cells #[.int .u64 q] 103)
  have d93 : (x.alloc (.cells #[.int .u64 q] 103)).cell? ⟨eb, 93, none⟩ = some (.map (some B)) := (hb.cell (p := ⟨eb, 93, none⟩) H.elt).trans c93
  have hjl : j < (ents zs len).length := by rw [ents_length]; exact hj
  have e1 := H.elt
  have e2 := H.wl.glt
  refine (rep_hit eb x.heap.size g len len j (j : Int) ((j : Int) + 1) (ents zs len) q _ (ents_length _ _) (by omega) (ents_ok zs len hm) H1.wl hjl (by rw [ents_get]; unfold ent; rw [hq]) (fun t ht hlt => by
    rw [ents_get]; simp only [hit, ent, Bool.true_and]; exact decide_eq_false (hfst t hlt)) h hh (by rw [blk_cell (heap_alloc_new _ _)]; rfl) (by omega) (by omega) (fun wx w' => Below wx.heap.size wx w') (fun wx R =>
      dv_old eb B n _ (j : Int) ((j : Int) + 1) wx (okN_j j (by omega)) (List.mem_singleton.2 rfl) ((R.fr.cell 93 (by omega)).trans d93) (hM1.kept (R.fr.block B hM1.lt hBe hBg)))).mono ?_
  rintro e w' ⟨he, wx, R, hbx⟩
  refine ⟨he, ?_⟩
  have hge := H.wl.ne
  have T : Tl w wx ab eb g q h none 0 0 := ⟨R.no, R.c2, (World.cell?_of_block (a := ⟨ab, 0, none⟩) (R.fr.block ab H1.alt H.nae H.nag)).trans H1.ca, H1.bel.trans (R.fr.bel H1.bel.size H.leb H.lg), Nat.lt_of_lt_of_le H1.wl.glt R.fr.size⟩
  exact T.below hbx

theorem reply_new (H : E0 w x ab eb g len zs) (hm : len ≤ 256) (j : Nat) (hj : j < len) (hq : zs.getD j 0 = q) (hfst : ∀ t, t < j → zs.getD t 0 ≠ q) (h : Int) (hh : h = (len : Int) - ((ents zs len).countP (hit q) : Nat))
    (hU : Up x eb 89 none (.slice none 0 0) 0 []) :
    Calls Yba.prog 12 #[.pointer (some ⟨eb, 0, none⟩), .pointer (some ⟨x.heap.size, 0, none⟩)] (x.alloc (.cells #[.int .u64 q] 103)) fun e w' => e = .returned (.tuple #[]) ∧ ∃ g' o cp, Tl w w' ab eb g q h (some ⟨g', o, none⟩) 1 cp ∧ w'.cell? ⟨g', o, none⟩ = some (.int .u64 0) ∧ w'.cell? ⟨g', o + 1, none⟩ = some (.int .u64 j) := by
  have hb : Below x.heap.size x (x.alloc (.cells #[.int .u64 q] 103)) := (Below.refl _ _).alloc (Nat.le_refl _) _
  have H1 := H.below hb
  have e1 := H.elt
  have e2 := H.wl.glt
  have hjl : j < (ents zs len).length := by rw [ents_length]; exact hj
  have u4 := (hb.cell (p := ⟨eb, 89 + 4, none⟩) e1).trans hU.c4
  have u5 := (hb.cell (p := ⟨eb, 89 + 5, none⟩) e1).trans hU.c5
  have uf := H1.wl.fe
  have hge := H.wl.ne
  refine (rep_hit eb x.heap.size g len len j (j : Int) ((j : Int) + 1) (ents zs len) q _ (ents_length _ _) (by omega) (ents_ok zs len hm) H1.wl hjl (by rw [ents_get]; unfold ent; rw [hq]) (fun t ht hlt => by
    rw [ents_get]; simp only [hit, ent, Bool.true_and]; exact decide_eq_false (hfst t hlt)) h hh (by rw [blk_cell (heap_alloc_new _ _)]; rfl) (by omega) (by omega) (fun wx w' => DvOut wx w' eb ab (j : Int)) (fun wx R =>
      have hba := R.fr.block ab H1.alt H.nae H.nag
      dv_new eb ab (j : Int) ((j : Int) + 1) wx (okN_j j (by omega)) ⟨(R.fr.cell (89 + 4) (by omega)).trans u4, (R.fr.cell (89 + 5) (by omega)).trans u5, (R.fr.frozen _).trans (uf _), (R.fr.frozen _).trans (uf _), .inl ⟨rfl, rfl⟩, Mid.nil _ _, by simp, by simp, by simp, by simp [Value.ownBlock], by simp⟩
        ((R.fr.cell 89 (by omega)).trans H1.app) ((World.cell?_of_block (a := ⟨ab, 0, none⟩) hba).trans H1.ca) ((World.frozen?_of_block (a := ⟨ab, 0, none⟩) hba).trans H1.fa) H.nae)).mono ?_
  rintro e w' ⟨he, wx, R, D⟩
  obtain ⟨g', o, cp, r1, r2, r3, r4⟩ := D.row
  have s1 := R.fr.size
  have hgx : g < wx.heap.size := Nat.lt_of_lt_of_le H1.wl.glt s1
  refine ⟨he, g', o, cp, ⟨R.no.kept (D.cell 95 (by omega) (by omega)) (D.cell (95 + 1) (by omega) (by omega)) (D.block g hgx (fun e => H.nag e.symm) hge), (D.cell 97 (by omega) (by omega)).trans R.c2, r1, ?_, Nat.lt_of_lt_of_le hgx D.size⟩, r2, r3⟩
  have l1 := H.lab
  have l2 := H.leb
  have hs := H1.bel.size
  exact H1.bel.trans ((R.fr.bel hs H.leb H.lg).trans ⟨D.os, D.tape, D.output, D.size, fun k hk => D.block k (by omega) (by omega) (by omega)⟩)

end

end Go.Proofs.Ybulkbdie
