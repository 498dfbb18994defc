/-
  THE WALK OVER (*waitList).remove (26), handed (*confirmations).forget.
-/
import Derived.Test.YbulkbdieForg
import Derived.Test.YbulkbdieEmp
namespace Go.Proofs.Ybulkbdie
open Go.RowKit

/-- NO WAIT UNDER q IS HELD in the list at ⟨eb, eo⟩. -/
def NoHit (w : World) (eb eo g : Nat) (q : Int) : Prop :=
  w.cell? ⟨eb, eo + 1, none⟩ = some (.map none) ∧ ∃ ao n c, w.cell? ⟨eb, eo, none⟩ = some (.slice ao n c) ∧
    (n = 0 ∨ ∃ E, ao = some ⟨g, 0, none⟩ ∧ E.length = n ∧ n ≤ 4096 ∧ Rows15 w g E ∧ ∀ x ∈ E, hit q x = false)

theorem NoHit.first {w : World} {eb eo g : Nat} {q : Int} (h : NoHit w eb eo g q) :
    Calls Yba.prog 14 #[.pointer (some ⟨eb, eo, none⟩), .int .u64 q] w fun e w' => e = .returned (.tuple #[.pointer none, .bool false]) ∧ Below w.heap.size w w' := by
  obtain ⟨h1, ao, n, c, h0, rfl | ⟨E, rfl, hn, hm, hR, hno⟩⟩ := h
  · exact first_empty eb eo ao c q w h0 h1
  · refine (first_walk eb eo g n c E q w hn hm h0 h1 hR).mono ?_
    rintro e w' ⟨hF | ⟨j, hj, hh, _⟩, hb⟩
    · exact ⟨hF.2, hb⟩
    · rw [hno _ (List.getElem_mem hj)] at hh; cases hh

theorem NoHit.kept {w w' : World} {eb eo g : Nat} {q : Int} (h : NoHit w eb eo g q) (h0 : w'.cell? ⟨eb, eo, none⟩ = w.cell? ⟨eb, eo, none⟩) (h1 : w'.cell? ⟨eb, eo + 1, none⟩ = w.cell? ⟨eb, eo + 1, none⟩) (hg : w'.heap[g]? = w.heap[g]?) : NoHit w' eb eo g q := by
  obtain ⟨k1, ao, n, c, k0, hr⟩ := h
  refine ⟨h1.trans k1, ao, n, c, h0.trans k0, ?_⟩
  rcases hr with rfl | ⟨E, rfl, hn, hm, hR, hno⟩
  · exact .inl rfl
  · exact .inr ⟨E, rfl, hn, hm, fun i v hv => (World.cell?_of_block (a := ⟨g, 0 + i, none⟩) hg).trans (hR i v hv), hno⟩

/-- WHAT IS STRUCK by the first k rounds. -/
def Struck (q : Int) (k : Nat) (E E' : List Ent) : Prop :=
  E'.length = E.length ∧ (∀ t (h : t < E.length) (h' : t < E'.length), k ≤ t → E'[t] = E[t]) ∧ (∀ t (h : t < E.length) (h' : t < E'.length), t < k → E'[t] = if hit q E[t] then dead else E[t])

theorem Struck.zero (q : Int) (E : List Ent) : Struck q 0 E E := ⟨rfl, fun _ _ _ _ => rfl, fun _ _ _ h => absurd h (by omega)⟩

theorem Struck.miss {q : Int} {k : Nat} {E E' : List Ent} (h : Struck q k E E') (hk : k < E.length) (hh : hit q E[k] = false) : Struck q (k + 1) E E' := by
  obtain ⟨h1, h2, h3⟩ := h
  refine ⟨h1, fun t ht ht' hle => h2 t ht ht' (by omega), fun t ht ht' hlt => ?_⟩
  by_cases e : t = k
  · subst e; rw [h2 t ht ht' (Nat.le_refl _), hh]; rfl
  · exact h3 t ht ht' (by omega)

theorem Struck.got {q : Int} {k : Nat} {E E' : List Ent} (h : Struck q k E E') (hk : k < E.length) (hh : hit q E[k] = true) : Struck q (k + 1) E (E'.set k dead) := by
  obtain ⟨h1, h2, h3⟩ := h
  refine ⟨by rw [List.length_set]; exact h1, fun t ht ht' hle => ?_, fun t ht ht' hlt => ?_⟩
  · rw [List.getElem_set_ne (by omega)]; exact h2 t ht (by omega) (by omega)
  · by_cases e : t = k
    · subst e; rw [List.getElem_set_self, hh]; rfl
    · rw [List.getElem_set_ne (by omega)]; exact h3 t ht (by omega) (by omega)

theorem hit_dead (q : Int) : hit q dead = false := rfl

theorem Struck.clean {q : Int} {k : Nat} {E E' : List Ent} (h : Struck q k E E') (hk : E.length ≤ k) : ∀ x ∈ E', hit q x = false := by
  intro x hx
  obtain ⟨t, ht, rfl⟩ := List.getElem_of_mem hx
  have ht' : t < E.length := by rw [← h.1]; exact ht
  rw [h.2.2 t ht' ht (by omega)]
  by_cases hh : Ybulkbdie.hit q E[t] = true
  · rw [if_pos hh]; rfl
  · rw [if_neg hh]; simpa using hh

theorem count_step (q : Int) (E : List Ent) (k : Nat) (hk : k < E.length) : ((E.take (k + 1)).countP (hit q)) = (E.take k).countP (hit q) + if hit q E[k] then 1 else 0 := by
  rw [List.take_succ_eq_append_getElem hk, List.countP_append]
  simp [List.countP_cons]

/-- WHAT remove LEAVES. -/
structure RmOut (w w' : World) (eb eo g : Nat) (q h : Int) : Prop where
  no : NoHit w' eb eo g q
  c2 : w'.cell? ⟨eb, eo + 2, none⟩ = some (.int .i64 h)
  c3 : w'.cell? ⟨eb, eo + 3, none⟩ = some (.map none)
  fr : FrW w w' eb eo g

/-- What turns no block that was there at the start. -/
theorem RmOut.upon {w w1 w2 : World} {eb eo g : Nat} {q h : Int} (R : RmOut w w1 eb eo g q h) (heb : eb < w.heap.size) (hg : g < w.heap.size) (hb : Below w.heap.size w1 w2) : RmOut w w2 eb eo g q h :=
  ⟨R.no.kept (hb.cell (p := ⟨eb, eo, none⟩) heb) (hb.cell (p := ⟨eb, eo + 1, none⟩) heb) (hb.block g hg), (hb.cell (p := ⟨eb, eo + 2, none⟩) heb).trans R.c2, (hb.cell (p := ⟨eb, eo + 3, none⟩) heb).trans R.c3,
    ⟨hb.os.trans R.fr.os, hb.tape.trans R.fr.tape, hb.output.trans R.fr.output, Nat.le_trans R.fr.size hb.size, fun k hk h1 h2 => (hb.block k hk).trans (R.fr.block k hk h1 h2), fun o ho => (hb.cell (p := ⟨eb, o, none⟩) heb).trans (R.fr.cell o ho), fun o => (hb.frozen (p := ⟨eb, o, none⟩) heb).trans (R.fr.frozen o)⟩⟩

/-- A later start. -/
theorem RmOut.from {w0 w w1 : World} {eb eo g : Nat} {q h : Int} (R : RmOut w w1 eb eo g q h) (heb : eb < w0.heap.size) (hb : Below w0.heap.size w0 w) : RmOut w0 w1 eb eo g q h :=
  ⟨R.no, R.c2, R.c3, FrW.trans ⟨hb.os, hb.tape, hb.output, hb.size, fun i hi _ _ => hb.block i hi, fun o _ => hb.cell (p := ⟨eb, o, none⟩) heb, fun o => hb.frozen (p := ⟨eb, o, none⟩) heb⟩ R.fr⟩

/-- The index of names is dropped. -/
theorem RmOut.drop {w w1 : World} {eb eo g : Nat} {q h : Int} (R : RmOut w w1 eb eo g q h) (hne : g ≠ eb) : RmOut w (w1.setCell ⟨eb, eo + 3, none⟩ (.map none)) eb eo g q h := by
  have n1 : ∀ (o' : Nat), o' ≠ eo + 3 → (w1.setCell ⟨eb, eo + 3, none⟩ (.map none)).cell? ⟨eb, o', none⟩ = w1.cell? ⟨eb, o', none⟩ := fun o' hne => World.cell?_setCell_other w1 (a := ⟨eb, eo + 3, none⟩) (b := ⟨eb, o', none⟩) (v := .map none) (by intro e; have e1 := congrArg Addr.off e; simp only at e1; omega)
  exact ⟨R.no.kept (n1 _ (by omega)) (n1 _ (by omega)) (Below.heap_setCell w1 _ _ g hne), (n1 _ (by omega)).trans R.c2, World.cell?_setCell_same _ _ _ R.c3, R.fr.setCell (by omega) _⟩

theorem rm_full {w wr : World} {eb eo g c k : Nat} {q h : Int} {E E' : List Ent} (W : Wl wr eb eo g c E' h) (S : Struck q k E E') (hk : E.length ≤ k) (hm : E.length ≤ 4096) (F : FrW w wr eb eo g) : RmOut w wr eb eo g q h :=
  ⟨⟨W.c1, _, _, _, W.c0, .inr ⟨E', rfl, rfl, by rw [S.1]; exact hm, W.rows, S.clean hk⟩⟩, W.c2, W.c3, F⟩

theorem rm_none {w wr : World} {eb eo g c : Nat} {q h : Int} {E' : List Ent} (W : Wl wr eb eo g c E' h) (F : FrW w wr eb eo g) (ao : Option Addr) (c' : Nat) : RmOut w ((wr.setCell ⟨eb, eo + 1, none⟩ (.map none)).setCell ⟨eb, eo, none⟩ (.slice ao 0 c')) eb eo g q h := by
  have n1 : ∀ (o : Nat) (u : Value) (X : World) (o' : Nat), o' ≠ o → (X.setCell ⟨eb, o, none⟩ u).cell? ⟨eb, o', none⟩ = X.cell? ⟨eb, o', none⟩ := fun o u X o' hne => World.cell?_setCell_other X (a := ⟨eb, o, none⟩) (b := ⟨eb, o', none⟩) (v := u) (by intro e; have e1 := congrArg Addr.off e; simp only at e1; omega)
  refine ⟨⟨?_, ao, 0, c', ?_, .inl rfl⟩, ?_, ?_, (F.setCell (by omega) _).setCell (by omega) _⟩
  · rw [n1 _ _ _ _ (by omega)]; exact World.cell?_setCell_same _ _ _ W.c1
  · exact World.cell?_setCell_same _ _ _ ((n1 _ _ _ _ (by omega)).trans W.c0)
  · rw [n1 _ _ _ _ (by omega), n1 _ _ _ _ (by omega)]; exact W.c2
  · rw [n1 _ _ _ _ (by omega), n1 _ _ _ _ (by omega)]; exact W.c3

set_option maxHeartbeats 2000000 in
set_option maxRecDepth 100000 in
theorem rm_walk (eb eo g n c : Nat) (E : List Ent) (q : Int) (w : World) (hn : E.length = n) (hm : n ≤ 4096) (hok : ∀ x ∈ E, okE x) (W : Wl w eb eo g c E n) :
    Calls Yba.prog 26 #[.pointer (some ⟨eb, eo, none⟩), .int .u64 q, .func (.func 27) #[.pointer (some ⟨eb, eo, none⟩)] #[]] w fun e w' => e = .returned (.tuple #[]) ∧ RmOut w w' eb eo g q ((n : Int) - (E.countP (hit q) : Nat)) := by
  have q49 : ∀ (w : World) (r : Option Nat), (binOp .eql 49 (.map r) (.map none)).run Yba.prog w = .ok (.bool r.isNone) w := fun w r => run_eql_map_nil w _ _ _ r Yba.underlying49
  have HN : Hid (E.length = n) := hn
  have HK : Hid (∀ x ∈ E, okE x) := hok
  have HW : Hid (Wl w eb eo g c E n) := W
  have heb : eb < w.heap.size := World.block_lt_of_cell? _ _ W.c0
  have c0 : w.cell? ⟨eb, eo, none⟩ = some (.slice (some ⟨g, 0, none⟩) n c) := by rw [W.c0, hn]
  have c1 := W.c1
  clear hn hok W
  go_enter Yba.func26, Yba.ntmps26
  go_wp2
  go_loopw [20] (fun i wr => ∃ k : Nat, k ≤ n ∧ i = .int .i64 k ∧ ∃ E' h, h = (n : Int) - ((E.take k).countP (hit q) : Nat) ∧ Struck q k E E' ∧ Wl wr eb eo g c E' h ∧ FrW w wr eb eo g) (fun i _ => n - (intOf i).toNat)
  case atStart => exact ⟨0, Nat.zero_le _, rfl, E, n, by simp, Struck.zero q E, HW.out, FrW.refl _ _ _ _⟩
  case round =>
    obtain ⟨k, hk, rfl, E', h, hh, hS, hW, hF⟩ := hrel
    have hcl : (E.take k).countP (hit q) ≤ k := Nat.le_trans List.countP_le_length (by simp; omega)
    have hlE : E'.length = n := by rw [hS.1]; exact HN.out
    have d0 : wr.cell? ⟨eb, eo, none⟩ = some (.slice (some ⟨g, 0, none⟩) n c) := by rw [hW.c0, hlE]
    have d2 := hW.c2
    have hebr : eb < wr.heap.size := World.block_lt_of_cell? _ _ d0
    have hglr := hW.glt
    by_cases hlt : k < n
    · have hkL : k < E.length := by rw [HN.out]; exact hlt
      have hkE : k < E'.length := by rw [hlE]; exact hlt
      have hEk' : E'[k] = E[k] := hS.2.1 k hkL hkE (Nat.le_refl _)
      have cell : ∀ j, j < 15 → ∀ v, (ecells E[k])[j]? = some v → wr.cell? ⟨g, k * 15 + j, none⟩ = some v := fun j hj v hv => hW.rows.at k hkE j hj v (by rw [hEk']; exact hv)
      have HE : Hid (∃ x, x = E[k] ∧ okE x) := ⟨_, rfl, HK.out _ (List.getElem_mem hkL)⟩
      obtain ⟨⟨a, b, t, hd⟩, hEk⟩ : ∃ q, q = E[k] := ⟨_, rfl⟩
      have hokk : okE (a, b, t, hd) := by rw [hEk]; exact HK.out _ (List.getElem_mem hkL)
      rw [← hEk] at cell
      have e0 := cell 0 (by omega) _ rfl
      have e1 := cell 1 (by omega) _ rfl
      have e2 := cell 2 (by omega) _ rfl
      have e3 := cell 3 (by omega) _ rfl
      have e4 := cell 4 (by omega) _ rfl
      have e5 := cell 5 (by omega) _ rfl
      have e6 := cell 6 (by omega) _ rfl
      have e7 := cell 7 (by omega) _ rfl
      have e8 := cell 8 (by omega) _ rfl
      have e9 := cell 9 (by omega) _ rfl
      have e10 := cell 10 (by omega) _ rfl
      have e11 := cell 11 (by omega) _ rfl
      have e12 := cell 12 (by omega) _ rfl
      have e14 := cell 14 (by omega) _ rfl
      simp only [Nat.add_zero] at e0
      have HC : Hid (∀ j, j < 15 → ∀ v, (ecells (a, b, t, hd))[j]? = some v → wr.cell? ⟨g, k * 15 + j, none⟩ = some v) := cell
      have HO : Hid ((a, b, t, hd) = E[k] ∧ okE (a, b, t, hd) ∧ h = (n : Int) - ((E.take k).countP (hit q) : Nat) ∧ Struck q k E E' ∧ Wl wr eb eo g c E' h ∧ FrW w wr eb eo g ∧ (E.take k).countP (hit q) ≤ k) := ⟨hEk, hokk, hh, hS, hW, hF, hcl⟩
      have k0 : (0 : Int) ≤ (k : Int) := by omega
      have k1 : (k : Int) < (n : Int) := by omega
      clear hEk cell hokk hh hS hW hF hEk' hkE hcl
      cases hd with
      | false =>
        go_wp2
        go_roundw
        case rel =>
          obtain ⟨hEk, hokk, hh, hS, hW, hF, _⟩ := HO.out
          have hmis : hit q E[k] = false := by rw [← hEk]; rfl
          exact ⟨k + 1, by omega, by go_num, E', h, by rw [count_step q E k hkL, hmis]; simpa using hh, hS.miss hkL hmis, hW, hF⟩
        case measure => simp [intOf]; omega
      | true =>
        have hmt := keyM0 a b t
        simp only [Yba.t115, List.head?_cons, Option.map_some, Option.getD_some] at hmt
        by_cases htq : t = q
        · have hbt : (t == q) = true := beq_iff_eq.2 htq
          have HT : Hid (t = q) := htq
          clear htq
          go_wp2_with fail
          refine (key_any a b t _).mono ?_
          rintro e w1 ⟨rfl, hb1⟩
          clear e0 e1 e2 e3 e4 e5 e6 e7 e8 e9 e10 e11 e12 e14 hmt d0 d2
          obtain ⟨hEk, hokk, hh, hS, hW, hF, hcl⟩ := HO.out
          have hW1 := hW.below hb1
          have hF1 := hF.below heb hb1
          have hforg := forg_walk eb eo g (k * 15) (a, b, t, true) w1 hokk hW1.c3 (fun j hj v hv => (hb1.cell (p := ⟨g, k * 15 + j, none⟩) hW.glt).trans (HC.out j (by omega) v (by
            unfold ecells; rw [List.getElem?_append_left (by show j < 13; omega)]; exact hv)))
          have hh2 : 0 ≤ h ∧ h ≤ 100000 := by omega
          clear hEk hokk hh hS hW hF hcl
          have HW1 : Hid (Wl w1 eb eo g c E' h) := hW1
          have HF1 : Hid (FrW w w1 eb eo g) := hF1
          clear hW1 hF1
          go_wp2_with fail
          refine hforg.mono ?_
          rintro e w2 ⟨rfl, hb2⟩
          have hW2 := HW1.out.below hb2
          have hF2 := HF1.out.below heb hb2
          obtain ⟨hWo, hFo⟩ := hW2.out k (by rw [hlE]; exact hlt)
          have hout := out_walk eb eo g n c k h (a, b, t, true) w2 hlt hm hW2.ne (by rw [hW2.c0, hlE]) hW2.c2 (hW2.fe _) hh2 (fun j hj v hv => by
            have hEk := HO.out.1
            have hkE : k < E'.length := by rw [hlE]; exact hlt
            exact hW2.rows.at k hkE j hj v (by rw [HO.out.2.2.2.1.2.1 k hkL hkE (Nat.le_refl _), ← hEk]; exact hv)) hW2.fg
          have HWo : Hid (Wl _ eb eo g c (E'.set k dead) (h - 1)) := hWo
          have HFo : Hid (FrW w _ eb eo g) := hF2.trans hFo
          clear hW2 hF2 hWo hFo hforg
          go_wp2_with fail
          refine hout.mono ?_
          rintro e w3 ⟨rfl, rfl⟩
          clear hout
          obtain ⟨w3, hw3⟩ : ∃ X, X = ((((w2.setCells g (k * 15) (wcells dead)).setCell ⟨g, k * 15 + 14, none⟩ (.bool false)).setCell ⟨eb, eo + 2, none⟩ (.int .i64 (h - 1))).alloc (.cells (wcells dead).toArray 115)).drew := ⟨_, rfl⟩
          rw [← hw3] at HWo HFo ⊢
          clear hw3
          go_wp2
          go_roundw
          case rel =>
            obtain ⟨hEk, hokk, hh, hS, _, _, _⟩ := HO.out
            have hhit : hit q E[k] = true := by rw [← hEk]; simp [hit, HT.out]
            exact ⟨k + 1, by omega, by go_num, E'.set k dead, h - 1, by rw [count_step q E k hkL, hhit]; simp only [if_true]; omega, hS.got hkL hhit, HWo.out, HFo.out⟩
          case measure => simp [intOf]; omega
        · have hbt : (t == q) = false := beq_eq_false_iff_ne.2 htq
          have HT : Hid (¬ t = q) := htq
          clear htq
          go_wp2_with fail
          refine (key_any a b t _).mono ?_
          rintro e w1 ⟨rfl, hb1⟩
          clear e0 e1 e2 e3 e4 e5 e6 e7 e8 e9 e10 e11 e12 e14 hmt
          go_wp2
          go_roundw
          case rel =>
            obtain ⟨hEk, hokk, hh, hS, hW, hF, _⟩ := HO.out
            have hmis : hit q E[k] = false := by rw [← hEk]; simp [hit, HT.out]
            exact ⟨k + 1, by omega, by go_num, E', h, by rw [count_step q E k hkL, hmis]; simpa using hh, hS.miss hkL hmis, hW.below hb1, hF.below heb hb1⟩
          case measure => simp [intOf]; omega
    · have HO : Hid (Struck q k E E' ∧ Wl wr eb eo g c E' h ∧ FrW w wr eb eo g ∧ (E.take k) = E) := ⟨hS, hW, hF, List.take_of_length_le (by rw [HN.out]; omega)⟩
      have HH : Hid (h = (n : Int) - ((E.take k).countP (hit q) : Nat)) := hh
      have d1 := hW.c1
      have f0 := hW.fe eo
      have f1 := hW.fe (eo + 1)
      have hemp := empty_walk eb eo g n c wr d0 d1 f0 f1
      clear hh hS hW hF hcl
      by_cases hz : h = 0
      · have hb0 : (h == 0) = true := beq_iff_eq.2 hz
        have HZ : Hid (h = 0) := hz
        clear hz
        go_wp2_with fail
        refine hemp.mono ?_
        rintro e w2 ⟨rfl, ao, c', rfl⟩
        go_wp2
        go_end0
        obtain ⟨hS, hW, hF, ht⟩ := HO.out
        have hh := HH.out
        rw [ht] at hh
        rw [← hh]
        exact ⟨rfl, rm_none hW hF ao c'⟩
      · have hb0 : (h == 0) = false := beq_eq_false_iff_ne.2 hz
        clear hz
        go_wp2
        go_end0
        obtain ⟨hS, hW, hF, ht⟩ := HO.out
        have hh := HH.out
        rw [ht] at hh
        rw [← hh]
        exact ⟨rfl, rm_full hW hS (by rw [HN.out]; omega) (by rw [HN.out]; exact hm) hF⟩

end Go.Proofs.Ybulkbdie
