/-
  THE WALK OVER (*waitList).first (function 14), the list not indexed.
-/
import Derived.Test.YbulkbdieWait
namespace Go.Proofs.Ybulkbdie
open Go.RowKit

/-- An entry that is held under the token q. -/
def hit (q : Int) (e : Ent) : Bool := e.2.2.2 && decide (e.2.2.1 = q)

/-- ENTRIES IN A BLOCK OF THEIR OWN, by the cell. -/
def Rows15 (w : World) (g : Nat) (E : List Ent) : Prop := w.rangeAt g 0 (E.flatMap ecells)

theorem Rows15.at {w : World} {g : Nat} {E : List Ent} (h : Rows15 w g E) (k : Nat) (hk : k < E.length) (j : Nat) (hj : j < 15) (v : Value) (hv : (ecells E[k])[j]? = some v) : w.cell? ⟨g, k * 15 + j, none⟩ = some v := by
  have := h (k * 15 + j) v ((eflat_get E k hk j hj).trans hv)
  rwa [Nat.zero_add] at this

/-- WHAT first HANDS BACK: where the first entry under the token lies; nil and false where there is none. -/
def FirstOut (g : Nat) (q : Int) (E : List Ent) (e : Ending) : Prop :=
  ((∀ x ∈ E, hit q x = false) ∧ e = .returned (.tuple #[.pointer none, .bool false])) ∨
  ∃ (j : Nat) (h : j < E.length), hit q E[j] = true ∧ (∀ t (h' : t < E.length), t < j → hit q E[t] = false) ∧ e = .returned (.tuple #[.pointer (some ⟨g, j * 15, none⟩), .bool true])

set_option maxHeartbeats 1000000 in
set_option maxRecDepth 100000 in
theorem first_walk (eb eo g n c : Nat) (E : List Ent) (q : Int) (w : World) (hn : E.length = n) (hm : n ≤ 4096) (c0 : w.cell? ⟨eb, eo, none⟩ = some (.slice (some ⟨g, 0, none⟩) n c)) (c1 : w.cell? ⟨eb, eo + 1, none⟩ = some (.map none)) (hR : Rows15 w g E) :
    Calls Yba.prog 14 #[.pointer (some ⟨eb, eo, none⟩), .int .u64 q] w fun e w' => FirstOut g q E e ∧ Below w.heap.size w w' := by
  have q49 : ∀ (w : World) (r : Option Nat), (binOp .eql 49 (.map r) (.map none)).run Yba.prog w = .ok (.bool r.isNone) w := fun w r => run_eql_map_nil w _ _ _ r Yba.underlying49
  have HN : Hid (E.length = n) := hn
  have heb : eb < w.heap.size := World.block_lt_of_cell? _ _ c0
  clear hn
  go_enter Yba.func14, Yba.ntmps14
  go_wp2
  go_loopw [20] (fun i wr => ∃ k : Nat, k ≤ n ∧ i = .int .i64 k ∧ (∀ t (h : t < E.length), t < k → hit q E[t] = false) ∧ Below w.heap.size w wr) (fun i _ => n - (intOf i).toNat)
  case atStart => exact ⟨0, Nat.zero_le _, rfl, fun t h h' => absurd h' (by omega), Below.refl _ _⟩
  case round =>
    obtain ⟨k, hk, rfl, hno, hb⟩ := hrel
    have d0 := (hb.cell (p := ⟨eb, eo, none⟩) heb).trans c0
    by_cases hlt : k < n
    · have hkL : k < E.length := by rw [HN.out]; exact hlt
      have hglt : g < w.heap.size := World.block_lt_of_cell? _ _ (hR.at k hkL 0 (by omega) _ rfl)
      have cell : ∀ j, j < 15 → ∀ v, (ecells E[k])[j]? = some v → wr.cell? ⟨g, k * 15 + j, none⟩ = some v := fun j hj v hv => (hb.cell (p := ⟨g, k * 15 + j, none⟩) hglt).trans (hR.at k hkL j hj v hv)
      obtain ⟨⟨a, b, t, hd⟩, hEk⟩ : ∃ q, q = E[k] := ⟨_, rfl⟩
      rw [← hEk] at cell
      have e0 := cell 0 (by omega) _ rfl
      have e1 := cell 1 (by omega) _ rfl
      have e2 := cell 2 (by omega) _ rfl
      have e3 := cell 3 (by omega) _ rfl
      have e4 := cell 4 (by omega) _ rfl
      have e5 := cell 5 (by omega) _ rfl
      have e6 := cell 6 (by omega) _ rfl
      have e7 := cell 7 (by omega) _ rfl
      have e8 := cell 8 (by omega) _ rfl
      have e9 := cell 9 (by omega) _ rfl
      have e10 := cell 10 (by omega) _ rfl
      have e11 := cell 11 (by omega) _ rfl
      have e12 := cell 12 (by omega) _ rfl
      have e14 := cell 14 (by omega) _ rfl
      simp only [Nat.add_zero] at e0
      have HE : Hid ((a, b, t, hd) = E[k]) := hEk
      clear hEk cell
      have k0 : (0 : Int) ≤ (k : Int) := by omega
      have k1 : (k : Int) < (n : Int) := by omega
      have HO : Hid (∀ t (h : t < E.length), t < k → hit q E[t] = false) := hno
      clear hno
      cases hd with
      | false =>
        go_wp2
        go_roundw
        case rel =>
          refine ⟨k + 1, by omega, by go_num, fun t' h ht => ?_, hb⟩
          by_cases e : t' = k
          · subst e; rw [← HE.out]; rfl
          · exact HO.out t' h (by omega)
        case measure => simp [intOf]; omega
      | true =>
        have hmt := keyM0 a b t
        simp only [Yba.t115, List.head?_cons, Option.map_some, Option.getD_some] at hmt
        by_cases htq : t = q
        · have hbt : (t == q) = true := beq_iff_eq.2 htq
          have HT : Hid (t = q) := htq
          clear htq
          go_wp2_with fail
          refine (key_any a b t _).mono ?_
          rintro e w1 ⟨rfl, hb1⟩
          have hb2 : Below w.heap.size w w1 := hb.trans (hb1.mono hb.size)
          clear e0 e1 e2 e3 e4 e5 e6 e7 e8 e9 e10 e11 e12 e14 hmt
          go_wp2
          go_ret2
          refine ⟨.inr ⟨k, hkL, ?_, HO.out, rfl⟩, hb2⟩
          rw [← HE.out]; simp [hit, HT.out]
        · have hbt : (t == q) = false := beq_eq_false_iff_ne.2 htq
          have HT : Hid (¬ t = q) := htq
          clear htq
          go_wp2_with fail
          refine (key_any a b t _).mono ?_
          rintro e w1 ⟨rfl, hb1⟩
          have hb2 : Below w.heap.size w w1 := hb.trans (hb1.mono hb.size)
          clear e0 e1 e2 e3 e4 e5 e6 e7 e8 e9 e10 e11 e12 e14 hmt
          go_wp2
          go_roundw
          case rel =>
            refine ⟨k + 1, by omega, by go_num, fun t' h ht => ?_, hb2⟩
            by_cases e : t' = k
            · subst e; rw [← HE.out]; simp [hit, HT.out]
            · exact HO.out t' h (by omega)
          case measure => simp [intOf]; omega
    · have HO : Hid (∀ t (h : t < E.length), t < k → hit q E[t] = false) := hno
      clear hno
      go_wp2
      go_ret2
      refine ⟨.inl ⟨fun x hx => ?_, rfl⟩, hb⟩
      obtain ⟨t, ht, rfl⟩ := List.getElem_of_mem hx
      exact HO.out t ht (by have := HN.out; omega)

end Go.Proofs.Ybulkbdie
