/-
  A SLICE OF THE CALL's OWN THAT NEED NOT BEGIN AT ITS BLOCK's HEAD ('s = s[1:]'), APPENDED TO.
-/
import Derived.Deep.MidRow
import Derived.Deep.Upon
import Derived.ArgAppend
import Derived.Laws.OwnMore
import Derived.Deep.RegionLaw
namespace Go.Proofs.Ybulkbdie
open Go.RowKit

/-- v IS A SLICE OF n ELEMENTS, size CELLS EACH, THE CELLS xs; its room may be written. -/
def Mid (w : World) (size : Nat) (v : Value) (n : Nat) (xs : List Value) : Prop :=
  xs.length = n * size ∧ ((v = .slice none 0 0 ∧ n = 0) ∨
    ∃ g o cap, v = .slice (some ⟨g, o, none⟩) n cap ∧ n ≤ cap ∧ cap ≤ maxLen ∧ g < w.heap.size ∧ w.rangeAt g o xs ∧ w.there g o (cap * size))

theorem Mid.nil (w : World) (size : Nat) : Mid w size (.slice none 0 0) 0 [] := ⟨by simp, .inl ⟨rfl, rfl⟩⟩

theorem Mid.lt {w : World} {size : Nat} {v : Value} {n : Nat} {xs : List Value} (h : Mid w size v n xs) {g : Nat} (hg : v.ownBlock = some g) : g < w.heap.size := by
  rcases h.2 with ⟨rfl, _⟩ | ⟨g', o, cap, rfl, _, _, h1, _⟩
  · simp [Value.ownBlock] at hg
  · simp [Value.ownBlock] at hg
    omega

/-- It stays what it is while its block does. -/
theorem Mid.kept {w w' : World} {size : Nat} {v : Value} {n : Nat} {xs : List Value} (h : Mid w size v n xs) (hs : w.heap.size ≤ w'.heap.size) (hb : ∀ g, v.ownBlock = some g → w'.heap[g]? = w.heap[g]?) : Mid w' size v n xs := by
  rcases h.2 with hl | ⟨g, o, cap, rfl, h1, h2, h3, h4, h5⟩
  · exact ⟨h.1, .inl hl⟩
  have e := hb g rfl
  refine ⟨h.1, .inr ⟨g, o, cap, rfl, h1, h2, by omega, fun j u hu => ?_, fun j hj => ?_⟩⟩
  · rw [World.cell?_of_block (a := ⟨g, o + j, none⟩) e]; exact h4 j u hu
  · rw [World.cell?_of_block (a := ⟨g, o + j, none⟩) e, World.frozen?_of_block (a := ⟨g, o + j, none⟩) e]; exact h5 j hj

theorem mid_of_row {w : World} {base : Nat} {e : TypeId} {size : Nat} {v : Value} {n : Nat} {xs : List Value} (h : w.ownsRow base e size v n xs) : Mid w size v n xs := by
  rcases h.2 with hl | ⟨g, cap, cur, rfl, _, hg, h1, h2, hs, ht⟩
  · exact ⟨h.1, .inl hl⟩
  have hlt : g < w.heap.size := (Array.getElem?_eq_some_iff.1 hg).1
  refine ⟨h.1, .inr ⟨g, 0, cap, rfl, h1, h2, hlt, fun j u hu => ?_, fun j hj => ?_⟩⟩
  · rw [Nat.zero_add, cell_of_row w g j cur e (0, 0) hg]
    rw [← ht] at hu
    have hj := (List.getElem?_eq_some_iff.1 hu).1
    rw [List.getElem?_take] at hu
    split at hu
    · simpa using hu
    · cases hu
  · rw [Nat.zero_add, cell_of_row w g j cur e (0, 0) hg]
    refine ⟨by simp; omega, ?_⟩
    simp [World.frozen?, hg]

theorem tape_setCells (b : Nat) : ∀ (vs : List Value) (o : Nat) (w : World), (w.setCells b o vs).tape = w.tape := by
  intro vs
  induction vs with
  | nil => intro o w; rfl
  | cons v r ih => intro o w; rw [World.setCells, ih]; rfl

theorem size_setCells (b : Nat) : ∀ (vs : List Value) (o : Nat) (w : World), (w.setCells b o vs).heap.size = w.heap.size := by
  intro vs
  induction vs with
  | nil => intro o w; rfl
  | cons v r ih => intro o w; rw [World.setCells, ih]; simp

theorem grown_setCells (w : World) (b o : Nat) (vs : List Value) : w.grownBy (w.setCells b o vs) (some b) :=
  ⟨World.os_setCells w b o vs, tape_setCells b vs o w, World.output_setCells w b o vs, by rw [size_setCells]; exact Nat.le_refl _,
    fun k hk hne => World.heap_setCells_other w b o vs hk (fun e => hne (by rw [e]))⟩

/-- ONE ELEMENT IS APPENDED: it goes into the room, or all moves to a new block. -/
theorem Mid.append {P : Program} {w : World} {size : Nat} {v : Value} {n : Nat} {xs : List Value} (h : Mid w size v n xs) (t ty e : TypeId) (i : TypeInfo) (z : Value) (bytes : Nat) (ht : P.underlying t = some (.slice e)) (hi : P.info? e = some i) (hz : i.zero = some z)
    (hsize : i.size = size) (hby : i.bytes = bytes) (hzs : z.cells.size = size) (hsz : 0 < size) (ad : Addr) (c : Nat) (news : List Value) (hl : news.length = size) (hnews : ∀ j u, news[j]? = some u → w.cell? (ad.add j) = some u) (h1 : ∀ u ∈ news, u.oneCell' = true)
    (h63 : n + 1 ≤ maxLen) (hbytes : (n + 1) * bytes ≤ 140737488355328) :
    ∃ g o cap w', (Builtin.append_ #[t, t] ty #[v, .slice (some ad) 1 c]).run P w = .ok (.slice (some ⟨g, o, none⟩) (n + 1) cap) w' ∧ Mid w' size (.slice (some ⟨g, o, none⟩) (n + 1) cap) (n + 1) (xs ++ news) ∧
      (v.ownBlock = some g ∨ w.heap.size ≤ g) ∧ w.grownBy w' v.ownBlock := by
  have hl' : news.length = 1 * size := by omega
  rcases h.2 with ⟨rfl, rfl⟩ | ⟨g, o, cap, rfl, hnc, hcm, hglt, hra, hth⟩
  · have hx : xs = [] := List.eq_nil_of_length_eq_zero (by simpa using h.1)
    subst hx
    obtain ⟨v', w', hrun, r1, r2, r3⟩ := run_append_own (P := P) w w.heap.size t ty e i z size bytes ht hi hz hsize hby hzs hsz (.slice none 0 0) 0 [] (World.ownsRow_nil w _ e size) ad 1 c news hl' hnews h1 h63 hbytes (Nat.le_refl _)
    have hm := mid_of_row r1
    rcases r1.2 with ⟨_, h0⟩ | ⟨g, cap, cur, rfl, hbg, _⟩
    · omega
    · exact ⟨g, 0, cap, w', by simpa using hrun, by simpa using hm, .inr hbg, r2⟩
  · by_cases hroom : n + 1 ≤ cap
    · subst hsize
      have hmul : n * i.size + i.size ≤ cap * i.size := by rw [← Nat.succ_mul]; exact Nat.mul_le_mul_right _ hroom
      have hth' : w.there g (o + n * i.size) news.length := fun j hj => by rw [Nat.add_assoc]; exact hth (n * i.size + j) (by omega)
      have hrun := run_append_room_cells (P := P) w t ty e i ht hi g o n cap ad 1 c news hl' hnews h1 hroom (fun j hj => (hth' j hj).1) (fun j hj => (hth' j hj).2)
      refine ⟨g, o, cap, _, hrun, ⟨?_, .inr ⟨g, o, cap, rfl, hroom, hcm, by rw [size_setCells]; exact hglt, ?_, World.there_setCells hth _ _ _⟩⟩, .inl rfl, grown_setCells w g _ news⟩
      · rw [List.length_append, h.1, hl]; rw [Nat.succ_mul]
      · intro j u hu
        by_cases hj : j < xs.length
        · rw [List.getElem?_append_left hj] at hu
          exact World.rangeAt_setCells_apart hra g (o + n * i.size) news (.inr (.inl (by rw [h.1]; exact Nat.le_refl _))) j u hu
        · rw [List.getElem?_append_right (by omega)] at hu
          have := World.rangeAt_setCells_same w g (o + n * i.size) news hth' (j - xs.length) u hu
          rw [show o + j = o + n * i.size + (j - xs.length) from by have := h.1; omega]
          exact this
    · obtain ⟨v', w', hrun, r1, r2⟩ := run_append_arg_grows (P := P) w t ty e i z size bytes ht hi hz hsize hby hzs hsz ⟨g, o, none⟩ n cap xs h.1 (fun j u hu => by rw [Addr.add_mid]; exact hra j u hu) ad 1 c news hl' hnews (by omega) h63 hbytes
      have hm := mid_of_row r1
      rcases r1.2 with ⟨_, h0⟩ | ⟨g', cap', cur, rfl, hbg, _⟩
      · omega
      · exact ⟨g', 0, cap', w', hrun, hm, .inr hbg, ⟨r2.os, r2.tape, r2.output, r2.size, fun k hk _ => r2.block k hk (by simp)⟩⟩

/-- 's = s[1:]'. -/
theorem Mid.tail {w : World} {size g o n cap : Nat} {x xs : List Value} (h : Mid w size (.slice (some ⟨g, o, none⟩) (n + 1) cap) (n + 1) (x ++ xs)) (hx : x.length = size) : Mid w size (.slice (some ⟨g, o + size, none⟩) n (cap - 1)) n xs := by
  have hlen := h.1
  rw [List.length_append, hx, Nat.succ_mul] at hlen
  refine ⟨by omega, .inr ?_⟩
  rcases h.2 with ⟨h', _⟩ | ⟨g', o', cap', h', h1, h2, h3, h4, h5⟩
  · simp at h'
  · simp at h'
    obtain ⟨⟨rfl, rfl⟩, rfl⟩ := h'
    refine ⟨g, o + size, cap - 1, rfl, by omega, by omega, h3, fun j u hu => ?_, fun j hj => ?_⟩
    · rw [Nat.add_assoc]
      refine h4 (size + j) u ?_
      rw [List.getElem?_append_right (by omega), hx, show size + j - size = j from by omega]
      exact hu
    · rw [Nat.add_assoc]
      refine h5 (size + j) ?_
      have : (cap - 1) * size + size = cap * size := by rw [← Nat.succ_mul]; congr 1; omega
      omega

/-- 'append' AS ONE STEP OF A REGION THAT DRAWS, its run given. -/
theorem step_append_run {P : Program} {ops : Array Oper} {o : Oper} {a : Act} {w : World} {K : Act → World → Prop} {Q : Exit → Act → World → Prop} {E : Prop}
    (hg : o.guard = none) (s x : Operand) (t ty : TypeId) (hop : o.op = Op.call { callee := Callee.builtin Builtin.append, args := #[s, x], argTypes := #[t, t] }) (hty : o.type = ty)
    (v vx v' : Value) (w' : World) (hs : a.eval s = v) (hx : a.eval x = vx) (hrun : (Builtin.append_ #[t, t] ty #[v, vx]).run P w = .ok v' w')
    (hK : K (a.put o.dst v') w') : if Region.wanted o (yielded ops a.tmps) = true then Oper.wp P o a w K Q else E := by
  have hw : Region.wanted o (yielded ops a.tmps) = true := by simp [Region.wanted, hg]
  rw [if_pos hw]
  subst hty
  unfold Oper.wp
  simp [execOp, hop, resolve, invoke, builtin, hs, hx, hrun, Result.andThen]
  exact hK

/-- 'delete' likewise. -/
theorem step_delete_run {P : Program} {ops : Array Oper} {o : Oper} {a : Act} {w : World} {K : Act → World → Prop} {Q : Exit → Act → World → Prop} {E : Prop}
    (hg : o.guard = none) (s x : Operand) (t k ty : TypeId) (hop : o.op = Op.call { callee := Callee.builtin Builtin.delete, args := #[s, x], argTypes := #[t, k] }) (hty : o.type = ty)
    (v vx v' : Value) (w' : World) (hs : a.eval s = v) (hx : a.eval x = vx) (hrun : (Builtin.delete_ #[t, k] ty #[v, vx]).run P w = .ok v' w')
    (hK : K (a.put o.dst v') w') : if Region.wanted o (yielded ops a.tmps) = true then Oper.wp P o a w K Q else E := by
  have hw : Region.wanted o (yielded ops a.tmps) = true := by simp [Region.wanted, hg]
  rw [if_pos hw]
  subst hty
  unfold Oper.wp
  simp [execOp, hop, resolve, invoke, builtin, hs, hx, hrun, Result.andThen]
  exact hK

end Go.Proofs.Ybulkbdie
