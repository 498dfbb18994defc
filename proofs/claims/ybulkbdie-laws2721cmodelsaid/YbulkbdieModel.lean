/-
  THE WALK OVER ringleaf.LawS2721CModel (function 6).
-/
import Derived.Test.YbulkbdieFirst
import Derived.Test.YbulkbdieSl
import Derived.Test.YbulkbdieArgs
namespace Go.Proofs.Ybulkbdie
open Go.RowKit

/-- 'append' AT A PLAIN REGION's LIST, its run given. -/
theorem wpList_append_run {P : Program} {w : World} {ops : Array Oper} {rest : List Oper} {o : Oper} {a : Act} {Q : Exit → Act → World → Prop}
    (hg : o.guard = none) (s x : Operand) (t ty : TypeId) (hop : o.op = Op.call { callee := Callee.builtin Builtin.append, args := #[s, x], argTypes := #[t, t] }) (hty : o.type = ty)
    (v vx v' : Value) (w' : World) (hs : a.eval s = v) (hx : a.eval x = vx) (hrun : (Builtin.append_ #[t, t] ty #[v, vx]).run P w = .ok v' w')
    (hK : wpList P ops Q rest (a.put o.dst v') w') : wpList P ops Q (o :: rest) a w := by
  refine wpList_plain hg fun K hK' => ?_
  subst hty
  unfold Oper.wp
  simp [execOp, hop, resolve, invoke, builtin, hs, hx, hrun, Result.andThen]
  exact hK' _ _ hK

/-- The receiver stays what it is while none of its blocks is written. -/
theorem Up.grown {w w' : World} {ub uo : Nat} {m : Option Nat} {v : Value} {n : Nat} {L : List Nm} {row : Option Nat} (h : Up w ub uo m v n L) (hg : w.grownBy w' row) (h1 : some ub ≠ row) (h2 : ∀ B, m = some B → some B ≠ row) (h3 : ∀ g, v.ownBlock = some g → some g ≠ row) : Up w' ub uo m v n L := by
  have e := hg.block ub h.lt h1
  exact ⟨(World.cell?_of_block (a := ⟨ub, uo + 4, none⟩) e).trans h.c4, (World.cell?_of_block (a := ⟨ub, uo + 5, none⟩) e).trans h.c5, (World.frozen?_of_block (a := ⟨ub, uo + 4, none⟩) e).trans h.f4, (World.frozen?_of_block (a := ⟨ub, uo + 5, none⟩) e).trans h.f5,
    (match h.set with | .inl e => .inl e | .inr ⟨B, e', hm⟩ => .inr ⟨B, e', hm.grown hg (h2 B e')⟩), h.ord.grown hg h3, h.okL, h.nodup, h.mne, h.vne, h.mv⟩

theorem Up.drew {w : World} {ub uo : Nat} {m : Option Nat} {v : Value} {n : Nat} {L : List Nm} (h : Up w ub uo m v n L) : Up w.drew ub uo m v n L := h.below ⟨rfl, rfl, rfl, Nat.le_refl _, fun _ _ => rfl⟩
theorem Up.alloc {w : World} {ub uo : Nat} {m : Option Nat} {v : Value} {n : Nat} {L : List Nm} (h : Up w ub uo m v n L) (o : Obj) : Up (w.alloc o) ub uo m v n L := h.below ((Below.refl _ _).alloc (Nat.le_refl _) o)

theorem Mid.below {w w' : World} {size : Nat} {v : Value} {n : Nat} {xs : List Value} (h : Mid w size v n xs) (hb : Below w.heap.size w w') : Mid w' size v n xs := h.kept hb.size (fun g hg => hb.block g (h.lt hg))

theorem Mid.form {w : World} {size : Nat} {v : Value} {n : Nat} {xs : List Value} (h : Mid w size v n xs) : ∃ ao cp, v = .slice ao n cp ∧ n ≤ cp := by
  rcases h.2 with ⟨rfl, rfl⟩ | ⟨g, o, cap, rfl, hc, _⟩
  · exact ⟨_, _, rfl, Nat.le_refl _⟩
  · exact ⟨_, _, rfl, hc⟩

/-- WHAT HOLDS AT EACH ROUND's HEAD: the receiver and the law's own model hold the same window, in memory of their own. -/
structure St (w wr : World) (m : Option Nat) (v mv : Value) (k : Nat) (L : List Nm) : Prop where
  up : Up wr w.heap.size 0 m v k L
  mo : Mid wr 3 mv L.length (L.flatMap cellsN)
  len : L.length ≤ 1024
  bel : Below w.heap.size w wr
  mB : ∀ B, m = some B → w.heap.size ≤ B
  vB : ∀ g, v.ownBlock = some g → w.heap.size ≤ g
  moB : ∀ g, mv.ownBlock = some g → w.heap.size < g
  sepm : ∀ g, mv.ownBlock = some g → m ≠ some g
  sepv : ∀ g, mv.ownBlock = some g → v.ownBlock ≠ some g

theorem St.below {w wr w' : World} {m : Option Nat} {v mv : Value} {k : Nat} {L : List Nm} (h : St w wr m v mv k L) (hb : Below wr.heap.size wr w') : St w w' m v mv k L :=
  ⟨h.up.below hb, h.mo.below hb, h.len, h.bel.trans (hb.mono h.bel.size), h.mB, h.vB, h.moB, h.sepm, h.sepv⟩

/-- Where a name is held the map is there. -/
theorem St.map {w wr : World} {m : Option Nat} {v mv : Value} {k : Nat} {L : List Nm} (h : St w wr m v mv k L) (hL : L ≠ []) : ∃ B, m = some B ∧ (Builtin.len_ #[43] 3 #[.map (some B)]).run Yba.prog wr = .ok (.int .i64 L.length) wr := by
  rcases h.up.set with ⟨_, e⟩ | ⟨B, e, hM⟩
  · exact absurd e hL
  · exact ⟨B, e, hM.len 3⟩

/-- THE LAW's OWN MODEL GROWS BY A NAME. -/
theorem St.push {w wr : World} {m : Option Nat} {v : Value} {ao : Option Addr} {cp k : Nat} {L : List Nm} (h : St w wr m v (.slice ao L.length cp) k L) (x : Nm) (i : TypeInfo) (hi : Yba.prog.info? 42 = some i) (hz0 : i.zero = some (.agg #[.int .u64 0, .int .u64 0, .int .u64 0])) (hz1 : i.size = 3) (hz2 : i.bytes = 24) :
    ∃ g o cap w', (Builtin.append_ #[47, 47] 47 #[.slice ao L.length cp, .slice (some ⟨wr.heap.size, 0, none⟩) 1 1]).run Yba.prog (wr.alloc (.cells #[.int .u64 x.1, .int .u64 x.2.1, .int .u64 x.2.2] 42)) = .ok (.slice (some ⟨g, o, none⟩) (L.length + 1) cap) w' ∧
      Mid w' 3 (.slice (some ⟨g, o, none⟩) (L.length + 1) cap) (L.length + 1) ((L ++ [x]).flatMap cellsN) ∧ L.length + 1 ≤ cap ∧ Up w' w.heap.size 0 m v k L ∧ Below w.heap.size w w' ∧ wr.heap.size < w'.heap.size ∧
      w.heap.size < g ∧ m ≠ some g ∧ v.ownBlock ≠ some g ∧ ∀ a : Addr, a.block < wr.heap.size → (Value.slice ao L.length cp).ownBlock ≠ some a.block → w'.cell? a = wr.cell? a := by
  have hlen := h.len
  have hmo := h.mo.alloc (.cells #[.int .u64 x.1, .int .u64 x.2.1, .int .u64 x.2.2] 42)
  obtain ⟨g, o, cap, w', hrun, hM, hloc, hg⟩ := hmo.append (P := Yba.prog) 47 47 42 i _ 24 Yba.underlying47 hi hz0 hz1 hz2 rfl (by omega) ⟨wr.heap.size, 0, none⟩ 1 (cellsN x) rfl (by
    intro j u hj
    match j, hj with
    | 0, hj => simp [cellsN] at hj; subst hj; simp [Addr.add]
    | 1, hj => simp [cellsN] at hj; subst hj; simp [Addr.add]
    | 2, hj => simp [cellsN] at hj; subst hj; simp [Addr.add]
    | j + 3, hj => simp [cellsN] at hj) (by intro u hu; simp [cellsN] at hu; rcases hu with rfl | rfl | rfl <;> rfl) (by unfold maxLen; omega) (by omega)
  have hws := h.up.lt
  have hcap : L.length + 1 ≤ cap := by
    rcases hM.2 with ⟨e, _⟩ | ⟨_, _, _, e, h', _⟩
    · cases e
    · cases e; exact h'
  refine ⟨g, o, cap, w', hrun, ?_, hcap, ?_, ?_, ?_, ?_, ?_, ?_, fun a ha hne => ?_⟩
  · rw [List.flatMap_append]
    simpa using hM
  · refine (h.up.alloc _).grown hg (fun e => ?_) (fun B e e' => ?_) (fun g' e e' => ?_)
    · have := h.moB _ e.symm; omega
    · exact h.sepm _ e'.symm e
    · exact h.sepv _ e'.symm e
  · exact (h.bel.alloc h.bel.size _).grown hg (by have := h.bel.size; simp; omega) (fun k' e => Nat.le_of_lt (h.moB k' e))
  · have := hg.size; simp at this; omega
  · rcases hloc with e | e
    · exact h.moB g e
    · simp at e; omega
  · rcases hloc with e | e
    · exact h.sepm g e
    · intro e'
      have hB : g < wr.heap.size := by
        rcases h.up.set with ⟨e'', _⟩ | ⟨B, e'', hm⟩
        · rw [e''] at e'; cases e'
        · rw [e''] at e'; cases e'; exact hm.lt
      simp at e; omega
  · rcases hloc with e | e
    · exact h.sepv g e
    · intro e'
      have := h.up.ord.lt e'
      simp at e; omega
  · exact (World.cell?_of_block (hg.block a.block (by simp; omega) (fun e => hne e.symm))).trans (World.cell?_alloc_lt wr _ a ha)

theorem St.mono {w wr : World} {m : Option Nat} {v mv : Value} {k k' : Nat} {L : List Nm} (h : St w wr m v mv k L) (hk : k ≤ k') : St w wr m v mv k' L :=
  ⟨h.up.mono hk, h.mo, h.len, h.bel, h.mB, h.vB, h.moB, h.sepm, h.sepv⟩

/-- BEHIND firstDelivery THE TWO HOLD THE SAME WINDOW AGAIN. -/
theorem St.after {w w1 w2 : World} {m m' : Option Nat} {v v' mv : Value} {k n : Nat} {L' : List Nm} (hmo : Mid w1 3 mv L'.length (L'.flatMap cellsN)) (hlen : L'.length ≤ 1024) (hb : Below w.heap.size w w1) (hlt : w.heap.size < w1.heap.size)
    (hU : Up w2 w.heap.size 0 m' v' n L') (hF : Fr w1 w2 w.heap.size 0 m v) (hm' : ∀ B, m' = some B → m = some B ∨ w1.heap.size ≤ B) (hv' : ∀ g, v'.ownBlock = some g → v.ownBlock = some g ∨ w1.heap.size ≤ g)
    (mB : ∀ B, m = some B → w.heap.size ≤ B) (vB : ∀ g, v.ownBlock = some g → w.heap.size ≤ g) (moB : ∀ g, mv.ownBlock = some g → w.heap.size < g) (sepm : ∀ g, mv.ownBlock = some g → m ≠ some g) (sepv : ∀ g, mv.ownBlock = some g → v.ownBlock ≠ some g) (hk : n = k + 1) : St w w2 m' v' mv (k + 1) L' := by
  subst hk
  refine ⟨hU, hmo.kept hF.size (fun g e => hF.block g (hmo.lt e) (by have := moB g e; omega) (sepm g e) (sepv g e)), hlen, hb.trans (hF.below (Nat.le_refl _) hlt mB vB), fun B e => (hm' B e).elim (mB B) (fun h => by omega), fun g e => (hv' g e).elim (vB g) (fun h => by omega), moB, fun g e e' => ?_, fun g e e' => ?_⟩
  · rcases hm' g e' with h | h
    · exact sepm g e h
    · have := hmo.lt e; omega
  · rcases hv' g e' with h | h
    · exact sepv g e h
    · have := hmo.lt e; omega

end Go.Proofs.Ybulkbdie
