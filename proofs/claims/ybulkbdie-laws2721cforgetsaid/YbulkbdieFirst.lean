/-
  (*upcalls).firstDelivery (function 17) IN TWO CONTRACTS: a name that is held; a name that is not.
-/
import Derived.Test.YbulkbdieFd
import Derived.Test.YbulkbdieFdNew
import Derived.Test.YbulkbdieFdNil
namespace Go.Proofs.Ybulkbdie
open Go.RowKit

theorem MapIs.mono {w : World} {B n n' : Nat} {L : List Nm} (h : MapIs w B n L) (hn : n ≤ n') : MapIs w B n' L := by
  obtain ⟨D, h1, h2⟩ := h
  exact ⟨D, h1.mono hn, h2⟩

/-- The map's block, laid open for 'len'. -/
theorem MapIs.block {w : World} {B n : Nat} {L : List Nm} (h : MapIs w B n L) : ∃ es clock, w.heap[B]? = some (.map es clock) ∧ es.size = L.length := by
  obtain ⟨D, ⟨es, clock, h1, _, _, rfl⟩, h2, _⟩ := h
  refine ⟨es, clock, h1, ?_⟩
  rw [← h2]
  simp [Maps.size, length_sorted]

theorem Up.mono {w : World} {ub uo : Nat} {m : Option Nat} {v : Value} {n n' : Nat} {L : List Nm} (h : Up w ub uo m v n L) (hn : n ≤ n') : Up w ub uo m v n' L :=
  ⟨h.c4, h.c5, h.f4, h.f5, (match h.set with | .inl e => .inl e | .inr ⟨B, e, hm⟩ => .inr ⟨B, e, hm.mono hn⟩), h.ord, h.okL, h.nodup, h.mne, h.vne, h.mv⟩

/-- The receiver stays what it is while what is there does. -/
theorem Up.below {w w' : World} {ub uo : Nat} {m : Option Nat} {v : Value} {n : Nat} {L : List Nm} (h : Up w ub uo m v n L) (hb : Below w.heap.size w w') : Up w' ub uo m v n L :=
  ⟨(hb.cell (p := ⟨ub, uo + 4, none⟩) h.lt).trans h.c4, (hb.cell (p := ⟨ub, uo + 5, none⟩) h.lt).trans h.c5, (hb.frozen (p := ⟨ub, uo + 4, none⟩) h.lt).trans h.f4, (hb.frozen (p := ⟨ub, uo + 5, none⟩) h.lt).trans h.f5,
    (match h.set with | .inl e => .inl e | .inr ⟨B, e, hm⟩ => .inr ⟨B, e, hm.kept (hb.block B hm.lt)⟩), h.ord.kept hb.size (fun g hg => hb.block g (h.ord.lt hg)), h.okL, h.nodup, h.mne, h.vne, h.mv⟩

theorem fd_held {w : World} {ub uo : Nat} {m : Option Nat} {v : Value} {n : Nat} {L : List Nm} (hU : Up w ub uo m v n L) (a b c : Int) (hx : okN (a, b, c)) (hin : (a, b, c) ∈ L) :
    Calls Yba.prog 17 #[.pointer (some ⟨ub, uo, none⟩), .agg #[.int .u64 a, .int .u64 b, .int .u64 c]] w fun e w' => e = .returned (.bool false) ∧ Below w.heap.size w w' := by
  rcases hU.set with ⟨_, h⟩ | ⟨B, rfl, hM⟩
  · subst h; simp at hin
  · exact fd_old ub uo B n L a b c w hx hin hU.c4 hM

theorem fd_fresh {w : World} {ub uo : Nat} {m : Option Nat} {v : Value} {n : Nat} {L : List Nm} (hU : Up w ub uo m v n L) (a b c : Int) (hx : okN (a, b, c)) (hnew : (a, b, c) ∉ L) (hlen : L.length ≤ 1024) (hn : n ≤ 100000) :
    Calls Yba.prog 17 #[.pointer (some ⟨ub, uo, none⟩), .agg #[.int .u64 a, .int .u64 b, .int .u64 c]] w fun e w' => e = .returned (.bool true) ∧
      ∃ m' v', Up w' ub uo m' v' (n + 1) (win (L ++ [(a, b, c)])) ∧ Fr w w' ub uo m v ∧ (∀ B, m' = some B → m = some B ∨ w.heap.size ≤ B) ∧ ∀ g, v'.ownBlock = some g → v.ownBlock = some g ∨ w.heap.size ≤ g := by
  rcases hU.set with ⟨rfl, rfl⟩ | ⟨B, rfl, hM⟩
  · refine (fd_new_nil ub uo n v a b c w hU hx).mono ?_
    rintro e w' ⟨he, v', h1, h2, h3⟩
    refine ⟨he, some (w.heap.size + 1), v', ?_, h2, fun B e => .inr (by have := Option.some.inj e; omega), h3⟩
    rw [List.nil_append, win_small _ (by simp)]
    exact h1.mono (by omega)
  · refine (fd_new_some ub uo B n L v a b c w hU hx hnew hlen hn).mono ?_
    rintro e w' ⟨he, v', h1, h2, h3⟩
    exact ⟨he, _, v', h1, h2, fun B e => .inl e, h3⟩

end Go.Proofs.Ybulkbdie
