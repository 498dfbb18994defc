/-
  A LIST OF WAITS IN MEMORY: its entries as plain data; the small functions on it.
-/
import Derived.Test.YbulkbdieUp
import Derived.WalkKit
import Derived.WalkSpells
import Derived.WalkLawsBesides
import Derived.LoopTactic
import Derived.Deep.QuietTactic
import Derived.BigQuiet
import Derived.Laws.ResultCell
namespace Go.Proofs.Ybulkbdie
open Go.RowKit

/-- AN ENTRY: the origin's low word, the message's token, the question's token, and whether it is held. -/
abbrev Ent : Type := Int × Int × Int × Bool

/-- The thirteen cells of a wait. -/
def wcells (e : Ent) : List Value := [.int .u64 0, .int .u64 0, .slice none 0 0, .int .u64 0, .int .u64 e.1, .int .u64 e.2.1, .int .u64 0, .bool false, .string ⟨#[]⟩, .int .u64 e.2.2.1, .int .i64 0, .bool false, .int .u8 0]
/-- The fifteen cells of an entry. -/
def ecells (e : Ent) : List Value := wcells e ++ [.int .i32 0, .bool e.2.2.2]
/-- An entry that was taken out. -/
def dead : Ent := (0, 0, 0, false)

theorem ecells_length (e : Ent) : (ecells e).length = 15 := rfl

theorem eflat_get : ∀ (E : List Ent) (k : Nat) (h : k < E.length) (j : Nat), j < 15 → (E.flatMap ecells)[k * 15 + j]? = (ecells E[k])[j]?
  | [], k, h, _, _ => by simp at h
  | x :: E, 0, h, j, hj => by
    rw [List.flatMap_cons, List.getElem?_append_left (by rw [ecells_length]; omega)]
    simp
  | x :: E, k + 1, h, j, hj => by
    have ih := eflat_get E k (by simpa using h) j hj
    rw [List.flatMap_cons, List.getElem?_append_right (by rw [ecells_length]; omega), ecells_length, show (k + 1) * 15 + j - 15 = k * 15 + j from by omega, ih]
    simp

theorem eflat_length (E : List Ent) : (E.flatMap ecells).length = E.length * 15 := by
  induction E with
  | nil => rfl
  | cons x E ih => rw [List.flatMap_cons, List.length_append, ih, ecells_length, List.length_cons]; omega

set_option maxHeartbeats 400000 in
theorem key_any (a b t : Int) (w : World) :
    Calls Yba.prog 60 #[.agg #[.int .u64 0, .int .u64 0, .slice none 0 0, .int .u64 0, .int .u64 a, .int .u64 b, .int .u64 0, .bool false, .string ⟨#[]⟩, .int .u64 t, .int .i64 0, .bool false, .int .u8 0]] w fun e w' => e = .returned (.int .u64 t) ∧ Below w.heap.size w w' := by
  go_enter Yba.func60, Yba.ntmps60
  go_wp2
  go_ret
  exact ⟨rfl, (Below.refl _ _).alloc (Nat.le_refl _) _⟩

set_option maxHeartbeats 400000 in
theorem len23 (eb eo : Nat) (h : Int) (w : World) (hc : w.cell? ⟨eb, eo + 2, none⟩ = some (.int .i64 h)) :
    Calls Yba.prog 23 #[.pointer (some ⟨eb, eo, none⟩)] w fun e w' => e = .returned (.int .i64 h) ∧ w' = w := by
  go_enter Yba.func23, Yba.ntmps23
  go_wp2
  go_ret
  exact ⟨rfl, rfl⟩

set_option maxHeartbeats 400000 in
theorem len13 (eb eo : Nat) (h : Int) (w : World) (hc : w.cell? ⟨eb, eo + 2, none⟩ = some (.int .i64 h)) :
    Calls Yba.prog 13 #[.pointer (some ⟨eb, eo, none⟩)] w fun e w' => e = .returned (.int .i64 h) ∧ w' = w := by
  go_enter Yba.func13, Yba.ntmps13
  go_wp2_with (go_at_call 23; refine (len23 eb eo h _ hc).mono ?_; rintro e w' ⟨rfl, rfl⟩)
  go_ret
  exact ⟨rfl, rfl⟩

set_option maxHeartbeats 400000 in
theorem name29 (a b : Int) (w : World) :
    Calls Yba.prog 29 #[.agg #[.int .u64 0, .int .u64 0, .slice none 0 0, .int .u64 0, .int .u64 a, .int .u64 b, .int .u64 0, .bool false, .string ⟨#[]⟩]] w fun e w' => e = .returned (.agg #[.int .u64 0, .int .u64 a, .int .u64 b]) ∧ Below w.heap.size w w' := by
  go_enter Yba.func29, Yba.ntmps29
  go_wp2
  exact bodyPost_ret (v := .agg #[.int .u64 0, .int .u64 a, .int .u64 b]) (by simp [results, Yba.results29, go_sem]) rfl ⟨rfl, ((Below.refl _ _).alloc (Nat.le_refl _) _).alloc (by simp) _⟩

set_option maxHeartbeats 400000 in
theorem drop_keep (eb eo : Nat) (h : Int) (w : World) (hc : w.cell? ⟨eb, eo + 2, none⟩ = some (.int .i64 h)) (h0 : 0 < h) :
    Calls Yba.prog 28 #[.pointer (some ⟨eb, eo, none⟩)] w fun e w' => e = .returned (.tuple #[]) ∧ w' = w := by
  have hb : (h == 0) = false := beq_eq_false_iff_ne.2 (by omega)
  go_enter Yba.func28, Yba.ntmps28
  go_wp2_with (go_at_call 23; refine (len23 eb eo h _ hc).mono ?_; rintro e w' ⟨rfl, rfl⟩)
  go_end0
  exact ⟨rfl, rfl⟩

set_option maxHeartbeats 400000 in
theorem drop_none (eb eo : Nat) (w : World) (hc : w.cell? ⟨eb, eo + 2, none⟩ = some (.int .i64 0)) (h3 : w.cell? ⟨eb, eo + 3, none⟩ = some (.map none)) (f3 : w.frozen? ⟨eb, eo + 3, none⟩ = false) :
    Calls Yba.prog 28 #[.pointer (some ⟨eb, eo, none⟩)] w fun e w' => e = .returned (.tuple #[]) ∧ w' = w.setCell ⟨eb, eo + 3, none⟩ (.map none) := by
  go_enter Yba.func28, Yba.ntmps28
  go_wp2_with (go_at_call 23; refine (len23 eb eo 0 _ hc).mono ?_; rintro e w' ⟨rfl, rfl⟩)
  go_end0
  exact ⟨rfl, rfl⟩

/-- The method of a wait's key, of a message's name: out of the program's tables (the method's own name is read off them). -/
theorem keyM0 (a b t : Int) (w : World) : (method 327 115 (.agg #[.int .u64 0, .int .u64 0, .slice none 0 0, .int .u64 0, .int .u64 a, .int .u64 b, .int .u64 0, .bool false, .string ⟨#[]⟩, .int .u64 t, .int .i64 0, .bool false, .int .u8 0]) ((Yba.t115.methods.toList.head?.map (·.name)).getD "")).run Yba.prog w = .ok (60, .agg #[.int .u64 0, .int .u64 0, .slice none 0 0, .int .u64 0, .int .u64 a, .int .u64 b, .int .u64 0, .bool false, .string ⟨#[]⟩, .int .u64 t, .int .i64 0, .bool false, .int .u8 0]) w := by kernel_rfl
theorem nameM0 (a b : Int) (w : World) : (method 327 108 (.agg #[.int .u64 0, .int .u64 0, .slice none 0 0, .int .u64 0, .int .u64 a, .int .u64 b, .int .u64 0, .bool false, .string ⟨#[]⟩]) ((Yba.t108.methods.toList.head?.map (·.name)).getD "")).run Yba.prog w = .ok (29, .agg #[.int .u64 0, .int .u64 0, .slice none 0 0, .int .u64 0, .int .u64 a, .int .u64 b, .int .u64 0, .bool false, .string ⟨#[]⟩]) w := by kernel_rfl

end Go.Proofs.Ybulkbdie
