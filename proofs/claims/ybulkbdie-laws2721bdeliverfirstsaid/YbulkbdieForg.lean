/-
  THE WALKS OVER (*confirmations).forget (27), (*waitList).empty (32), (*waitList).first on an empty list (14).
-/
import Derived.Test.YbulkbdieOut
namespace Go.Proofs.Ybulkbdie
open Go.RowKit

/-- An entry whose words are small. -/
def okE (x : Ent) : Prop := (0 ≤ x.1 ∧ x.1 ≤ 4096) ∧ 0 ≤ x.2.1 ∧ x.2.1 ≤ 4096

theorem okE.name {x : Ent} (h : okE x) : okN (0, x.1, x.2.1) := by
  obtain ⟨⟨h1, h2⟩, h3, h4⟩ := h
  refine ⟨(by decide : (Lit.int .u64 0).wf = true), ?_, ?_⟩ <;> (simp [Lit.wf, IntKind.min, IntKind.max, IntKind.signed, IntKind.bits]; omega)

theorem okE_dead : okE dead := ⟨by decide, by decide⟩

theorem del_nil52 (x : Ent) (h : okE x) (w : World) : (Builtin.delete_ #[52, 42] 0 #[.map none, .agg #[.int .u64 0, .int .u64 x.1, .int .u64 x.2.1]]).run Yba.prog w = .ok (.tuple #[]) w := by
  obtain ⟨l, hl⟩ := key_ex _ h.name
  exact Maps.drop_nil law42 Yba.underlying52 hl 0

set_option maxHeartbeats 4000000 in
set_option maxRecDepth 100000 in
theorem forg_walk (eb eo g o : Nat) (x : Ent) (w : World) (hx : okE x) (c3 : w.cell? ⟨eb, eo + 3, none⟩ = some (.map none)) (cell : ∀ j, j < 9 → ∀ v, (wcells x)[j]? = some v → w.cell? ⟨g, o + j, none⟩ = some v) :
    Calls Yba.prog 27 #[.pointer (some ⟨eb, eo, none⟩), .pointer (some ⟨g, o, none⟩)] w fun e w' => e = .returned (.tuple #[]) ∧ Below w.heap.size w w' := by
  have hdel := del_nil52 x hx
  obtain ⟨a, b, t, hd⟩ := x
  simp only at hdel
  have e0 := cell 0 (by omega) _ rfl
  have e1 := cell 1 (by omega) _ rfl
  have e2 := cell 2 (by omega) _ rfl
  have e3 := cell 3 (by omega) _ rfl
  have e4 := cell 4 (by omega) _ rfl
  have e5 := cell 5 (by omega) _ rfl
  have e6 := cell 6 (by omega) _ rfl
  have e7 := cell 7 (by omega) _ rfl
  have e8 := cell 8 (by omega) _ rfl
  simp only [Nat.add_zero] at e0 e4 e5
  have heb : eb < w.heap.size := World.block_lt_of_cell? _ _ c3
  have hgb : g < w.heap.size := World.block_lt_of_cell? _ _ e0
  have hmt := nameM0 a b
  simp only [Yba.t108, List.head?_cons, Option.map_some, Option.getD_some] at hmt
  clear cell hx
  go_enter Yba.func27, Yba.ntmps27
  go_region_held3 (fun w' => w'.cell? ⟨eb, eo + 3, none⟩ = some (.map none) ∧ w'.cell? ⟨g, o, none⟩ = some (.int .u64 0) ∧ w'.cell? ⟨g, o + 1, none⟩ = some (.int .u64 0) ∧ w'.cell? ⟨g, o + 2, none⟩ = some (.slice none 0 0) ∧ w'.cell? ⟨g, o + 3, none⟩ = some (.int .u64 0) ∧ w'.cell? ⟨g, o + 4, none⟩ = some (.int .u64 a) ∧ w'.cell? ⟨g, o + 5, none⟩ = some (.int .u64 b) ∧ w'.cell? ⟨g, o + 6, none⟩ = some (.int .u64 0) ∧ w'.cell? ⟨g, o + 7, none⟩ = some (.bool false) ∧ w'.cell? ⟨g, o + 8, none⟩ = some (.string ⟨#[]⟩)) (first | go_keep | exact ⟨(hb1.cell (p := ⟨eb, eo + 3, none⟩) heb).trans c3, (hb1.cell (p := ⟨g, o, none⟩) hgb).trans e0, (hb1.cell (p := ⟨g, o + 1, none⟩) hgb).trans e1, (hb1.cell (p := ⟨g, o + 2, none⟩) hgb).trans e2, (hb1.cell (p := ⟨g, o + 3, none⟩) hgb).trans e3, (hb1.cell (p := ⟨g, o + 4, none⟩) hgb).trans e4, (hb1.cell (p := ⟨g, o + 5, none⟩) hgb).trans e5, (hb1.cell (p := ⟨g, o + 6, none⟩) hgb).trans e6, (hb1.cell (p := ⟨g, o + 7, none⟩) hgb).trans e7, (hb1.cell (p := ⟨g, o + 8, none⟩) hgb).trans e8⟩) (first | (refine step_delete_run rfl (.tmp 7) (.tmp 13) 52 42 0 rfl rfl _ _ _ _ rfl rfl (hdel _) ?_) | (go_at_call 29; refine (name29 a b _).mono ?_; rintro e w1 ⟨rfl, hb1⟩))
  go_end0
  exact ⟨rfl, ⟨hb1.os, hb1.tape, hb1.output, hb1.size, hb1.block⟩⟩

end Go.Proofs.Ybulkbdie
