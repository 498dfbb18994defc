/-
  WHAT THE WALKS ARE TOLD OF A SLICE OF INTEGERS THAT CAME IN.
-/
import Derived.WalkKit
import Derived.OpenShut
import Derived.Below
namespace Go.Proofs.Ybulkbdie
open Go.RowKit

/-- It is nil; or it leads to a row of 'cap' cells, the numbers 'zs' (the first 'len' are its elements, the rest its spare room), each fitting its kind. -/
def IsRow (k : IntKind) (w : World) (a : Option Addr) (len cap : Nat) (zs : List Int) : Prop :=
  (a = none ∧ len = 0 ∧ cap = 0 ∧ zs = []) ∨
  ∃ x, a = some x ∧ len ≤ cap ∧ cap ≤ maxLen ∧ zs.length = cap ∧ (∀ i, i < zs.length → w.cell? (x.add i) = some (.int k (zs.getD i 0))) ∧ ∀ n ∈ zs, (Lit.int k n).wf = true

/-- Where there is an element: a plain address. -/
theorem IsRow.at {k : IntKind} {w : World} {a : Option Addr} {len cap : Nat} {zs : List Int} (h : IsRow k w a len cap zs) (hl : 0 < len) :
    ∃ b off, a = some ⟨b, off, none⟩ ∧ b < w.heap.size ∧ (∀ t, t < len → w.cell? ⟨b, off + t, none⟩ = some (.int k (zs.getD t 0))) ∧ ∀ t, (Lit.int k (zs.getD t 0)).wf = true := by
  rcases h with ⟨_, h0, _⟩ | ⟨x, rfl, hlc, _, hz, hc, hw⟩
  · omega
  · obtain ⟨b, off, rfl, hc'⟩ := ints_at hc (by omega)
    refine ⟨b, off, rfl, block_lt_of_cell (hc' 0 (by omega)), fun t ht => hc' t (by omega), fun t => ?_⟩
    by_cases ht : t < zs.length
    · have := hw zs[t] (List.getElem_mem ht)
      simpa [List.getD, ht] using this
    · have e : zs.getD t 0 = 0 := by simp [List.getD, List.getElem?_eq_none (Nat.le_of_not_lt ht)]
      rw [e]
      cases k <;> decide

end Go.Proofs.Ybulkbdie
