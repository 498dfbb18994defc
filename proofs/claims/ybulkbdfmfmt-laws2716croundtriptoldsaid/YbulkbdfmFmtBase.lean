/-
  WHAT THE WALKS ARE TOLD OF A SLICE OF BYTES, and the plain function that vpn.elementSize computes.
-/
import Derived.WalkKit
import Derived.ProofKit
import Derived.OpenShut
import Derived.Below
namespace Go.Proofs.YbulkbdfmFmt
open Go.RowKit

/-- A SLICE OF INTEGERS THAT CAME IN: it is nil; or it leads to a row of 'cap' cells, the numbers 'zs' (the first 'len' are its elements, the rest its spare room), each fitting its kind. -/
def IsRow (k : IntKind) (w : World) (a : Option Addr) (len cap : Nat) (zs : List Int) : Prop :=
  (a = none ∧ len = 0 ∧ cap = 0 ∧ zs = []) ∨
  ∃ x, a = some x ∧ len ≤ cap ∧ cap ≤ maxLen ∧ zs.length = cap ∧ (∀ i, i < zs.length → w.cell? (x.add i) = some (.int k (zs.getD i 0))) ∧ ∀ n ∈ zs, (Lit.int k n).wf = true

/-- A SLICE OF BYTES, ITS ELEMENTS THE NUMBERS 'A'. -/
structure Sl (w : World) (a : Option Addr) (len cap : Nat) (A : List Int) : Prop where
  hlen : A.length = len
  fits : len ≤ cap
  room : cap ≤ maxLen
  nil : a = none → len = 0 ∧ cap = 0
  cells : ∀ x, a = some x → ∀ t, t < len → w.cell? (x.add t) = some (.int .u8 (A.getD t 0))
  bytes : ∀ n ∈ A, 0 ≤ n ∧ n ≤ 255

theorem IsRow.sl {w : World} {a : Option Addr} {len cap : Nat} {zs : List Int} (h : IsRow .u8 w a len cap zs) : Sl w a len cap (zs.take len) := by
  rcases h with ⟨rfl, rfl, rfl, rfl⟩ | ⟨x, rfl, hl, hm, hz, hc, hw⟩
  · exact ⟨rfl, Nat.le_refl _, by simp [maxLen], fun _ => ⟨rfl, rfl⟩, fun x h => (by cases h), fun n hn => (by simp at hn)⟩
  · refine ⟨by simp; omega, hl, hm, fun h => (by cases h), ?_, ?_⟩
    · intro y hy t ht
      cases hy
      rw [hc t (by omega)]
      simp [List.getD, ht]
    · intro n hn
      have := hw n (List.mem_of_mem_take hn)
      simpa using bounds_u8 this

theorem Sl.byte {w : World} {a : Option Addr} {len cap : Nat} {A : List Int} (h : Sl w a len cap A) (t : Nat) : 0 ≤ A.getD t 0 ∧ A.getD t 0 ≤ 255 := by
  by_cases ht : t < A.length
  · have := h.bytes A[t] (List.getElem_mem ht)
    simpa [List.getD, ht] using this
  · simp [List.getD, List.getElem?_eq_none (Nat.le_of_not_lt ht)]

theorem Sl.below {w w' : World} {a : Option Addr} {len cap : Nat} {A : List Int} (h : Sl w a len cap A) (hb : Below w.heap.size w w') : Sl w' a len cap A :=
  ⟨h.hlen, h.fits, h.room, h.nil, fun x hx t ht => by
    have hc := h.cells x hx t ht
    rw [hb.cell (block_lt_of_cell hc)]
    exact hc, h.bytes⟩

theorem Sl.at {w : World} {x : Addr} {len cap : Nat} {A : List Int} (h : Sl w (some x) len cap A) (hl : 0 < len) :
    ∃ b off, x = ⟨b, off, none⟩ ∧ ∀ t, t < len → w.cell? ⟨b, off + t, none⟩ = some (.int .u8 (A.getD t 0)) := by
  have hc := h.cells x rfl
  obtain ⟨b, off, rfl, hc'⟩ := ints_at (w := w) (a := x) (k := .u8) (zs := A) (fun i hi => hc i (by rw [← h.hlen]; exact hi)) (by rw [h.hlen]; exact hl)
  exact ⟨b, off, rfl, fun t ht => hc' t (by rw [h.hlen]; exact ht)⟩

/-- What elementSize computes: the number, and whether there is no error. -/
def esN : List Int → Int
  | [] => 0
  | z :: r => if 128 ≤ z then 1 else
    match r with
    | [] => 0
    | y :: _ => if (r.length : Int) - 1 < y then 0 else 2 + y

def esOk : List Int → Bool
  | [] => false
  | z :: r => if 128 ≤ z then true else
    match r with
    | [] => false
    | y :: _ => if (r.length : Int) - 1 < y then false else true

end Go.Proofs.YbulkbdfmFmt
