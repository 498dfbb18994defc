/-
  NAMES OF MESSAGES AS KEYS; A MAP OF NAMES (map[messageName]bool, type 43) THAT HOLDS JUST THE NAMES OF A LIST, each true.
-/
import Derived.Test.YbulkbdieProg
import Derived.Maps.OwnSet
import Derived.DeepKeys4
import Derived.KernelRfl
namespace Go.Proofs.Ybulkbdie
open Go.Maps

/-- A message's name: the origin's two words, the token. -/
abbrev Nm : Type := Int × Int × Int

/-- Each word fits its kind. -/
def okN (x : Nm) : Prop := (Lit.int .u64 x.1).wf = true ∧ (Lit.int .u64 x.2.1).wf = true ∧ (Lit.int .u64 x.2.2).wf = true

def cellsN (x : Nm) : List Value := [.int .u64 x.1, .int .u64 x.2.1, .int .u64 x.2.2]
def valN (x : Nm) : Value := .agg #[.int .u64 x.1, .int .u64 x.2.1, .int .u64 x.2.2]

theorem laidOut : laidOutB Yba.prog = true := by kernel_rfl
theorem row42 : (42 : TypeId) < Yba.prog.types.size := of_decide_eq_true (by kernel_rfl)
theorem wide42 : (match Yba.prog.underlying 42 with | some (.array _ _) | some (.struct _) => true | _ => false) = true := by kernel_rfl
theorem deep42 : Yba.prog.keyTypeAt 3 42 = true := by kernel_rfl
set_option maxRecDepth 100000 in
theorem law42 : Keyed Yba.prog 42 := Keyed.of_law (deep_law_laid laidOut (m := 3) (by omega) row42 deep42 wide42)
theorem cells42 : Yba.prog.cellsOf 42 = 3 := by kernel_rfl
theorem cells40 : Yba.prog.cellsOf 40 = 2 := by kernel_rfl
theorem cells32 : Yba.prog.cellsOf 32 = 1 := by kernel_rfl
theorem keyType42 : Yba.prog.keyType 42 = true := by kernel_rfl
theorem zero4 (w : World) : (zeroValue 4).run Yba.prog w = .ok (.bool false) w := by kernel_rfl

theorem lits42 (x : Nm) (h : okN x) (n : Nat) : Yba.prog.keyLits (n + 3) 42 (cellsN x) = some [.int .u64 x.1, .int .u64 x.2.1, .int .u64 x.2.2] := by
  obtain ⟨h0, h1, h2⟩ := h
  simp [Program.keyLits, Yba.underlying42, Yba.underlying40, Yba.underlying32, cells42, cells40, cells32, cellsN, h0, h1, h2]
  rw [if_pos (by decide)]
  rfl

/-- WHAT A NAME READS AS, AS A KEY. -/
theorem key_ex (x : Nm) (h : okN x) : ∃ l, keyOf Yba.prog 42 (valN x) = some l := by
  have hf : (valN x).formed Yba.prog 42 = true := by
    simp [valN, Value.formed, Yba.underlying42, cells42]
  have hc : (valN x).cells.toList = cellsN x := rfl
  have hk := lits42 x h 225
  refine ⟨.string (keyBytes [.int .u64 x.1, .int .u64 x.2.1, .int .u64 x.2.2]), ?_⟩
  unfold keyOf
  rw [Yba.underlying42]
  simp [keyType42, hf, hc]
  exact ⟨_, hk, rfl⟩

theorem key_inj {x y : Nm} {l : Lit} (hx : keyOf Yba.prog 42 (valN x) = some l) (hy : keyOf Yba.prog 42 (valN y) = some l) : x = y := by
  have e := law42.inj hx hy
  obtain ⟨a, b, c⟩ := x
  obtain ⟨a', b', c'⟩ := y
  simp [valN] at e
  simp [e]

theorem plainElem_bool_inv {H : Type} {P : Program} {e : TypeId} (he : P.underlying e = some .bool) {v : Value} {b : Bool} {ps : List MemPlace} (h : plainElem (H := H) P e v = some (.lit (.bool b), ps)) : v = .bool b := by
  unfold plainElem at h
  rw [he] at h
  cases v <;> simp at h
  rw [h.1]

/-- BLOCK B IS A MAP THAT HOLDS JUST THE NAMES OF L, each true. -/
def MapIs (w : World) (B n : Nat) (L : List Nm) : Prop :=
  ∃ D : DataW Unit, w.ownsMap Yba.prog 42 (plainElem Yba.prog 4) B n D ∧ Maps.size D = L.length ∧
    ∀ x l, keyOf Yba.prog 42 (valN x) = some l → D.atKey l (.lit (.bool false)) = .lit (.bool (decide (x ∈ L))) ∧ Maps.has D l = decide (x ∈ L)

theorem MapIs.made (w : World) : MapIs (w.alloc (.map #[] 0)) w.heap.size 0 [] :=
  ⟨.map [], World.ownsMap_made w _ _ _, rfl, fun x l _ => ⟨by simp [DataW.atKey], by simp [Maps.has]⟩⟩

theorem MapIs.lt {w : World} {B n : Nat} {L : List Nm} (h : MapIs w B n L) : B < w.heap.size := by
  obtain ⟨D, h1, _⟩ := h
  exact h1.lt

theorem MapIs.kept {w w' : World} {B n : Nat} {L : List Nm} (h : MapIs w B n L) (hb : w'.heap[B]? = w.heap[B]?) : MapIs w' B n L := by
  obtain ⟨D, ⟨es, clock, h1, h2⟩, h3⟩ := h
  exact ⟨D, ⟨es, clock, hb.trans h1, h2⟩, h3⟩

theorem MapIs.look {w : World} {B n : Nat} {L : List Nm} (h : MapIs w B n L) (x : Nm) (hx : okN x) :
    (Instr.lookup 43 (.map (some B)) (valN x) false).run Yba.prog w = .ok (.bool (decide (x ∈ L))) w := by
  obtain ⟨D, h1, _, h3⟩ := h
  obtain ⟨l, hl⟩ := key_ex x hx
  obtain ⟨v, ps, hrun, hv⟩ := h1.lookup law42 Yba.underlying43 (zero4 w) (plainElem_bool Yba.underlying4 false) hl
  rw [(h3 x l hl).1] at hv
  rw [hrun, plainElem_bool_inv Yba.underlying4 hv]

theorem look_nil (w : World) (x : Nm) (hx : okN x) : (Instr.lookup 43 (.map none) (valN x) false).run Yba.prog w = .ok (.bool false) w := by
  obtain ⟨l, hl⟩ := key_ex x hx
  exact Maps.look_nil false law42 Yba.underlying43 (zero4 w) hl

theorem MapIs.put {w : World} {B n : Nat} {L : List Nm} (h : MapIs w B n L) (hn : n < maxLen) (x : Nm) (hx : okN x) (hnew : x ∉ L) :
    ∃ w', (Instr.mapUpdate 43 (.map (some B)) (valN x) (.bool true)).run Yba.prog w = .ok () w' ∧ MapIs w' B (n + 1) (L ++ [x]) ∧ w.grownBy w' (some B) := by
  obtain ⟨D, h1, h2, h3⟩ := h
  obtain ⟨l, hl⟩ := key_ex x hx
  obtain ⟨w', hrun, hown, hg⟩ := h1.update law42 Yba.underlying43 hn hl (plainElem_bool Yba.underlying4 true)
  refine ⟨w', hrun, ⟨_, hown, ?_, fun y m hm => ?_⟩, hg⟩
  · rw [size_put (h1.tidy law42), (h3 x l hl).2]
    simp [hnew, h2]
  · by_cases e : y = x
    · subst e
      obtain rfl : m = l := Option.some.inj (hm.symm.trans hl)
      rw [atKey_put_same h1.isMap (law42.key hl), has_put_same h1.isMap (law42.key hl)]
      simp
    · have hne : m ≠ l := fun e' => e (key_inj hm (e' ▸ hl))
      rw [atKey_put_other hne, has_put_other hne, (h3 y m hm).1, (h3 y m hm).2]
      simp [e]

theorem MapIs.del {w : World} {B n : Nat} {L : List Nm} {x : Nm} (h : MapIs w B n (x :: L)) (hx : okN x) (hnew : x ∉ L) (ty : TypeId) :
    ∃ w', (Builtin.delete_ #[43, 42] ty #[.map (some B), valN x]).run Yba.prog w = .ok (.tuple #[]) w' ∧ MapIs w' B n L ∧ w.grownBy w' (some B) := by
  obtain ⟨D, h1, h2, h3⟩ := h
  obtain ⟨l, hl⟩ := key_ex x hx
  obtain ⟨w', hrun, hown, hg⟩ := h1.drop law42 Yba.underlying43 hl ty
  refine ⟨w', hrun, ⟨_, hown, ?_, fun y m hm => ?_⟩, hg.grown⟩
  · have := size_del (D := D) (k := l) (h1.tidy law42)
    rw [(h3 x l hl).2] at this
    simp at this h2
    omega
  · by_cases e : y = x
    · subst e
      obtain rfl : m = l := Option.some.inj (hm.symm.trans hl)
      rw [atKey_del_same, has_del_same]
      simp [hnew]
    · have hne : m ≠ l := fun e' => e (key_inj hm (e' ▸ hl))
      rw [atKey_del_other hne, has_del_other hne, (h3 y m hm).1, (h3 y m hm).2]
      simp [e]

theorem MapIs.len {w : World} {B n : Nat} {L : List Nm} (h : MapIs w B n L) (ty : TypeId) : (Builtin.len_ #[43] ty #[.map (some B)]).run Yba.prog w = .ok (.int .i64 L.length) w := by
  obtain ⟨D, h1, h2, _⟩ := h
  rw [h1.len Yba.underlying43 ty, h2]

end Go.Proofs.Ybulkbdie
