/-
  THE WALK OVER ringleaf.LawS2721CForget (function 7).
-/
import Derived.Test.YbulkbdieFirst
import Derived.LoopTactic
import Derived.OpenShut
namespace Go.Proofs.Ybulkbdie
open Go.RowKit

/-! ### the names that the law hands in, and the window over them -/
def nmOf (origin : Int) (t : Nat) : Nm := (origin, 7, (t : Int))
/-- The names held behind the first k calls. -/
def held (origin : Int) (k : Nat) : List Nm := (List.range' (k - 1024) (min k 1024)).map (nmOf origin)

theorem held_length (origin : Int) (k : Nat) : (held origin k).length = min k 1024 := by simp [held]

theorem mem_held (origin : Int) (k t : Nat) : nmOf origin t ∈ held origin k ↔ k - 1024 ≤ t ∧ t < k := by
  simp only [held, List.mem_map, List.mem_range', nmOf, Prod.mk.injEq, true_and]
  constructor
  · rintro ⟨a, ⟨i, hi, rfl⟩, e⟩
    have : (k - 1024 + 1 * i) = t := by omega
    omega
  · intro h
    exact ⟨t, ⟨t - (k - 1024), by omega, by omega⟩, rfl⟩

theorem held_step (origin : Int) (k : Nat) : win (held origin k ++ [nmOf origin k]) = held origin (k + 1) := by
  by_cases h : k < 1024
  · rw [win_small _ (by simp [held_length]; omega)]
    unfold held
    rw [show k - 1024 = 0 from by omega, show k + 1 - 1024 = 0 from by omega, show min k 1024 = k from by omega, show min (k + 1) 1024 = k + 1 from by omega, List.range'_concat]
    simp
  · have e1 : held origin k = nmOf origin (k - 1024) :: (List.range' (k - 1024 + 1) 1023).map (nmOf origin) := by
      unfold held
      rw [show min k 1024 = 1023 + 1 from by omega, List.range'_succ]
      simp
    rw [e1, List.cons_append, win_big _ _ (by simp)]
    unfold held
    have e2 := List.range'_concat (s := k - 1024 + 1) (n := 1023) (step := 1)
    rw [show k - 1024 + 1 + 1 * 1023 = k from by omega] at e2
    rw [show min (k + 1) 1024 = 1023 + 1 from by omega, show k + 1 - 1024 = k - 1024 + 1 from by omega, e2, List.map_append]
    rfl

theorem free_new (w : World) (cs : Array Value) (t : TypeId) (o : Nat) : (w.alloc (.cells cs t)).frozen? ⟨w.heap.size, o, none⟩ = false := by
  unfold World.frozen?
  rw [heap_alloc_new]
  simp

theorem okN_of (origin : Int) (t : Nat) (ho : (Lit.int .u64 origin).wf = true) (ht : t ≤ 100000) : okN (nmOf origin t) := by
  refine ⟨ho, (by decide : (Lit.int .u64 7).wf = true), ?_⟩
  simp [nmOf, Lit.wf, IntKind.min, IntKind.max, IntKind.signed, IntKind.bits]
  omega

theorem wrap_small (j : Nat) (h : j ≤ 100000) : IntKind.u64.wrap (j : Int) = j := by
  simp [IntKind.wrap, IntKind.bits, IntKind.signed]
  omega

set_option maxHeartbeats 1000000 in
set_option maxRecDepth 100000 in
theorem forget_any (origin extra pick : Int) (w : World) (w0 : (Lit.int .u64 origin).wf = true) (b1 : 0 ≤ extra ∧ extra ≤ 255) (b2 : 0 ≤ pick ∧ pick ≤ 65535) :
    Calls Yba.prog 7 #[.int .u64 origin, .int .u8 extra, .int .u16 pick] w fun e w' => e = .returned (.bool true) ∧ Below w.heap.size w w' := by
  have hx8 : 0 ≤ extra % 8 ∧ extra % 8 < 8 := by omega
  go_enter Yba.func7, Yba.ntmps7
  go_wp2
  go_loopw [10] (fun i wr => ∃ k : Nat, (k : Int) ≤ 1024 + extra % 8 ∧ i = .int .i64 k ∧ ∃ m v, Up wr w.heap.size 0 m v k (held origin k) ∧ Below w.heap.size w wr ∧ (∀ B, m = some B → w.heap.size ≤ B) ∧ (∀ g, v.ownBlock = some g → w.heap.size ≤ g)) (fun i _ => (1024 + extra % 8).toNat - (intOf i).toNat)
  case atStart =>
    refine ⟨0, by omega, rfl, none, .slice none 0 0, ?_, (Below.refl _ _).alloc (Nat.le_refl _) _, fun B e => (by cases e), fun g e => (by cases e)⟩
    exact ⟨by simp, by simp, free_new _ _ _ _, free_new _ _ _ _, .inl ⟨rfl, rfl⟩, Mid.nil _ _, fun x h => (by simp [held] at h), by simp [held], fun B e => (by cases e), fun g e => (by cases e), fun B g e => (by cases e)⟩
  case round =>
    obtain ⟨k, hk, rfl, m, v, hU, hb, hmB, hvB⟩ := hrel
    by_cases hlt : (k : Int) < 1024 + extra % 8
    · have hfresh : (origin, 7, (k : Int)) ∉ held origin k := fun h => by have := (mem_held origin k k).1 h; omega
      have hlen : (held origin k).length ≤ 1024 := by rw [held_length]; omega
      have hst : win (held origin k ++ [(origin, 7, (k : Int))]) = held origin (k + 1) := held_step origin k
      have HS : Hid (win (held origin k ++ [(origin, 7, (k : Int))]) = held origin (k + 1)) := hst
      have HF : Hid ((origin, 7, (k : Int)) ∉ held origin k) := hfresh
      have hsz : w.heap.size < wr.heap.size := hU.lt
      clear hst hfresh
      go_wp2_with fail
      refine (fd_fresh hU origin 7 k (okN_of origin k w0 (by omega)) HF.out hlen (by omega)).mono ?_
      rintro e w1 ⟨rfl, m', v', hU', hF, hm', hv'⟩
      rw [HS.out] at hU'
      have hb1 : Below w.heap.size w w1 := hb.trans (hF.below (Nat.le_refl _) hsz hmB hvB)
      have hmB' : ∀ B, m' = some B → w.heap.size ≤ B := fun B e => (hm' B e).elim (hmB B) (fun h => by omega)
      have hvB' : ∀ g, v'.ownBlock = some g → w.heap.size ≤ g := fun g e => (hv' g e).elim (hvB g) (fun h => by omega)
      clear hU hF hm' hv' hmB hvB HS HF hlen
      go_wp2
      go_roundw
      case rel => exact ⟨k + 1, by omega, by go_num, m', v', hU', hb1, hmB', hvB'⟩
      case measure => simp [intOf]; omega
    · have hke : (k : Int) = 1024 + extra % 8 := by omega
      have hL : (held origin k).length = 1024 := by rw [held_length]; omega
      obtain ⟨B, rfl, hM⟩ : ∃ B, m = some B ∧ MapIs wr B k (held origin k) := by
        rcases hU.set with ⟨_, h⟩ | h
        · rw [h] at hL; simp at hL
        · exact h
      obtain ⟨g, o, cap, rfl, hra⟩ : ∃ g o cap, v = .slice (some ⟨g, o, none⟩) 1024 cap ∧ wr.rangeAt g o ((held origin k).flatMap cellsN) := by
        have hord := hU.ord
        rw [hL] at hord
        rcases hord.2 with ⟨_, h⟩ | ⟨g, o, cap, h1, _, _, _, h2, _⟩
        · omega
        · exact ⟨g, o, cap, h1, h2⟩
      have hlm : (Builtin.len_ #[43] 3 #[.map (some B)]).run Yba.prog wr = .ok (.int .i64 1024) wr := by rw [hM.len, hL]; rfl
      have c4 : wr.cell? ⟨w.heap.size, 4, none⟩ = some (.map (some B)) := by simpa using hU.c4
      have c5 : wr.cell? ⟨w.heap.size, 5, none⟩ = some (.slice (some ⟨g, o, none⟩) 1024 cap) := by simpa using hU.c5
      have t2 : wr.cell? ⟨g, o + 2, none⟩ = some (.int .u64 (extra % 8)) := by
        have e1 : held origin k = nmOf origin (k - 1024) :: (List.range' (k - 1024 + 1) 1023).map (nmOf origin) := by
          unfold held
          rw [show min k 1024 = 1023 + 1 from by omega, List.range'_succ]
          simp
        have e2 : ((k - 1024 : Nat) : Int) = extra % 8 := by omega
        refine hra 2 _ ?_
        rw [e1, List.flatMap_cons, ← e2]
        rfl
      obtain ⟨j, hj⟩ : ∃ j : Nat, pick % (1024 + extra % 8) = j := Int.eq_ofNat_of_zero_le (Int.emod_nonneg _ (by omega))
      have hjlt : (j : Int) < 1024 + extra % 8 := by rw [← hj]; exact Int.emod_lt_of_pos _ (by omega)
      have HJ : Hid (pick % (1024 + extra % 8) = j) := hj
      have HU : Hid (Up wr w.heap.size 0 (some B) (.slice (some ⟨g, o, none⟩) 1024 cap) k (held origin k)) := hU
      have HK : Hid ((k : Int) = 1024 + extra % 8) := hke
      have HL : Hid ((held origin k).length = 1024) := hL
      have hsz : w.heap.size < wr.heap.size := hU.lt
      clear hj hU hke hra hM hL
      go_wp2_with fail
      rw [HJ.out, wrap_small j (by omega)]
      have hk := HK.out
      by_cases hje : (j : Int) < extra % 8
      · have hfresh : (origin, 7, (j : Int)) ∉ held origin k := fun h => by have := (mem_held origin k j).1 h; omega
        refine (fd_fresh HU.out origin 7 j (okN_of origin j w0 (by omega)) hfresh (by rw [HL.out]; exact Nat.le_refl _) (by omega)).mono ?_
        rintro e w1 ⟨rfl, m', v', hU', hF, hm', hv'⟩
        have hb1 : Below w.heap.size w w1 := hb.trans (hF.below (Nat.le_refl _) hsz hmB hvB)
        clear hU' hF hm' hv' hfresh hk HK HU c4 c5 t2 hlm
        go_wp2
        go_ret
        exact ⟨rfl, hb1⟩
      · have hin : (origin, 7, (j : Int)) ∈ held origin k := (mem_held origin k j).2 (by omega)
        refine (fd_held HU.out origin 7 j (okN_of origin j w0 (by omega)) hin).mono ?_
        rintro e w1 ⟨rfl, hb0⟩
        have hb1 : Below w.heap.size w w1 := hb.trans (hb0.mono (by omega))
        have hjd : decide ((j : Int) < extra % 8) = false := by simpa using hje
        clear hin hk HK HU c4 c5 t2 hlm
        go_wp2
        go_ret
        exact ⟨rfl, hb1⟩
theorem forget_walk (origin extra pick : Int) (w : World) (w0 : (Lit.int .u64 origin).wf = true) (w1 : (Lit.int .u8 extra).wf = true) (w2 : (Lit.int .u16 pick).wf = true) :
    Calls Yba.prog 7 #[.int .u64 origin, .int .u8 extra, .int .u16 pick] w fun e w' => e = .returned (.bool true) ∧ Below w.heap.size w w' :=
  forget_any origin extra pick w w0 (bounds_u8 w1) (bounds_u16 w2)

end Go.Proofs.Ybulkbdie
