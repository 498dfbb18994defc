/-
  THE WALK OVER ringleaf.LawS2721CModel (function 6): the loop.
-/
import Derived.Test.YbulkbdieModel
namespace Go.Proofs.Ybulkbdie
open Go.RowKit

theorem free_new (w : World) (cs : Array Value) (t : TypeId) (o : Nat) : (w.alloc (.cells cs t)).frozen? ⟨w.heap.size, o, none⟩ = false := by
  unfold World.frozen?
  rw [heap_alloc_new]
  simp

set_option maxHeartbeats 400000 in
theorem model_long (a0 : Option Addr) (len cap : Nat) (w : World) (h : 4096 < len) :
    Calls Yba.prog 6 #[.slice a0 len cap] w fun e w' => e = .returned (.bool true) ∧ Below w.heap.size w w' := by
  go_enter Yba.func6, Yba.ntmps6
  go_wp2
  go_ret
  exact ⟨rfl, Below.refl _ _⟩

set_option maxHeartbeats 400000 in
theorem model_none (a0 : Option Addr) (cap : Nat) (w : World) :
    Calls Yba.prog 6 #[.slice a0 0 cap] w fun e w' => e = .returned (.bool true) ∧ Below w.heap.size w w' := by
  go_enter Yba.func6, Yba.ntmps6
  go_wp2
  refine wp_loop_rounds 1 ?_
  rw [rounds_succ]
  go_wp2
  go_ret
  exact ⟨rfl, (Below.refl _ _).alloc (Nat.le_refl _) _⟩

theorem okN_small (z : Int) (h : 0 ≤ z ∧ z ≤ 65535) : okN (0, z / 256, z % 256) := by
  refine ⟨(by decide : (Lit.int .u64 0).wf = true), ?_, ?_⟩ <;> (simp [Lit.wf, IntKind.min, IntKind.max, IntKind.signed, IntKind.bits]; omega)

set_option maxHeartbeats 2000000 in
set_option maxRecDepth 100000 in
theorem model_some (b off len cap : Nat) (zs : List Int) (w : World) (hm : len ≤ 4096) (hlt0 : b < w.heap.size) (hc : ∀ t, t < len → w.cell? ⟨b, off + t, none⟩ = some (.int .u16 (zs.getD t 0))) (hw : ∀ t, 0 ≤ zs.getD t 0 ∧ zs.getD t 0 ≤ 65535) :
    Calls Yba.prog 6 #[.slice (some ⟨b, off, none⟩) len cap] w fun e w' => e = .returned (.bool true) ∧ Below w.heap.size w w' := by
  obtain ⟨i0, hi, hz0, hz1, hz2⟩ := info_parts info42
  go_enter Yba.func6, Yba.ntmps6
  go_wp2
  go_loopw [4, 5] (fun mv i wr => ∃ k : Nat, k ≤ len ∧ i = .int .i64 k ∧ ∃ L m v, St w wr m v mv k L) (fun _ i _ => len - (intOf i).toNat)
  case atStart =>
    refine ⟨0, Nat.zero_le _, rfl, [], none, .slice none 0 0, ?_⟩
    exact ⟨⟨by simp, by simp, free_new _ _ _ _, free_new _ _ _ _, .inl ⟨rfl, rfl⟩, Mid.nil _ _, fun x h => (by simp at h), by simp, fun B e => (by cases e), fun g e => (by cases e), fun B g e => (by cases e)⟩, Mid.nil _ _, by simp, (Below.refl _ _).alloc (Nat.le_refl _) _,
      fun B e => (by cases e), fun g e => (by cases e), fun g e => (by cases e), fun g e => (by cases e), fun g e => (by cases e)⟩
  case round =>
    obtain ⟨k, hk, rfl, L, m, v, S⟩ := hrel
    by_cases hlt : k < len
    · have hcell := (S.bel.cell (p := ⟨b, off + k, none⟩) hlt0).trans (hc k hlt)
      have hwz := hw k
      generalize zs.getD k 0 = z at hcell hwz
      have k0 : (0 : Int) ≤ (k : Int) := by omega
      have k1 : (k : Int) < (len : Int) := by omega
      obtain ⟨ao, cp, rfl, hcp⟩ := S.mo.form
      go_wp2_with fail
      refine (name_any z _ hwz).mono ?_
      rintro e w1 ⟨rfl, hb1⟩
      have S1 := (S.below hb1).below ((Below.refl _ _).alloc (Nat.le_refl _) (.cells #[.int .u64 0, .int .u64 (z / 256), .int .u64 (z % 256)] 42))
      have hok : okN (0, z / 256, z % 256) := okN_small z hwz
      have hlen := S1.len
      go_wp2_with fail
      by_cases hin : (0, z / 256, z % 256) ∈ L
      · refine (contains_any 0 (z / 256) (z % 256) _ S1.mo rfl (by omega) true (by simp [hin])).mono ?_
        rintro e w2 ⟨rfl, hb2⟩
        have S2 := S1.below hb2
        have n0 : w2.cell? ⟨w1.heap.size, 0, none⟩ = some (.int .u64 0) := (hb2.cell (p := ⟨w1.heap.size, 0, none⟩) (by simp)).trans (by simp)
        have n1 : w2.cell? ⟨w1.heap.size, 1, none⟩ = some (.int .u64 (z / 256)) := (hb2.cell (p := ⟨w1.heap.size, 1, none⟩) (by simp)).trans (by simp)
        have n2 : w2.cell? ⟨w1.heap.size, 2, none⟩ = some (.int .u64 (z % 256)) := (hb2.cell (p := ⟨w1.heap.size, 2, none⟩) (by simp)).trans (by simp)
        have hne : L ≠ [] := fun e => by rw [e] at hin; simp at hin
        have HI : Hid ((0, z / 256, z % 256) ∈ L) := hin
        have HNE : Hid (L ≠ []) := hne
        clear hin hne hcell S S1 hb1 hb2
        go_wp2_with fail
        refine (fd_held S2.up 0 (z / 256) (z % 256) hok HI.out).mono ?_
        rintro e w3 ⟨rfl, hb3⟩
        have S3 := S2.below hb3
        have c5 : w3.cell? ⟨w.heap.size, 5, none⟩ = some v := S3.up.c5
        clear n0 n1 n2 S2 hb3
        go_wp2_with fail
        refine (equal_any _ S3.up.ord S3.mo rfl (by omega)).mono ?_
        rintro e w4 ⟨rfl, hb4⟩
        have S4 := S3.below hb4
        obtain ⟨B, rfl, hlm⟩ := S4.map HNE.out
        have c4 : w4.cell? ⟨w.heap.size, 4, none⟩ = some (.map (some B)) := S4.up.c4
        clear c5 S3 hb4
        go_wp2
        go_roundw
        case rel => exact ⟨k + 1, by omega, by go_num, L, some B, v, S4.mono (by omega)⟩
        case measure => simp [intOf]; omega
      · refine (contains_any 0 (z / 256) (z % 256) _ S1.mo rfl (by omega) false (by simp [hin])).mono ?_
        rintro e w2 ⟨rfl, hb2⟩
        have S2 := S1.below hb2
        have n0 : w2.cell? ⟨w1.heap.size, 0, none⟩ = some (.int .u64 0) := (hb2.cell (p := ⟨w1.heap.size, 0, none⟩) (by simp)).trans (by simp)
        have n1 : w2.cell? ⟨w1.heap.size, 1, none⟩ = some (.int .u64 (z / 256)) := (hb2.cell (p := ⟨w1.heap.size, 1, none⟩) (by simp)).trans (by simp)
        have n2 : w2.cell? ⟨w1.heap.size, 2, none⟩ = some (.int .u64 (z % 256)) := (hb2.cell (p := ⟨w1.heap.size, 2, none⟩) (by simp)).trans (by simp)
        have hnb : w1.heap.size < w2.heap.size := World.block_lt_of_cell? _ _ n0
        have hnbm : (Value.slice ao L.length cp).ownBlock ≠ some w1.heap.size := fun e => by have := S.mo.lt e; have := hb1.size; omega
        obtain ⟨g, o, cp', W3, hap, hM3, hcp3, hU3, hB3, hz3, hg1, hg2, hg3, hoth⟩ := S2.push (0, z / 256, z % 256) i0 hi hz0 hz1 hz2
        have r0 : W3.cell? ⟨w1.heap.size, 0, none⟩ = some (.int .u64 0) := (hoth ⟨w1.heap.size, 0, none⟩ hnb hnbm).trans n0
        have r1 : W3.cell? ⟨w1.heap.size, 1, none⟩ = some (.int .u64 (z / 256)) := (hoth ⟨w1.heap.size, 1, none⟩ hnb hnbm).trans n1
        have r2 : W3.cell? ⟨w1.heap.size, 2, none⟩ = some (.int .u64 (z % 256)) := (hoth ⟨w1.heap.size, 2, none⟩ hnb hnbm).trans n2
        have hws3 : w.heap.size < W3.heap.size := hU3.lt
        have mB := S2.mB
        have vB := S2.vB
        have HI : Hid ((0, z / 256, z % 256) ∉ L) := hin
        have HOTH : Hid (∀ a : Addr, a.block < w2.heap.size → (Value.slice ao L.length cp).ownBlock ≠ some a.block → W3.cell? a = w2.cell? a) := hoth
        clear hin hcell S S1 hb1 hb2 hoth HOTH S2
        by_cases hbig : L.length + 1 ≤ 1024
        · have hbi : (L.length : Int) + 1 ≤ 1024 := by omega
          go_wp2_with (at_builtin; refine wpList_append_run rfl (.tmp 30) (.tmp 32) 47 47 rfl rfl _ _ _ _ rfl rfl hap ?_)
          clear hap n0 n1 n2
          refine (fd_fresh hU3 0 (z / 256) (z % 256) hok HI.out hlen (by omega)).mono ?_
          rintro e W4 ⟨rfl, m', v', hU4, hF4, hm4, hv4⟩
          have hwin : win (L ++ [(0, z / 256, z % 256)]) = L ++ [(0, z / 256, z % 256)] := win_small _ (by simp; omega)
          have hL1 : (L ++ [(0, z / 256, z % 256)]).length = L.length + 1 := by simp
          rw [hwin] at hU4
          have S4 : St w W4 m' v' (.slice (some ⟨g, o, none⟩) (L.length + 1) cp') (k + 1) (L ++ [(0, z / 256, z % 256)]) :=
            St.after (by rw [hL1]; exact hM3) (by omega) hB3 hws3 hU4 hF4 hm4 hv4 mB vB (fun g' e => by cases e; exact hg1) (fun g' e => by cases e; exact hg2) (fun g' e => by cases e; exact hg3) rfl
          have HL1 : Hid ((L ++ [(0, z / 256, z % 256)]).length = L.length + 1) := hL1
          have c5 : W4.cell? ⟨w.heap.size, 5, none⟩ = some v' := S4.up.c5
          clear hU4 hF4 hm4 hv4 hM3 hU3 hB3 hwin hL1 r0 r1 r2 hg1 hg2 hg3 mB vB HI
          go_wp2_with fail
          refine (equal_any (L := L ++ [(0, z / 256, z % 256)]) (n := L.length + 1) _ (by have := S4.up.ord; rw [HL1.out] at this; exact this) (by have := S4.mo; rw [HL1.out] at this; exact this) HL1.out (by omega)).mono ?_
          rintro e W5 ⟨rfl, hb5⟩
          have S5 := S4.below hb5
          obtain ⟨B, rfl, hlm⟩ := S5.map (by simp)
          rw [HL1.out] at hlm
          have c4 : W5.cell? ⟨w.heap.size, 4, none⟩ = some (.map (some B)) := S5.up.c4
          clear c5 S4 hb5
          go_wp2
          go_roundw
          case rel => exact ⟨k + 1, by omega, by go_num, _, some B, v', S5⟩
          case measure => simp [intOf]; omega
        · have hb1024 : 1024 ≤ L.length := by omega
          have hbi : (1024 : Int) < (L.length : Int) + 1 := by omega
          have hc1 : 1025 ≤ cp' := by omega
          clear hbig
          go_wp2_with (at_builtin; refine wpList_append_run rfl (.tmp 30) (.tmp 32) 47 47 rfl rfl _ _ _ _ rfl rfl hap ?_)
          clear hap n0 n1 n2
          refine (fd_fresh hU3 0 (z / 256) (z % 256) hok HI.out hlen (by omega)).mono ?_
          rintro e W4 ⟨rfl, m', v', hU4, hF4, hm4, hv4⟩
          obtain ⟨y, L', hLy⟩ : ∃ y L', L = y :: L' := by
            cases L with
            | nil => simp at hb1024
            | cons y L' => exact ⟨y, L', rfl⟩
          have hLy1 : L'.length + 1 = L.length := by rw [hLy]; rfl
          have hwin : win (L ++ [(0, z / 256, z % 256)]) = L' ++ [(0, z / 256, z % 256)] := by rw [hLy, List.cons_append]; exact win_big _ _ (by simp; omega)
          have hL1 : (L' ++ [(0, z / 256, z % 256)]).length = L.length := by simp; omega
          rw [hwin] at hU4
          have hM4 : Mid W3 3 (.slice (some ⟨g, o + 3, none⟩) L.length (cp' - 1)) L.length ((L' ++ [(0, z / 256, z % 256)]).flatMap cellsN) := by
            have e : (L ++ [(0, z / 256, z % 256)]).flatMap cellsN = cellsN y ++ (L' ++ [(0, z / 256, z % 256)]).flatMap cellsN := by rw [hLy]; simp
            rw [e] at hM3
            exact hM3.tail rfl
          have S4 : St w W4 m' v' (.slice (some ⟨g, o + 3, none⟩) L.length (cp' - 1)) (k + 1) (L' ++ [(0, z / 256, z % 256)]) :=
            St.after (by rw [hL1]; exact hM4) (by omega) hB3 hws3 hU4 hF4 hm4 hv4 mB vB (fun g' e => by cases e; exact hg1) (fun g' e => by cases e; exact hg2) (fun g' e => by cases e; exact hg3) rfl
          have HL1 : Hid ((L' ++ [(0, z / 256, z % 256)]).length = L.length) := hL1
          have c5 : W4.cell? ⟨w.heap.size, 5, none⟩ = some v' := S4.up.c5
          clear hU4 hF4 hm4 hv4 hM3 hM4 hU3 hB3 hwin hL1 r0 r1 r2 hg1 hg2 hg3 mB vB HI hLy1 hLy
          go_wp2_with fail
          refine (equal_any (L := L' ++ [(0, z / 256, z % 256)]) (n := L.length) _ (by have := S4.up.ord; rw [HL1.out] at this; exact this) (by have := S4.mo; rw [HL1.out] at this; exact this) HL1.out (by omega)).mono ?_
          rintro e W5 ⟨rfl, hb5⟩
          have S5 := S4.below hb5
          obtain ⟨B, rfl, hlm⟩ := S5.map (by simp)
          rw [HL1.out] at hlm
          have c4 : W5.cell? ⟨w.heap.size, 4, none⟩ = some (.map (some B)) := S5.up.c4
          clear c5 S4 hb5
          go_wp2
          go_roundw
          case rel => exact ⟨k + 1, by omega, by go_num, _, some B, v', S5⟩
          case measure => simp [intOf]; omega
    · go_wp2
      go_ret
      exact ⟨rfl, S.bel⟩

theorem model_walk (a0 : Option Addr) (len cap : Nat) (zs : List Int) (w : World) (w0 : IsRow .u16 w a0 len cap zs) :
    Calls Yba.prog 6 #[.slice a0 len cap] w fun e w' => e = .returned (.bool true) ∧ Below w.heap.size w w' := by
  by_cases h : 4096 < len
  · exact model_long a0 len cap w h
  by_cases h0 : len = 0
  · subst h0; exact model_none a0 cap w
  · obtain ⟨b, off, rfl, hlt, hc, hw⟩ := w0.at (by omega)
    exact model_some b off len cap zs w (by omega) hlt hc (fun t => bounds_u16 (hw t))

end Go.Proofs.Ybulkbdie
