/-
  THE WALK OVER zzs2721bbuild (11).
-/
import Derived.Test.YbulkbdieRep
import Derived.Test.YbulkbdieModel
import Derived.OwnWalk
namespace Go.Proofs.Ybulkbdie
open Go.RowKit

theorem info129 : (Yba.prog.info? 129).map (fun i => (i.zero, i.size, i.bytes)) = some (some (.agg #[.int .u64 0, .int .u64 0, .slice none 0 0, .int .u64 0, .int .u64 0, .int .u64 0, .int .u64 0, .bool false, .string ⟨#[]⟩, .int .u64 0, .int .i64 0, .bool false, .int .u8 0, .int .i32 0, .bool false]), 15, 136) := by kernel_rfl

theorem zero99 : ∃ C : Array Value, (∀ w, (zeroValue 99).run Yba.prog w = .ok (.agg C) w) ∧ C[89]? = some .nilIface ∧ C[93]? = some (.map none) ∧ C[94]? = some (.slice none 0 0) ∧ C[95]? = some (.slice none 0 0) ∧ C[96]? = some (.map none) ∧ C[97]? = some (.int .i64 0) ∧ C[98]? = some (.map none) :=
  ⟨(match Yba.t99.zero with | some (.agg C) => C | _ => #[]), fun w => by kernel_rfl, by kernel_rfl, by kernel_rfl, by kernel_rfl, by kernel_rfl, by kernel_rfl, by kernel_rfl, by kernel_rfl⟩

/-- The entry that is made for the token at place k. -/
def ent (zs : List Int) (k : Nat) : Ent := ((k : Int), (k : Int) + 1, zs.getD k 0, true)
def ents (zs : List Int) (n : Nat) : List Ent := (List.range n).map (ent zs)

theorem ents_length (zs : List Int) (n : Nat) : (ents zs n).length = n := by simp [ents]
theorem ents_succ (zs : List Int) (k : Nat) : (ents zs (k + 1)).flatMap ecells = (ents zs k).flatMap ecells ++ ecells (ent zs k) := by
  simp [ents, List.range_succ]
theorem ents_get (zs : List Int) (n k : Nat) (h : k < (ents zs n).length) : (ents zs n)[k] = ent zs k := by simp [ents]
theorem ents_ok (zs : List Int) (n : Nat) (hn : n ≤ 256) : ∀ x ∈ ents zs n, okE x := by
  intro x hx
  obtain ⟨k, hk, rfl⟩ := List.mem_map.1 hx
  have := List.mem_range.1 hk
  exact ⟨⟨by show (0 : Int) ≤ k; omega, by show (k : Int) ≤ 4096; omega⟩, by show (0 : Int) ≤ (k : Int) + 1; omega, by show (k : Int) + 1 ≤ 4096; omega⟩

/-- WHAT build LEAVES. -/
structure BldOut (w w' : World) (len : Nat) (zs : List Int) (app : Value) : Prop where
  wl : Wl w' w.heap.size 95 (w.heap.size + 1) len (ents zs len) len
  up : Up w' w.heap.size 89 none (.slice none 0 0) 0 []
  app : w'.cell? ⟨w.heap.size, 89, none⟩ = some (.iface 33 app)
  below : Below w.heap.size w w'

theorem bld_done {w wr : World} {len : Nat} {zs : List Int} {app : Value} {C : Array Value} (hb : Below w.heap.size w wr) (hC : wr.heap[w.heap.size]? = some (.cells C 99)) (x89 : C[89]? = some (.iface 33 app)) (x93 : C[93]? = some (.map none)) (x94 : C[94]? = some (.slice none 0 0)) (x95 : C[95]? = some (.slice none 0 0)) (x96 : C[96]? = some (.map none)) (x97 : C[97]? = some (.int .i64 0)) (x98 : C[98]? = some (.map none))
    (ho : wr.ownsRow (w.heap.size + 1) 129 15 (.slice (some ⟨w.heap.size + 1, 0, none⟩) len len) len ((ents zs len).flatMap ecells)) :
    BldOut w ((wr.setCell ⟨w.heap.size, 95, none⟩ (.slice (some ⟨w.heap.size + 1, 0, none⟩) len len)).setCell ⟨w.heap.size, 97, none⟩ (.int .i64 len)) len zs app := by
  have n1 : ∀ (o : Nat) (u : Value) (X : World) (o' : Nat), o' ≠ o → (X.setCell ⟨w.heap.size, o, none⟩ u).cell? ⟨w.heap.size, o', none⟩ = X.cell? ⟨w.heap.size, o', none⟩ := fun o u X o' hne => World.cell?_setCell_other X (a := ⟨w.heap.size, o, none⟩) (b := ⟨w.heap.size, o', none⟩) (v := u) (by intro e; have e1 := congrArg Addr.off e; simp only at e1; omega)
  have cc : ∀ o, o ≠ 95 → o ≠ 97 → ((wr.setCell ⟨w.heap.size, 95, none⟩ (.slice (some ⟨w.heap.size + 1, 0, none⟩) len len)).setCell ⟨w.heap.size, 97, none⟩ (.int .i64 len)).cell? ⟨w.heap.size, o, none⟩ = C[o]? := fun o h1 h2 => by
    rw [n1 _ _ _ _ h2, n1 _ _ _ _ h1]; exact blk_cell hC o
  have ff : ∀ o, ((wr.setCell ⟨w.heap.size, 95, none⟩ (.slice (some ⟨w.heap.size + 1, 0, none⟩) len len)).setCell ⟨w.heap.size, 97, none⟩ (.int .i64 len)).frozen? ⟨w.heap.size, o, none⟩ = false := fun o => by
    rw [World.frozen?_setCell, World.frozen?_setCell]; exact blk_free hC o
  have gg : ((wr.setCell ⟨w.heap.size, 95, none⟩ (.slice (some ⟨w.heap.size + 1, 0, none⟩) len len)).setCell ⟨w.heap.size, 97, none⟩ (.int .i64 len)).heap[w.heap.size + 1]? = wr.heap[w.heap.size + 1]? :=
    (Below.heap_setCell _ _ _ _ (by show w.heap.size + 1 ≠ w.heap.size; omega)).trans (Below.heap_setCell _ _ _ _ (by show w.heap.size + 1 ≠ w.heap.size; omega))
  have hl := (ho.lt (w.heap.size + 1) rfl).2
  refine ⟨⟨?_, ?_, ?_, ?_, ff, ?_, fun o => ?_, by omega, by simp; omega, by rw [ents_length]; exact Nat.le_refl _⟩, ⟨?_, ?_, ff _, ff _, .inl ⟨rfl, rfl⟩, Mid.nil _ _, by simp, by simp, by simp, by simp [Value.ownBlock], by simp⟩, ?_, ?_⟩
  · rw [n1 _ _ _ _ (by omega), ents_length]; exact World.cell?_setCell_same _ _ _ ((blk_cell hC 95).trans x95)
  · exact (cc 96 (by omega) (by omega)).trans x96
  · exact World.cell?_setCell_same _ _ _ ((n1 _ _ _ _ (by omega)).trans ((blk_cell hC 97).trans x97))
  · exact (cc 98 (by omega) (by omega)).trans x98
  · intro i v hv
    have hi : i < len * 15 := by have := (List.getElem?_eq_some_iff.1 hv).1; rwa [eflat_length, ents_length] at this
    rw [Nat.zero_add, World.cell?_of_block (a := ⟨w.heap.size + 1, i, none⟩) gg, ho.cellAt i hi]
    exact hv
  · rw [World.frozen?_of_block (a := ⟨w.heap.size + 1, o, none⟩) gg]; exact ho.frozenAt o
  · exact (cc 93 (by omega) (by omega)).trans x93
  · exact (cc 94 (by omega) (by omega)).trans x94
  · exact (cc 89 (by omega) (by omega)).trans x89
  · exact (hb.setCell (p := ⟨w.heap.size, 95, none⟩) (Nat.le_refl _) _).setCell (p := ⟨w.heap.size, 97, none⟩) (Nat.le_refl _) _

set_option maxHeartbeats 4000000 in
set_option maxRecDepth 100000 in
theorem bld_walk (a0 : Option Addr) (len cap : Nat) (zs : List Int) (app : Value) (w : World) (h0 : IsRow .u64 w a0 len cap zs) (hm : len ≤ 256) :
    Calls Yba.prog 11 #[.slice a0 len cap, .iface 33 app] w fun e w' => e = .returned (.pointer (some ⟨w.heap.size, 0, none⟩)) ∧ BldOut w w' len zs app := by
  obtain ⟨i0, hi, hz0, hz1, hz2⟩ := info_parts info129
  obtain ⟨C, hz99, x89, x93, x94, x95, x96, x97, x98⟩ := zero99
  have hW0 : (w.alloc (.cells C 99)).heap[w.heap.size]? = some (.cells C 99) := heap_alloc_new _ _
  have y89 : (w.alloc (.cells C 99)).cell? ⟨w.heap.size, 89, none⟩ = some .nilIface := (blk_cell hW0 89).trans x89
  have yf := blk_free hW0
  obtain ⟨C', hC'⟩ : ∃ X, X = C.setIfInBounds 89 (.iface 33 app) := ⟨_, rfl⟩
  have HX : Hid (C'[89]? = some (.iface 33 app) ∧ C'[93]? = some (.map none) ∧ C'[94]? = some (.slice none 0 0) ∧ C'[95]? = some (.slice none 0 0) ∧ C'[96]? = some (.map none) ∧ C'[97]? = some (.int .i64 0) ∧ C'[98]? = some (.map none)) := by
    have h89 : 89 < C.size := (Array.getElem?_eq_some_iff.1 x89).1
    rw [hC']
    refine ⟨?_, ?_, ?_, ?_, ?_, ?_, ?_⟩
    · rw [Array.getElem?_setIfInBounds_self_of_lt h89]
    all_goals (rw [Array.getElem?_setIfInBounds_ne (by omega)]; assumption)
  obtain ⟨W1, hmk, hown, hgr⟩ := run_make_own (P := Yba.prog) (w.alloc (.cells C' 99)) (w.heap.size + 1) 48 129 i0 _ 15 Yba.underlying48 hi hz0 hz1 .i64 .i64 len (by rw [hz2]; omega) (by unfold maxLen; omega) (by simp)
  have hs0 : (w.alloc (.cells C' 99)).heap.size = w.heap.size + 1 := by simp
  rw [hs0] at hmk hown
  rw [hC'] at hmk
  have HI : Hid (W1.ownsRow (w.heap.size + 1) 129 15 (.slice (some ⟨w.heap.size + 1, 0, none⟩) 0 len) 0 [] ∧ W1.heap[w.heap.size]? = some (.cells C' 99) ∧ Below w.heap.size w W1) :=
    ⟨hown, (hgr.block _ (by simp) (by simp)).trans (heap_alloc_new _ _), ((Below.refl _ _).alloc (Nat.le_refl _) _).grown hgr (by simp) (by simp)⟩
  clear hown hgr x89 x93 x94 x95 x96 x97 x98 hW0 hs0 hC'
  go_enter Yba.func11, Yba.ntmps11
  go_wp2_with fail
  clear hmk y89 yf hz99
  go_loopw [6, 22] (fun s i wr => ∃ k : Nat, k ≤ len ∧ i = .int .i64 k ∧ s = .slice (some ⟨w.heap.size + 1, 0, none⟩) k len ∧ wr.ownsRow (w.heap.size + 1) 129 15 (.slice (some ⟨w.heap.size + 1, 0, none⟩) k len) k ((ents zs k).flatMap ecells) ∧ wr.heap[w.heap.size]? = some (.cells C' 99) ∧ Below w.heap.size w wr) (fun _ i _ => len - (intOf i).toNat)
  case atStart => exact ⟨0, Nat.zero_le _, rfl, rfl, HI.out.1, HI.out.2.1, HI.out.2.2⟩
  case round =>
    obtain ⟨k, hk, rfl, rfl, hown, hC, hb⟩ := hrel
    by_cases hlt : k < len
    · obtain ⟨b, off, rfl, hbl, hc, hw⟩ := h0.at (by omega)
      have hcell := (hb.cell (p := ⟨b, off + k, none⟩) hbl).trans (hc k hlt)
      have hlr := (hown.lt (w.heap.size + 1) rfl).2
      obtain ⟨W3, hap, hown3, hg3⟩ := run_append_fits (P := Yba.prog) ((wr.alloc (.cells #[.int .u64 0, .int .u64 0, .slice none 0 0, .int .u64 0, .int .u64 (k : Int), .int .u64 ((k : Int) + 1), .int .u64 0, .bool false, .string ⟨#[]⟩] 108)).alloc (.cells #[.int .u64 0, .int .u64 0, .slice none 0 0, .int .u64 0, .int .u64 (k : Int), .int .u64 ((k : Int) + 1), .int .u64 0, .bool false, .string ⟨#[]⟩, .int .u64 (zs.getD k 0), .int .i64 0, .bool false, .int .u8 0, .int .i32 0, .bool true] 129)) (w.heap.size + 1) 48 48 129 i0 15 Yba.underlying48 hi hz1 (w.heap.size + 1) k len _ ((hown.alloc _).alloc _) ⟨wr.heap.size + 1, 0, none⟩ 1 1 (ecells (ent zs k)) rfl (fun j u hu => by
        have hB : ((wr.alloc (.cells #[.int .u64 0, .int .u64 0, .slice none 0 0, .int .u64 0, .int .u64 (k : Int), .int .u64 ((k : Int) + 1), .int .u64 0, .bool false, .string ⟨#[]⟩] 108)).alloc (.cells #[.int .u64 0, .int .u64 0, .slice none 0 0, .int .u64 0, .int .u64 (k : Int), .int .u64 ((k : Int) + 1), .int .u64 0, .bool false, .string ⟨#[]⟩, .int .u64 (zs.getD k 0), .int .i64 0, .bool false, .int .u8 0, .int .i32 0, .bool true] 129)).heap[wr.heap.size + 1]? = some (.cells #[.int .u64 0, .int .u64 0, .slice none 0 0, .int .u64 0, .int .u64 (k : Int), .int .u64 ((k : Int) + 1), .int .u64 0, .bool false, .string ⟨#[]⟩, .int .u64 (zs.getD k 0), .int .i64 0, .bool false, .int .u8 0, .int .i32 0, .bool true] 129) := by
          have := heap_alloc_new (wr.alloc (.cells #[.int .u64 0, .int .u64 0, .slice none 0 0, .int .u64 0, .int .u64 (k : Int), .int .u64 ((k : Int) + 1), .int .u64 0, .bool false, .string ⟨#[]⟩] 108)) (.cells #[.int .u64 0, .int .u64 0, .slice none 0 0, .int .u64 0, .int .u64 (k : Int), .int .u64 ((k : Int) + 1), .int .u64 0, .bool false, .string ⟨#[]⟩, .int .u64 (zs.getD k 0), .int .i64 0, .bool false, .int .u8 0, .int .i32 0, .bool true] 129)
          simpa using this
        rw [Addr.add_mid, Nat.zero_add, blk_cell hB j]
        rw [List.getElem?_toArray]
        exact hu) (by intro u hu; simp [ecells, wcells] at hu; rcases hu with rfl | rfl | rfl | rfl | rfl | rfl | rfl | rfl | rfl | rfl | rfl | rfl | rfl | rfl <;> rfl) (by omega)
      have HR : Hid (W3.ownsRow (w.heap.size + 1) 129 15 (.slice (some ⟨w.heap.size + 1, 0, none⟩) (k + 1) len) (k + 1) ((ents zs (k + 1)).flatMap ecells) ∧ W3.heap[w.heap.size]? = some (.cells C' 99) ∧ Below w.heap.size w W3) := by
        refine ⟨by rw [ents_succ]; exact hown3, ?_, ?_⟩
        · exact (hg3.block _ (by simp; omega) (by simp)).trans ((Below.heap_alloc _ _ _ (by simp; omega)).trans ((Below.heap_alloc _ _ _ (by omega)).trans hC))
        · exact ((hb.alloc (by omega) _).alloc (by simp; omega) _).grown hg3 (by simp; omega) (by intro k' e; cases e; omega)
      have k0 : (0 : Int) ≤ (k : Int) := by omega
      have k1 : (k : Int) < (len : Int) := by omega
      have k2 : (k : Int) ≤ 256 := by omega
      clear hown hC hb hown3 hg3 hc hw
      go_wp2_with (at_builtin; refine wpList_append_run rfl (.tmp 35) (.tmp 40) 48 48 rfl rfl _ _ _ _ rfl rfl hap ?_)
      go_roundw
      case rel => exact ⟨k + 1, by omega, by go_num, rfl, HR.out⟩
      case measure => simp [intOf]; omega
    · obtain rfl : k = len := by omega
      have e95 : wr.cell? ⟨w.heap.size, 95, none⟩ = some (.slice none 0 0) := (blk_cell hC 95).trans HX.out.2.2.2.1
      have e97 : wr.cell? ⟨w.heap.size, 97, none⟩ = some (.int .i64 0) := (blk_cell hC 97).trans HX.out.2.2.2.2.2.1
      have ef := blk_free hC
      obtain ⟨x89, x93, x94, x95, x96, x97, x98⟩ := HX.out
      have HD : Hid (BldOut w ((wr.setCell ⟨w.heap.size, 95, none⟩ (.slice (some ⟨w.heap.size + 1, 0, none⟩) k k)).setCell ⟨w.heap.size, 97, none⟩ (.int .i64 k)) k zs app) := bld_done hb hC x89 x93 x94 x95 x96 x97 x98 hown
      clear x89 x93 x94 x95 x96 x97 x98 hC hown hb
      go_wp2
      go_ret
      exact ⟨rfl, HD.out⟩

end Go.Proofs.Ybulkbdie
