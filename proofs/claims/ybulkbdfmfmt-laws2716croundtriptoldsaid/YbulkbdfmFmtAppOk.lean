/-
  THE WALK OVER (mtp3.Frame).AppendBinary (function 9): every field in its range.
-/
import Derived.Test.YbulkbdfmFmtOwn
import Derived.WalkSpells
import Derived.WalkLawsBesides
import Derived.Laws.AppendOwnNone
namespace Go.Proofs.YbulkbdfmFmt
open Go.RowKit

set_option maxHeartbeats 1000000 in
set_option maxRecDepth 100000 in
theorem ab_ok (net svc dpc opc sls : Int) (pa : Option Addr) (pl pc : Nat) (P : List Int) (v : Value) (n : Nat) (xs : List Value) (w0 w : World) (hb0 : Below w0.heap.size w0 w) (sp : Sl w0 pa pl pc P)
    (hown : w.ownsRow w0.heap.size 5 1 v n xs) (hn : n ≤ 4096) (hp : pl ≤ 4096)
    (n0 : 0 ≤ net) (n1 : net ≤ 3) (s0 : 0 ≤ svc) (s1 : svc ≤ 15) (d0 : 0 ≤ dpc) (d1 : dpc ≤ 16383) (o0 : 0 ≤ opc) (o1 : opc ≤ 16383) (l0 : 0 ≤ sls) (l1 : sls ≤ 15) :
    Calls Ybaf.prog 9 #[.agg #[.int .u8 net, .int .u8 svc, .int .u16 dpc, .int .u16 opc, .int .u8 sls, .slice pa pl pc], v] w fun e w' => ∃ v', e = .returned (.tuple #[v', .nilIface]) ∧
      w'.ownsRow w0.heap.size 5 1 v' (n + 5 + pl) (xs ++ (five net svc dpc opc sls).map (Value.int .u8) ++ P.map (Value.int .u8)) ∧ Below w0.heap.size w0 w' := by
  obtain ⟨i0, hi, hz0, hz1, hz2⟩ := info_parts info5
  have F5 : Hid (([bits .or .u8 (net * 64) svc, bits .or .u32 (bits .or .u32 dpc (opc * 16384)) (sls * 268435456) % 256, bits .or .u32 (bits .or .u32 dpc (opc * 16384)) (sls * 268435456) / 256 % 256,
      bits .or .u32 (bits .or .u32 dpc (opc * 16384)) (sls * 268435456) / 65536 % 256, bits .or .u32 (bits .or .u32 dpc (opc * 16384)) (sls * 268435456) / 16777216 % 256] : List Int) = five net svc dpc opc sls) := five_eq net svc dpc opc sls n0 n1 s0 s1 d0 d1 o0 o1 l0 l1
  have hlt := hown.lt
  have hsz := hb0.size
  go_enter Ybaf.func9, Ybaf.ntmps9
  go_wp2_with (at_builtin; refine wpList_append_own _ rfl (.tmp 74) (.tmp 92) 22 rfl w0.heap.size 5 i0 (.int .u8 0) 1 1 Ybaf.underlying22 hi hz0 hz1 hz2 rfl (by decide) v n xs rfl ((hown.alloc _).alloc _) ⟨w.heap.size + 1, 0, none⟩ 5 5 (([bits .or .u8 (net * 64) svc, bits .or .u32 (bits .or .u32 dpc (opc * 16384)) (sls * 268435456) % 256, bits .or .u32 (bits .or .u32 dpc (opc * 16384)) (sls * 268435456) / 256 % 256, bits .or .u32 (bits .or .u32 dpc (opc * 16384)) (sls * 268435456) / 65536 % 256, bits .or .u32 (bits .or .u32 dpc (opc * 16384)) (sls * 268435456) / 16777216 % 256] : List Int).map (Value.int .u8)) rfl rfl ?c1 ?c2 ?c3 ?c4 ?c5 ?_)
  case c1 =>
    intro j u hj
    match j, hj with
    | 0, hj => simp at hj; subst hj; simp [Addr.add]
    | 1, hj => simp at hj; subst hj; simp [Addr.add]
    | 2, hj => simp at hj; subst hj; simp [Addr.add]
    | 3, hj => simp at hj; subst hj; simp [Addr.add]
    | 4, hj => simp at hj; subst hj; simp [Addr.add]
    | j + 5, hj => simp at hj
  case c2 => exact ints_oneCell _ _
  case c3 => unfold maxLen; omega
  case c4 => omega
  case c5 => simp; omega
  intro v1 w1 hown1 hgrow1 hnil1
  have hown2 : w1.ownsRow w0.heap.size 5 1 v1 (n + 5) (xs ++ (five net svc dpc opc sls).map (Value.int .u8)) := by rw [← F5.out]; exact hown1
  have hb1 : Below w0.heap.size w0 w1 := ((hb0.alloc hsz _).alloc (by simp; omega) _).grown hgrow1 (by simp; omega) (fun k hk => (hlt k hk).1)
  have hc5 : w1.cell? ⟨w.heap.size, 5, none⟩ = some (.slice pa pl pc) := by
    refine hgrow1.cell (a := ⟨w.heap.size, 5, none⟩) (by simp) ?_
    intro hk
    have := (hlt w.heap.size hk.symm).2
    omega
  have hlt1 := hown2.lt
  have t1 := sp.below hb1
  have HL : Hid (P.length = pl) := sp.hlen
  clear hown hown1 hgrow1 hlt hb0 F5 hnil1
  cases pa with
  | none =>
    obtain ⟨rfl, rfl⟩ := sp.nil rfl
    go_wp2_with (at_builtin; refine wpList_append_own_none rfl (.tmp 94) (.tmp 96) 22 rfl w0.heap.size 5 i0 1 Ybaf.underlying22 hi v1 (n + 5) _ rfl hown2 rfl ?_)
    go_wp2
    go_ret2
    have hP : P = [] := List.eq_nil_of_length_eq_zero HL.out
    subst hP
    exact ⟨v1, rfl, by simpa using hown2, hb1⟩
  | some ad =>
    go_wp2_with (at_builtin; refine wpList_append_own _ rfl (.tmp 94) (.tmp 96) 22 rfl w0.heap.size 5 i0 (.int .u8 0) 1 1 Ybaf.underlying22 hi hz0 hz1 hz2 rfl (by decide) v1 (n + 5) _ rfl hown2 ad pl pc (P.map (Value.int .u8)) rfl ?e0 ?e1 ?e2 ?e3 ?e4 ?e5 ?_)
    case e0 => simp [HL.out]
    case e1 => exact t1.news ad rfl
    case e2 => exact ints_oneCell _ _
    case e3 => unfold maxLen; omega
    case e4 => omega
    case e5 => exact hb1.size
    intro v2 w2 hown3 hgrow3 hnil3
    have hb2 : Below w0.heap.size w0 w2 := hb1.grown hgrow3 hb1.size (fun k hk => (hlt1 k hk).1)
    go_wp2
    go_ret2
    exact ⟨v2, rfl, by rw [List.append_assoc]; exact hown3, hb2⟩
end Go.Proofs.YbulkbdfmFmt
