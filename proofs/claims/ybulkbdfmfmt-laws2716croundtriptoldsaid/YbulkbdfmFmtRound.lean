/-
  THE WALK OVER mtp3.LawS2716CRoundTrip (function 6).
-/
import Derived.Test.YbulkbdfmFmtAppOk
import Derived.Test.YbulkbdfmFmtEq
import Derived.Test.YbulkbdfmFmtParse
import Derived.Stop.IfaceNil
import GoSem.ClaimData
namespace Go.Proofs.YbulkbdfmFmt
open Go.RowKit

theorem sl_drop {w : World} {g cap l : Nat} {L P : List Int} (h : Sl w (some ⟨g, 0, none⟩) (5 + l) cap (L ++ P)) (hL : L.length = 5) : Sl w (some ⟨g, 5, none⟩) l (cap - 5) P := by
  have hlen := h.hlen
  have hf := h.fits
  have hr := h.room
  simp at hlen
  refine ⟨by omega, by omega, by omega, fun e => (by cases e), fun x hx t ht => ?_, fun x hx => h.bytes x (List.mem_append_right _ hx)⟩
  cases hx
  have := h.cells _ rfl (5 + t) (by omega)
  rw [Addr.add_lit] at this ⊢
  rw [show 0 + (5 + t) = 5 + t from by omega] at this
  rw [this]
  simp [List.getD, List.getElem?_append_right, hL]

theorem parse_any (g l cap : Nat) (net svc dpc opc sls : Int) (P : List Int) (w : World) (n0 : 0 ≤ net) (n1 : net ≤ 3) (s0 : 0 ≤ svc) (s1 : svc ≤ 15) (d0 : 0 ≤ dpc) (d1 : dpc ≤ 16383) (o0 : 0 ≤ opc) (o1 : opc ≤ 16383) (l0 : 0 ≤ sls) (l1 : sls ≤ 15)
    (hO : Sl w (some ⟨g, 0, none⟩) (5 + l) cap (five net svc dpc opc sls ++ P)) (hm : l ≤ 4000) (hgp : g < w.heap.size) :
    Calls Ybaf.prog 11 #[.pointer (some ⟨w.heap.size, 0, none⟩), .slice (some ⟨g, 0, none⟩) (5 + l) cap] (w.alloc (.cells #[.int .u8 0, .int .u8 0, .int .u16 0, .int .u16 0, .int .u8 0, .slice none 0 0] 33)) fun e w' => e = .returned .nilIface ∧
      ∃ ad, Parsed w' w.heap.size net svc dpc opc sls ad l (cap - 5) ∧ Sl w' (some ad) l (cap - 5) P ∧ Below w.heap.size w w' := by
  have hc := hO.cells _ rfl
  have hv := parse_vals net svc dpc opc sls _ _ _ _ _ n0 n1 s0 s1 d0 d1 o0 o1 l0 l1 rfl
  have hr := five_range net svc dpc opc sls n0 n1 s0 s1 d0 d1 o0 o1 l0 l1
  have hfit := hO.fits
  have e5 : 5 + l - 5 = l := by omega
  by_cases h5 : cap = 5
  · refine (parse_edge g (5 + l) cap net svc dpc opc sls _ _ _ _ _ w (by omega) (by omega) hfit hgp (hc 0 (by omega)) (hc 1 (by omega)) (hc 2 (by omega)) (hc 3 (by omega)) (hc 4 (by omega))
      (hr _ (by simp [five])) (hr _ (by simp [five])) (hr _ (by simp [five])) (hr _ (by simp [five])) (hr _ (by simp [five])) hv h5).mono ?_
    rintro e w' ⟨he, hp, hb⟩
    rw [e5] at hp
    refine ⟨he, _, hp, ?_, hb⟩
    have hl : l = 0 := by omega
    subst hl
    have hP : P = [] := by have := hO.hlen; simpa [five] using this
    subst hP
    exact ⟨rfl, by omega, by have := hO.room; omega, fun e => (by cases e), fun x hx t ht => absurd ht (by omega), fun n hn => (by simp at hn)⟩
  · refine (parse_far g (5 + l) cap net svc dpc opc sls _ _ _ _ _ w (by omega) (by omega) hfit hgp (hc 0 (by omega)) (hc 1 (by omega)) (hc 2 (by omega)) (hc 3 (by omega)) (hc 4 (by omega))
      (hr _ (by simp [five])) (hr _ (by simp [five])) (hr _ (by simp [five])) (hr _ (by simp [five])) (hr _ (by simp [five])) hv h5).mono ?_
    rintro e w' ⟨he, hp, hb⟩
    rw [e5] at hp
    exact ⟨he, _, hp, (sl_drop hO rfl).below hb, hb⟩

set_option maxHeartbeats 1000000 in
set_option maxRecDepth 100000 in
theorem round_in (network service dpc opc sls : Int) (a5 : Option Addr) (len5 cap5 : Nat) (P : List Int) (w : World) (sp : Sl w a5 len5 cap5 P) (h5 : len5 ≤ 1024)
    (b0 : 0 ≤ network ∧ network ≤ 255) (b1 : 0 ≤ service ∧ service ≤ 255) (b2 : 0 ≤ dpc ∧ dpc ≤ 65535) (b3 : 0 ≤ opc ∧ opc ≤ 65535) (b4 : 0 ≤ sls ∧ sls ≤ 255) :
    Calls Ybaf.prog 6 #[.int .u8 network, .int .u8 service, .int .u16 dpc, .int .u16 opc, .int .u8 sls, .slice a5 len5 cap5] w fun e w' => e = .returned (.bool true) ∧ Below w.heap.size w w' := by
  obtain ⟨Wc, hWc⟩ : ∃ W, W = w.alloc (.cells #[.int .u8 (network % 4), .int .u8 (service % 16), .int .u16 (dpc % 16384), .int .u16 (opc % 16384), .int .u8 (sls % 16), .slice a5 len5 cap5] 33) := ⟨_, rfl⟩
  have hbc : Below w.heap.size w Wc := by rw [hWc]; exact (Below.refl _ _).alloc (Nat.le_refl _) _
  have hsc : Wc.heap.size = w.heap.size + 1 := by rw [hWc]; simp
  have k0 : Wc.cell? ⟨w.heap.size, 0, none⟩ = some (.int .u8 (network % 4)) := by rw [hWc]; simp
  have k1 : Wc.cell? ⟨w.heap.size, 1, none⟩ = some (.int .u8 (service % 16)) := by rw [hWc]; simp
  have k2 : Wc.cell? ⟨w.heap.size, 2, none⟩ = some (.int .u16 (dpc % 16384)) := by rw [hWc]; simp
  have k3 : Wc.cell? ⟨w.heap.size, 3, none⟩ = some (.int .u16 (opc % 16384)) := by rw [hWc]; simp
  have k4 : Wc.cell? ⟨w.heap.size, 4, none⟩ = some (.int .u8 (sls % 16)) := by rw [hWc]; simp
  have HW : Hid (Wc = w.alloc (.cells #[.int .u8 (network % 4), .int .u8 (service % 16), .int .u16 (dpc % 16384), .int .u16 (opc % 16384), .int .u8 (sls % 16), .slice a5 len5 cap5] 33)) := hWc
  have HS : Hid (Wc.heap.size = w.heap.size + 1) := hsc
  have K : Hid (Wc.cell? ⟨w.heap.size, 0, none⟩ = some (.int .u8 (network % 4)) ∧ Wc.cell? ⟨w.heap.size, 1, none⟩ = some (.int .u8 (service % 16)) ∧ Wc.cell? ⟨w.heap.size, 2, none⟩ = some (.int .u16 (dpc % 16384)) ∧ Wc.cell? ⟨w.heap.size, 3, none⟩ = some (.int .u16 (opc % 16384)) ∧ Wc.cell? ⟨w.heap.size, 4, none⟩ = some (.int .u8 (sls % 16))) := ⟨k0, k1, k2, k3, k4⟩
  clear hWc hsc k0 k1 k2 k3 k4
  have sc := sp.below hbc
  go_enter Ybaf.func6, Ybaf.ntmps6
  go_wp2_with fail
  rw [← HW.out]
  refine (ab_ok (network % 4) (service % 16) (dpc % 16384) (opc % 16384) (sls % 16) a5 len5 cap5 P _ 0 [] Wc Wc (Below.refl _ _) sc (World.ownsRow_nil _ _ _ _) (by omega) (by omega) (by omega) (by omega) (by omega) (by omega) (by omega) (by omega) (by omega) (by omega) (by omega) (by omega)).mono ?_
  rintro e w3 ⟨v3, rfl, hown3, hb3⟩
  rw [show 0 + 5 + len5 = 5 + len5 from by omega] at hown3
  obtain ⟨g3, cap3, rfl, hg3⟩ : ∃ g c, v3 = .slice (some ⟨g, 0, none⟩) (5 + len5) c ∧ g < w3.heap.size := by
    have hl := hown3.lt
    rcases hown3.2 with ⟨_, h'⟩ | ⟨g, c, cur, rfl, _, hh, _⟩
    · omega
    · exact ⟨g, c, rfl, (hl g rfl).2⟩
  have hO : Sl w3 (some ⟨g3, 0, none⟩) (5 + len5) cap3 (five (network % 4) (service % 16) (dpc % 16384) (opc % 16384) (sls % 16) ++ P) := by
    refine sl_of_own (base := Wc.heap.size) ?_ ?_
    · simpa using hown3
    · intro x hx
      rcases List.mem_append.1 hx with hx | hx
      · exact five_range _ _ _ _ _ (by omega) (by omega) (by omega) (by omega) (by omega) (by omega) (by omega) (by omega) (by omega) (by omega) x hx
      · exact sp.bytes x hx
  clear hown3
  go_wp2_with fail
  refine (parse_any g3 len5 cap3 (network % 4) (service % 16) (dpc % 16384) (opc % 16384) (sls % 16) P w3 (by omega) (by omega) (by omega) (by omega) (by omega) (by omega) (by omega) (by omega) (by omega) (by omega) hO (by omega) hg3).mono ?_
  rintro e w4 ⟨rfl, ad, hp, hs, hb4⟩
  have hb3s := hb3.size
  have hbW : Below Wc.heap.size Wc w4 := hb3.trans (hb4.mono hb3s)
  have hlt : w.heap.size < Wc.heap.size := by rw [HS.out]; omega
  have k0 := (hbW.cell (p := ⟨w.heap.size, 0, none⟩) hlt).trans K.out.1
  have k1 := (hbW.cell (p := ⟨w.heap.size, 1, none⟩) hlt).trans K.out.2.1
  have k2 := (hbW.cell (p := ⟨w.heap.size, 2, none⟩) hlt).trans K.out.2.2.1
  have k3 := (hbW.cell (p := ⟨w.heap.size, 3, none⟩) hlt).trans K.out.2.2.2.1
  have k4 := (hbW.cell (p := ⟨w.heap.size, 4, none⟩) hlt).trans K.out.2.2.2.2
  obtain ⟨f0, f1, f2, f3, f4, f5⟩ := hp
  have hb5 : Below w.heap.size w w4 := hbc.trans (hbW.mono (by omega))
  have s5 := sp.below hb5
  clear hbW hb3 hb4 hO sc HW HS K hbc
  go_wp2_with fail
  refine (ceq_any _ hs s5 (by omega)).mono ?_
  rintro e w5 ⟨rfl, hb6⟩
  go_wp2
  go_ret
  exact ⟨rfl, hb5.trans (hb6.mono hb5.size)⟩

set_option maxHeartbeats 400000 in
theorem round_long (network service dpc opc sls : Int) (a5 : Option Addr) (len5 cap5 : Nat) (w : World) (h5 : 1024 < len5) :
    Calls Ybaf.prog 6 #[.int .u8 network, .int .u8 service, .int .u16 dpc, .int .u16 opc, .int .u8 sls, .slice a5 len5 cap5] w fun e w' => e = .returned (.bool true) ∧ Below w.heap.size w w' := by
  go_enter Ybaf.func6, Ybaf.ntmps6
  go_wp2
  go_ret
  exact ⟨rfl, Below.refl _ _⟩

theorem round_any (_F : Go.Stop.Interp) (network service dpc opc sls : Int) (a5 : Option Addr) (len5 cap5 : Nat) (z5 : List Int) (w : World) (_hF : _F.answers w.tape)
    (w0 : (Lit.int .u8 network).wf = true) (w1 : (Lit.int .u8 service).wf = true) (w2 : (Lit.int .u16 dpc).wf = true) (w3 : (Lit.int .u16 opc).wf = true) (w4 : (Lit.int .u8 sls).wf = true) (w5 : IsRow .u8 w a5 len5 cap5 z5) :
    Calls Ybaf.prog 6 #[.int .u8 network, .int .u8 service, .int .u16 dpc, .int .u16 opc, .int .u8 sls, .slice a5 len5 cap5] w fun e w' => e = .returned (.bool true) ∧ Below w.heap.size w w' := by
  by_cases h5 : 1024 < len5
  · exact round_long network service dpc opc sls a5 len5 cap5 w h5
  · exact round_in network service dpc opc sls a5 len5 cap5 _ w w5.sl (by omega) (bounds_u8 w0) (bounds_u8 w1) (bounds_u16 w2) (bounds_u16 w3) (bounds_u8 w4)

end Go.Proofs.YbulkbdfmFmt
