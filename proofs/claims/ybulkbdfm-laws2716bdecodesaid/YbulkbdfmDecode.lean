/-
  THE PROOF OF 'Rows.LawS2716BDecodeSaid' (pcap.LawS2716BDecode, function 3): the seed's shell, its hole filled.
-/
import Derived.Test.YbulkbdfmRows
import Derived.WalkKit
import Derived.ProofKit
import Derived.OpenShut
import Derived.ShutString
import Derived.ChangeOld
import Derived.Below
import Derived.Test.YbulkbdfmDec
import Derived.OwnWalk
import Derived.Laws.OwnMore
namespace Go.Proofs.Ybulkbdfm.lawS2716BDecode
open Go.ChangeShapes Go.WideShapes Go.ChangeAt Go.RowKit
open Go.ChangeMaps (open_string shut_string)
open Go.Proofs.Ybulkbdfm
set_option linter.unusedVariables false

theorem own : ownKnob Yba.prog.godebug = none := by kernel_rfl
theorem laidOut : laidOutB Yba.prog = true := by kernel_rfl

/-- WHAT THE WALK IS TOLD OF A SLICE OF INTEGERS THAT CAME IN: it is nil; or it leads to a row of 'cap' cells, the numbers 'zs' (the first 'len' are its elements, the rest its spare room), each fitting its kind. -/
def IsRow (k : IntKind) (w : World) (a : Option Addr) (len cap : Nat) (zs : List Int) : Prop :=
  (a = none ∧ len = 0 ∧ cap = 0 ∧ zs = []) ∨
  ∃ x, a = some x ∧ len ≤ cap ∧ cap ≤ maxLen ∧ zs.length = cap ∧ (∀ i, i < zs.length → w.cell? (x.add i) = some (.int k (zs.getD i 0))) ∧ ∀ n ∈ zs, (Lit.int k n).wf = true

theorem IsRow.parts {k : IntKind} {w : World} {a : Option Addr} {len cap : Nat} {zs : List Int} (h : IsRow k w a len cap zs) :
    (zs.take len).length = len ∧ (a = none → len = 0 ∧ cap = 0) ∧ ∀ w', Below w.heap.size w w' → ∀ ad, a = some ad → ∀ j u, ((zs.take len).map (Value.int k))[j]? = some u → w'.cell? (ad.add j) = some u := by
  rcases h with ⟨rfl, rfl, rfl, rfl⟩ | ⟨x, rfl, hl, hm, hz, hc, hw⟩
  · exact ⟨rfl, fun _ => ⟨rfl, rfl⟩, fun w' _ ad h => (by cases h)⟩
  · refine ⟨by simp; omega, fun h => (by cases h), fun w' hb ad had j u hu => ?_⟩
    cases had
    have hj : j < (zs.take len).length := by have := (List.getElem?_eq_some_iff.1 hu).1; simpa using this
    have hj' : j < len ∧ j < zs.length := by simp at hj; omega
    have hcj := hc j hj'.2
    rw [hb.cell (block_lt_of_cell hcj), hcj]
    simp [hj'.1, hj'.2] at hu
    simp [List.getD, hj'.2, hu]

theorem info5 : (Yba.prog.info? 5).map (fun i => (i.zero, i.size, i.bytes)) = some (some (.int .u8 0), 1, 1) := by kernel_rfl

/-! ### STEP 1: THE WALK: the Go text returns true, AND WRITES NOTHING THAT WAS THERE: 'Below w.heap.size w w'' (Derived/Below.lean: '.refl', '.alloc', '.drew', '.setCell' at a new block, '.trans'). Open each 'IsRow' by 'rcases' AHEAD of 'go_enter'; part every test ahead of the walk. -/
theorem walk (a0 : Bool) (a1 : Bool) (a2 : Int) (a3 : Int) (a4 : Int) (a5 : Int) (a6 : Int) (a7 : Option Addr) (len7 cap7 : Nat) (z7 : List Int) (w : World) (w2 : (Lit.int .u32 a2).wf = true) (w3 : (Lit.int .u8 a3).wf = true) (w4 : (Lit.int .u8 a4).wf = true) (w5 : (Lit.int .u8 a5).wf = true) (w6 : (Lit.int .u8 a6).wf = true) (w7 : IsRow .u8 w a7 len7 cap7 z7) :
    Calls Yba.prog 3 #[.bool a0, .bool a1, .int .u32 a2, .int .u8 a3, .int .u8 a4, .int .u8 a5, .int .u8 a6, .slice a7 len7 cap7] w fun e w' => e = .returned (.bool true) ∧ Below w.heap.size w w' := by
  have ba := bounds_u8 w3
  have bb := bounds_u8 w4
  have bc := bounds_u8 w5
  have bd := bounds_u8 w6
  clear w2 w3 w4 w5 w6
  by_cases h0 : 1024 < len7
  · go_enter Yba.func3, Yba.ntmps3
    go_wp2
    go_ret
    exact ⟨rfl, Below.refl _ _⟩
  obtain ⟨hlen, hnone, hnews⟩ := w7.parts
  have HL : Hid ((z7.take len7).length = len7) := hlen
  clear hlen w7
  generalize z7.take len7 = X at HL hnews
  obtain ⟨i0, hi, hz0, hz1, hz2⟩ := info_parts info5
  go_enter Yba.func3, Yba.ntmps3
  go_wp2_with (at_make; refine wpList_make_own _ rfl _ _ 23 rfl w.heap.size 5 i0 (.int .u8 0) 1 Yba.underlying23 hi hz0 hz1 _ _ _ (4 + len7) rfl rfl (by omega) ?b2 ?b3 (Nat.le_refl _) ?_)
  case b2 => rw [hz2]; omega
  case b3 => unfold maxLen; omega
  intro w1 hown1 hgrow1
  have hb1 : Below w.heap.size w w1 := (Below.refl _ _).grown hgrow1 (Nat.le_refl _) (fun k h => by cases h)
  go_wp2_with (at_builtin; refine wpList_append_fits _ rfl (.tmp 27) (.tmp 32) 23 rfl w.heap.size 5 i0 1 Yba.underlying23 hi hz1 w.heap.size 0 (4 + len7) [] rfl (hown1.alloc _) ⟨w1.heap.size, 0, none⟩ 4 4 [.int .u8 a3, .int .u8 a4, .int .u8 a5, .int .u8 a6] rfl rfl ?c1 ?c2 ?c3 ?_)
  case c1 =>
    intro j u hj
    match j, hj with
    | 0, hj => simp at hj; subst hj; simp [Addr.add]
    | 1, hj => simp at hj; subst hj; simp [Addr.add]
    | 2, hj => simp at hj; subst hj; simp [Addr.add]
    | 3, hj => simp at hj; subst hj; simp [Addr.add]
    | j + 4, hj => simp at hj
  case c2 => intro u hu; simp at hu; rcases hu with rfl | rfl | rfl | rfl <;> rfl
  case c3 => omega
  intro w2 hown2 hgrow2
  have hb2 : Below w.heap.size w w2 := (hb1.alloc hb1.size _).grown hgrow2 (by have := hb1.size; simp; omega) (fun k h => by cases h; exact Nat.le_refl _)
  try simp only [Nat.zero_add, List.nil_append] at hown2
  go_wp2_with (at_builtin; refine wpList_append_fits_any _ rfl (.tmp 34) (.tmp 35) 23 rfl w.heap.size 5 i0 1 Yba.underlying23 hi hz1 w.heap.size 4 (4 + len7) _ rfl hown2 a7 len7 cap7 (X.map (Value.int .u8)) rfl ?d0 ?d1 ?d2 ?d3 ?d4 ?_)
  case d0 => simp [HL.out]
  case d1 => exact hnone
  case d2 => exact hnews _ hb2
  case d3 => exact ints_oneCell _ _
  case d4 => omega
  intro w3 hown3 hgrow3
  have hb3 : Below w.heap.size w w3 := hb2.grown hgrow3 hb2.size (fun k h => by cases h; exact Nat.le_refl _)
  have hz3 : w.heap.size < w3.heap.size := by
    have := (World.ownsRow.lt hown3 w.heap.size rfl).2
    exact this
  have hf : Four w3 w.heap.size a3 a4 a5 a6 := by
    refine ⟨?_, ?_, ?_, ?_, ba, bb, bc, bd⟩ <;> (rw [hown3.cellAt _ (by omega)]; rfl)
  clear hown1 hown2 hown3 hgrow1 hgrow2 hgrow3 hnews
  obtain ⟨v, hv⟩ : ∃ v, (if a0 then num4 a3 a4 a5 a6 else num4 a6 a5 a4 a3) = v := ⟨_, rfl⟩
  have HV : Hid ((if a0 then num4 a3 a4 a5 a6 else num4 a6 a5 a4 a3) = v) := hv
  clear hv
  go_wp2_with fail
  refine (uint32_any _ _ _ _ a0 a3 a4 a5 a6 _ (by omega) (by omega) (hf.below ((Below.refl _ _).alloc (Nat.le_refl _) _) hz3) (by simp)).mono ?_
  rintro e w4 ⟨rfl, hb4⟩
  rw [HV.out]
  have c0 := hb4.cell (p := ⟨w3.heap.size, 0, none⟩) (by simp)
  have c1 := hb4.cell (p := ⟨w3.heap.size, 1, none⟩) (by simp)
  have c2 := hb4.cell (p := ⟨w3.heap.size, 2, none⟩) (by simp)
  have c3 := hb4.cell (p := ⟨w3.heap.size, 3, none⟩) (by simp)
  have c4 := hb4.cell (p := ⟨w3.heap.size, 4, none⟩) (by simp)
  simp at c0 c1 c2 c3 c4
  have hb4' : Below w.heap.size w w4 := (hb3.alloc hb3.size _).trans (hb4.mono (by have := hb3.size; simp; omega))
  have hz4 : w3.heap.size < w4.heap.size := by have := hb4.size; simp at this; omega
  clear hb4
  go_wp2_with fail
  refine (exp_any a0 a3 a4 a5 a6 _ ba bb bc bd).mono ?_
  rintro e w5 ⟨rfl, hb5⟩
  rw [HV.out]
  have d0 := (hb5.cell (p := ⟨w3.heap.size, 0, none⟩) hz4).trans c0
  have d1 := (hb5.cell (p := ⟨w3.heap.size, 1, none⟩) hz4).trans c1
  have d2 := (hb5.cell (p := ⟨w3.heap.size, 2, none⟩) hz4).trans c2
  have d3 := (hb5.cell (p := ⟨w3.heap.size, 3, none⟩) hz4).trans c3
  have d4 := (hb5.cell (p := ⟨w3.heap.size, 4, none⟩) hz4).trans c4
  have hb5' : Below w.heap.size w w5 := hb4'.trans (hb5.mono hb4'.size)
  clear c0 c1 c2 c3 c4 hb5 HV hf
  go_wp2
  go_ret
  exact ⟨rfl, hb5'⟩

/-! ### THE ROW's STEP: WRITTEN OUT: LEAVE IT -/
set_option maxRecDepth 100000 in
theorem lifted (os : Os) (started : os.Started) (H : Type) (enc : TypeId × Value → H) :
    ReturnsInHanded {} Yba.checked os 3 .any (Rows.lawS2716BDecodeSpec.pre6 enc Yba.prog Yba.f3 Rows.lawS2716BDecodeRow.domain false) (Rows.lawS2716BDecodeSpec.post enc Yba.prog Yba.f3 false true false false) := by
  refine returnsInHanded_of_change (C := Yba.checked) own started (by kernel_rfl) Yba.func3
    (ChangeSpec.witness6 (enc := enc) (C := Yba.checked) false ⟨#[], #[.bool false, .bool false, .int .u32 0, .int .u8 0, .int .u8 0, .int .u8 0, .int .u8 0, .slice none 0 0], []⟩ 8 (by kernel_rfl) (by kernel_rfl) (by kernel_rfl) (by kernel_rfl)) ?_
  intro W base args ds gs before hval0 hW hcnd _
  have hval : ∀ (j : Nat) t v, Yba.f3.params[j]? = some t → args[j]? = some v → Value.okWide Yba.prog W .any base t v := hval0
  have hW' := hW
  obtain ⟨p, q, hA0, hV, rfl, hfz, hnd⟩ := hW
  have hA : DataW.TrodAll enc Yba.prog W 0 (fun _ => true) true Yba.f3.params.toList args.toList ds p := hA0
  rw [Yba.params3] at hA hval
  obtain ⟨v0, vs0, d0, ds0, p0, q0, hargs, rfl, rfl, h0, r0⟩ := trodAll_cons hA
  obtain ⟨v1, vs1, d1, ds1, p1, q1, rfl, rfl, rfl, h1, r1⟩ := trodAll_cons r0
  obtain ⟨v2, vs2, d2, ds2, p2, q2, rfl, rfl, rfl, h2, r2⟩ := trodAll_cons r1
  obtain ⟨v3, vs3, d3, ds3, p3, q3, rfl, rfl, rfl, h3, r3⟩ := trodAll_cons r2
  obtain ⟨v4, vs4, d4, ds4, p4, q4, rfl, rfl, rfl, h4, r4⟩ := trodAll_cons r3
  obtain ⟨v5, vs5, d5, ds5, p5, q5, rfl, rfl, rfl, h5, r5⟩ := trodAll_cons r4
  obtain ⟨v6, vs6, d6, ds6, p6, q6, rfl, rfl, rfl, h6, r6⟩ := trodAll_cons r5
  obtain ⟨v7, vs7, d7, ds7, p7, q7, rfl, rfl, rfl, h7, r7⟩ := trodAll_cons r6
  obtain ⟨rfl, rfl, rfl⟩ := trodAll_nil r7
  obtain rfl : args = #[v0, v1, v2, v3, v4, v5, v6, v7] := by cases args; simp_all
  obtain ⟨rfl, rfl⟩ := trodVars_none hV
  obtain ⟨a0, rfl, rfl, rfl⟩ := open_bool Yba.underlying4 (hval 0 4 v0 rfl rfl) h0
  obtain ⟨a1, rfl, rfl, rfl⟩ := open_bool Yba.underlying4 (hval 1 4 v1 rfl rfl) h1
  obtain ⟨a2, rfl, rfl, rfl, w2⟩ := open_int Yba.underlying22 (hval 2 22 v2 rfl rfl) h2
  obtain ⟨a3, rfl, rfl, rfl, w3⟩ := open_int Yba.underlying5 (hval 3 5 v3 rfl rfl) h3
  obtain ⟨a4, rfl, rfl, rfl, w4⟩ := open_int Yba.underlying5 (hval 4 5 v4 rfl rfl) h4
  obtain ⟨a5, rfl, rfl, rfl, w5⟩ := open_int Yba.underlying5 (hval 5 5 v5 rfl rfl) h5
  obtain ⟨a6, rfl, rfl, rfl, w6⟩ := open_int Yba.underlying5 (hval 6 5 v6 rfl rfl) h6
  obtain ⟨a7, len7, cap7, rfl⟩ := okWide_slice Yba.underlying23 (hval 7 23 v7 rfl rfl)
  have k7 := h7
  have lt7 : ∀ x ∈ p7, x.block < W.heap.size := by obtain ⟨m, hm⟩ := k7; exact DataW.trod_lt m _ _ _ hm
  obtain ⟨z7, w7⟩ : ∃ zs, IsRow .u8 W a7 len7 cap7 zs := by
    obtain ⟨fuel, hf⟩ := h7
    rcases open_ints Yba.underlying23 Yba.underlying5 (by kernel_rfl) hf with ⟨hcs, _⟩ | ⟨x, l, c, zs, hcs, _, hl, hm, hz, _, hcell, hwz⟩
    · simp [Value.cells] at hcs
      obtain ⟨rfl, rfl, rfl⟩ := hcs
      exact ⟨[], .inl ⟨rfl, rfl, rfl, rfl⟩⟩
    · simp [Value.cells] at hcs
      obtain ⟨rfl, rfl, rfl⟩ := hcs
      exact ⟨zs, .inr ⟨_, rfl, hl, hm, by simpa using hz, hcell, hwz⟩⟩
  clear hA0 hval0
  refine (walk a0 a1 a2 a3 a4 a5 a6 a7 len7 cap7 z7 W w2 w3 w4 w5 w6 w7).mono fun e W' ⟨he, bel⟩ => ?_
  subst he
  exact ⟨_, rfl, _, _, _, [], _, [], hW', trodAll_mk1 (shut_bool Yba.underlying4 _), (trodAll_cons_mk (shut_bool Yba.underlying4 _) (trodAll_cons_mk (shut_bool Yba.underlying4 _) (trodAll_cons_mk (shut_int Yba.underlying22 w2) (trodAll_cons_mk (shut_int Yba.underlying5 w3) (trodAll_cons_mk (shut_int Yba.underlying5 w4) (trodAll_cons_mk (shut_int Yba.underlying5 w5) (trodAll_cons_mk (shut_int Yba.underlying5 w6) (trodAll_cons_mk (Below.trod laidOut (by kernel_rfl) (of_decide_eq_true (by kernel_rfl)) k7 bel lt7) trodAll_mk0)))))))), rfl, bel.frame _, fun h => by cases h⟩

theorem over : Rows.lawS2716BDecodeRow.holds Yba.pinned (OpenSpec.ofChange Rows.lawS2716BDecodeSpec) :=
  OpenClaim.holds_of_wide 3 Yba.f3 rfl rfl rfl rfl rfl rfl rfl ⟨rfl, rfl, rfl, rfl, rfl⟩ rfl rfl rfl rfl rfl (by kernel_rfl) Yba.func3 (by kernel_rfl)
    (of_decide_eq_true (by kernel_rfl)) (by unfold Func.isWrapper; first | (rw [if_pos (by decide +kernel)]; kernel_rfl) | (rw [if_neg (by decide +kernel)]; exact ⟨rfl, rfl⟩))
    (fun os started H enc _ => lifted os started H enc)

/-- ████ THE STATEMENT ████ -/
theorem proved : Rows.LawS2716BDecodeSaid := over
end Go.Proofs.Ybulkbdfm.lawS2716BDecode

namespace Go.Proofs.Ybulkbdfm
theorem lawS2716BDecode_proved : Rows.LawS2716BDecodeSaid := lawS2716BDecode.proved
end Go.Proofs.Ybulkbdfm
