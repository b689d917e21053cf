/- 'FnAlignedStays': what is aligned stays when it is aligned again, if the padding ends no cells. -/
import Derived.Test.YtaagcdlghoiolaaDoorCards
import Derived.Test.YtaagcdlghoiolaaDoorTie
import Derived.Test.YtaagcdlghoiolaaDoorVe
import Derived.Test.YtaagcdlghoiolaaDoorQe
import Derived.Test.YtaagcdlghoiolaaDoorLk
import Derived.Test.YtaagcdlghoiolaaDoorPq
import Derived.WalkKit
import Derived.ProofKit
import Derived.OpenShut
import Derived.Deep.DeepHandedRow
import Derived.Deep.DeepWitnessRowRef
namespace Go.Proofs.YtaagcdlghoiolaaDoor
open Go.RowKit Go.Tw Go.Sort
set_option maxRecDepth 100000

set_option maxHeartbeats 8000000 in
theorem alignedStays_calls (w : World) (mn tb pd fl : Int) (ch : UInt8) {v : Value} {s : List UInt8} (h : Rd w v s) (hT : Lib.Utf8Tabs 1 2 w) :
    Calls Tryd.prog 5 #[.agg #[.int .i64 mn, .int .i64 tb, .int .i64 pd, .int .u8 ch.toNat, .int .i64 fl], v] w fun e w' => e = .returned (.bool true) ∧ Below w.heap.size w w' := by
  have L0 := Lib.hid (LS.start (mn := mn) (tb := tb) (pd := pd) (ch := ch) (fl := fl) h)
  have HT := Lib.hid hT
  obtain ⟨ao, cp, rfl, g1, g2⟩ := L0.out.shape
  obtain ⟨d0, d1, d2, d3, d4⟩ := L0.out.cells
  have HRR := Lib.hid h
  clear h hT
  by_cases hl : s.length ≤ 2147483647
  rotate_left
  · go_enter Tryd.func5, Tryd.ntmps5
    go_wp2_with fail
    go_ret
    exact ⟨rfl, L0.out.bel⟩
  obtain ⟨g, hg⟩ : ∃ g, g = wfl fl 32 false := ⟨_, rfl⟩
  have HWI := Lib.hid (with_calls' (w.alloc (.cells #[.int .i64 mn, .int .i64 tb, .int .i64 pd, .int .u8 ch.toNat, .int .i64 fl] 23)) mn tb pd fl ch 32 false)
  rw [← hg] at HWI
  have HG := Lib.hid hg
  clear hg
  go_enter Tryd.func5, Tryd.ntmps5
  go_wp2_with fail
  refine HWI.out.mono ?_
  rintro e w0 ⟨rfl, hbw⟩
  have hL1 := L0.out.step hbw
  have hL2 : LS w mn tb pd ch g (.slice ao s.length cp) s (((((w0.setCell ⟨w.heap.size, 0, none⟩ (.int .i64 mn)).setCell ⟨w.heap.size, 1, none⟩ (.int .i64 tb)).setCell ⟨w.heap.size, 2, none⟩ (.int .i64 pd)).setCell ⟨w.heap.size, 3, none⟩ (.int .u8 ch.toNat)).setCell ⟨w.heap.size, 4, none⟩ (.int .i64 g)) := hL1.setFl HRR.out g
  obtain ⟨c0, c1, c2, c3, c4⟩ := hL1.cells
  have f0 := frozen_of_blk hL1.conf 0
  have f1 := frozen_of_blk hL1.conf 1
  have f2 := frozen_of_blk hL1.conf 2
  have f3 := frozen_of_blk hL1.conf 3
  have f4 := frozen_of_blk hL1.conf 4
  obtain ⟨y0, y1, y2, y3, y4⟩ := hL2.cells
  have HL2 := Lib.hid hL2
  clear hL1 hL2 hbw HWI L0 d0 d1 d2 d3 d4
  go_wp2_with fail
  clear c0 c1 c2 c3 c4 f0 f1 f2 f3 f4 y0 y1 y2 y3 y4
  revert HL2
  generalize (((((w0.setCell ⟨w.heap.size, 0, none⟩ (.int .i64 mn)).setCell ⟨w.heap.size, 1, none⟩ (.int .i64 tb)).setCell ⟨w.heap.size, 2, none⟩ (.int .i64 pd)).setCell ⟨w.heap.size, 3, none⟩ (.int .u8 ch.toNat)).setCell ⟨w.heap.size, 4, none⟩ (.int .i64 g)) = wx
  intro LX
  refine (spaces_calls _ mn tb pd g ch LX.out.rd (Utf8Tabs_below HT.out LX.out.bel)).mono ?_
  rintro e w1 ⟨b, rfl, hb1, hfact⟩
  have L1 := Lib.hid (LX.out.step hb1)
  have HFA := Lib.hid hfact
  clear hb1 LX  hfact
  cases b
  · go_wp2_with fail
    go_ret
    exact ⟨rfl, L1.out.bel⟩
  obtain ⟨m, t, p, f, rfl, rfl, rfl, rfl, l1, l2, l3, l4, hs, h9, h128, h16, h32, ho, hm60, hp60⟩ := HFA.out rfl
  have HM60 := Lib.hid hm60
  have HP60 := Lib.hid hp60
  have H9 := Lib.hid h9
  have H128 := Lib.hid h128
  have H16 := Lib.hid h16
  have H32 := Lib.hid h32
  have HO := Lib.hid ho
  clear HFA h9 h128 h16 h32 ho hm60 hp60
  have HTM := Lib.hid (tame_calls w1 L1.out.rd (by omega))
  obtain ⟨xt, hxt⟩ : ∃ x, x = tame s := ⟨_, rfl⟩
  rw [← hxt] at HTM
  have HXT := Lib.hid hxt
  clear hxt
  go_wp2_with fail
  refine HTM.out.mono ?_
  rintro e wt ⟨rfl, rfl⟩
  clear HTM
  cases xt
  · go_wp2_with fail
    go_ret
    exact ⟨rfl, L1.out.bel⟩
  have HTm := Lib.hid (tame_Tm HXT.out.symm)
  clear HXT
  obtain ⟨d0, d1, d2, d3, d4⟩ := L1.out.cells
  go_wp2_with fail
  refine (feeds_calls w1 m t p f l4 ch L1.out.rd (by omega)).mono ?_
  rintro e w2 ⟨b, rfl, hb2, hfd⟩
  have L2 := Lib.hid (L1.out.step hb2)
  have HFD := Lib.hid hfd
  clear hb2 L1 hfd d0 d1 d2 d3 d4
  cases b
  rotate_left
  · go_wp2_with fail
    go_ret
    exact ⟨rfl, L2.out.bel⟩
  have HNS := Lib.hid (show noShut s from by have := HFD.out rfl; rwa [cellsGo_tame s [] HTm.out] at this)
  clear HFD
  obtain ⟨d0, d1, d2, d3, d4⟩ := L2.out.cells
  have e10 := u8_eq (b := ch) (c := 10) (n := 10) rfl
  by_cases h10 : ch = 10
  · rw [decide_eq_true h10] at e10
    clear h10
    go_wp2_with fail
    go_ret
    exact ⟨rfl, L2.out.bel⟩
  rw [decide_eq_false h10] at e10
  have H10 := Lib.hid h10
  clear h10
  have e255 := u8_eq (b := ch) (c := 255) (n := 255) rfl
  have e60 := u8_eq (b := ch) (c := 60) (n := 60) rfl
  have e38 := u8_eq (b := ch) (c := 38) (n := 38) rfl
  by_cases h9a : 9 ≤ ch.toNat
  · by_cases h12 : ch.toNat ≤ 12
    · have i9 : (9 : Int) ≤ (ch.toNat : Int) := by omega
      have i12 : (ch.toNat : Int) ≤ (12 : Int) := by omega
      go_wp2_with fail
      go_ret
      exact ⟨rfl, L2.out.bel⟩
    · have i9 : (9 : Int) ≤ (ch.toNat : Int) := by omega
      have i12 : ¬ (ch.toNat : Int) ≤ (12 : Int) := by omega
      rw [decide_eq_false (fun h => by have := H128.out; rw [h] at this; exact absurd this (by decide))] at e255
      by_cases h60 : ch = 60
      · rw [decide_eq_true h60] at e60
        clear h60
        go_wp2_with fail
        go_ret
        exact ⟨rfl, L2.out.bel⟩
      rw [decide_eq_false h60] at e60
      by_cases h38 : ch = 38
      · rw [decide_eq_true h38] at e38
        clear h38
        go_wp2_with fail
        go_ret
        exact ⟨rfl, L2.out.bel⟩
      rw [decide_eq_false h38] at e38
      have HCH := Lib.hid (show ch ≠ 9 ∧ ch ≠ 10 ∧ ch ≠ 11 ∧ ch ≠ 12 ∧ ch ≠ 255 ∧ ch ≠ 60 ∧ ch ≠ 38 from ⟨H9.out, H10.out, fun h => by exact h12 (by rw [h]; decide), fun h => by exact h12 (by rw [h]; decide), fun h => by have := H128.out; rw [h] at this; exact absurd this (by decide), h60, h38⟩)
      clear h60 h38
      have HW := Lib.hid (write_one w2 m t p f l4 ch L2.out.rd (by omega) l1 l2 l3)
      go_wp2_with fail
      refine HW.out.mono ?_
      rintro e w3 ⟨v3, rfl, hr3, hb3⟩
      have L3 := Lib.hid (L2.out.step hb3)
      obtain ⟨fo, hfo⟩ : ∃ x, x = formatO (cfgOf m t p f ch) s := ⟨_, rfl⟩
      rw [← hfo] at hr3
      have HFfo := Lib.hid hfo
      clear hfo
      have HX3 := Lib.hid hr3
      obtain ⟨a3, c3, rfl, -, q3, -⟩ := hr3.val
      unfold maxLen at q3
      clear HW L2 hb3 hr3 d0 d1 d2 d3 d4
      have hfl : fo.length ≤ 2350000 := by rw [HFfo.out]; exact format_len (c := cfgOf m t p f ch) H9.out H16.out H32.out HM60.out HP60.out HTm.out HO.out hs
      have HAG := Lib.hid (show formatO (cfgOf m t p f ch) fo = fo from by rw [HFfo.out]; exact format_again (c := cfgOf m t p f ch) H16.out H32.out HTm.out HO.out HCH.out)
      obtain ⟨d0, d1, d2, d3, d4⟩ := L3.out.cells
      have HW := Lib.hid (write_one w3 m t p f l4 ch HX3.out (by omega) l1 l2 l3)
      go_wp2_with fail
      refine HW.out.mono ?_
      rintro e w4 ⟨v4, rfl, hr4, hb4⟩
      rw [HAG.out] at hr4
      have L4 := Lib.hid (L3.out.step hb4)
      have hSm := same_calls w4 hr4 (HX3.out.below hb4)
      rw [decide_eq_true rfl] at hSm
      have HSM := Lib.hid hSm
      obtain ⟨a4, c4, rfl, -, q4, -⟩ := hr4.val
      unfold maxLen at q4
      clear HW L3 hb4 hr4 hSm HAG d0 d1 d2 d3 d4
      go_wp2_with fail
      refine HSM.out.mono ?_
      rintro e w5 ⟨rfl, rfl⟩
      clear HSM
      obtain ⟨d0, d1, d2, d3, d4⟩ := L4.out.cells
      go_wp2_with fail
      refine (format_calls w4 m t p f l4 ch L4.out.rd hs l1 l2 l3).mono ?_
      rintro e w6 ⟨v6, rfl, hr6, hb6⟩
      rw [← HFfo.out] at hr6
      have L6 := Lib.hid (L4.out.step hb6)
      obtain ⟨a6, c6, rfl, -⟩ := hr6.val
      clear hb6 d0 d1 d2 d3 d4
      go_wp2_with fail
      go_ret
      exact ⟨rfl, L6.out.bel⟩
  · have i9 : ¬ (9 : Int) ≤ (ch.toNat : Int) := by omega
    rw [decide_eq_false (fun h => by have := H128.out; rw [h] at this; exact absurd this (by decide))] at e255
    by_cases h60 : ch = 60
    · rw [decide_eq_true h60] at e60
      clear h60
      go_wp2_with fail
      go_ret
      exact ⟨rfl, L2.out.bel⟩
    rw [decide_eq_false h60] at e60
    by_cases h38 : ch = 38
    · rw [decide_eq_true h38] at e38
      clear h38
      go_wp2_with fail
      go_ret
      exact ⟨rfl, L2.out.bel⟩
    rw [decide_eq_false h38] at e38
    have HCH := Lib.hid (show ch ≠ 9 ∧ ch ≠ 10 ∧ ch ≠ 11 ∧ ch ≠ 12 ∧ ch ≠ 255 ∧ ch ≠ 60 ∧ ch ≠ 38 from ⟨H9.out, H10.out, fun h => by exact h9a (by rw [h]; decide), fun h => by exact h9a (by rw [h]; decide), fun h => by have := H128.out; rw [h] at this; exact absurd this (by decide), h60, h38⟩)
    clear h60 h38
    have HW := Lib.hid (write_one w2 m t p f l4 ch L2.out.rd (by omega) l1 l2 l3)
    go_wp2_with fail
    refine HW.out.mono ?_
    rintro e w3 ⟨v3, rfl, hr3, hb3⟩
    have L3 := Lib.hid (L2.out.step hb3)
    obtain ⟨fo, hfo⟩ : ∃ x, x = formatO (cfgOf m t p f ch) s := ⟨_, rfl⟩
    rw [← hfo] at hr3
    have HFfo := Lib.hid hfo
    clear hfo
    have HX3 := Lib.hid hr3
    obtain ⟨a3, c3, rfl, -, q3, -⟩ := hr3.val
    unfold maxLen at q3
    clear HW L2 hb3 hr3 d0 d1 d2 d3 d4
    have hfl : fo.length ≤ 2350000 := by rw [HFfo.out]; exact format_len (c := cfgOf m t p f ch) H9.out H16.out H32.out HM60.out HP60.out HTm.out HO.out hs
    have HAG := Lib.hid (show formatO (cfgOf m t p f ch) fo = fo from by rw [HFfo.out]; exact format_again (c := cfgOf m t p f ch) H16.out H32.out HTm.out HO.out HCH.out)
    obtain ⟨d0, d1, d2, d3, d4⟩ := L3.out.cells
    have HW := Lib.hid (write_one w3 m t p f l4 ch HX3.out (by omega) l1 l2 l3)
    go_wp2_with fail
    refine HW.out.mono ?_
    rintro e w4 ⟨v4, rfl, hr4, hb4⟩
    rw [HAG.out] at hr4
    have L4 := Lib.hid (L3.out.step hb4)
    have hSm := same_calls w4 hr4 (HX3.out.below hb4)
    rw [decide_eq_true rfl] at hSm
    have HSM := Lib.hid hSm
    obtain ⟨a4, c4, rfl, -, q4, -⟩ := hr4.val
    unfold maxLen at q4
    clear HW L3 hb4 hr4 hSm HAG d0 d1 d2 d3 d4
    go_wp2_with fail
    refine HSM.out.mono ?_
    rintro e w5 ⟨rfl, rfl⟩
    clear HSM
    obtain ⟨d0, d1, d2, d3, d4⟩ := L4.out.cells
    go_wp2_with fail
    refine (format_calls w4 m t p f l4 ch L4.out.rd hs l1 l2 l3).mono ?_
    rintro e w6 ⟨v6, rfl, hr6, hb6⟩
    rw [← HFfo.out] at hr6
    have L6 := Lib.hid (L4.out.step hb6)
    obtain ⟨a6, c6, rfl, -⟩ := hr6.val
    clear hb6 d0 d1 d2 d3 d4
    go_wp2_with fail
    go_ret
    exact ⟨rfl, L6.out.bel⟩
end Go.Proofs.YtaagcdlghoiolaaDoor

namespace Go.Proofs.YtaagcdlghoiolaaDoor.fnAlignedStays
open Go.ChangeShapes Go.WideShapes Go.ChangeAt Go.RowKit
set_option maxRecDepth 100000

theorem own : ownKnob Tryd.prog.godebug = none := by kernel_rfl

theorem contract (H : Type) (enc : TypeId × Value → H) (W : World) (base : Nat) (args : Array Value) (ds gs : List (DataW H)) (before : List MemPlace)
    (hval : ∀ (j : Nat) t v, Tryd.f5.params[j]? = some t → args[j]? = some v → Value.okWide Tryd.prog W .any base t v)
    (hW : DataW.Whole enc Tryd.prog Tryd.f5.params.toList Rows.fnAlignedStaysSpec.vars false W args.toList ds gs before)
    (hL : laidMetH Tryd.prog Rows.fnAlignedStaysRow.laid W) :
    Calls Tryd.prog 5 args W fun e W' => ∃ v, e = .returned v ∧ Rows.fnAlignedStaysSpec.post enc Tryd.prog Tryd.f5 false true false false W args v W' := by
  have hW' := hW
  obtain ⟨p, q, hA0, hV, rfl, hfz, hnd⟩ := hW
  have hA : DataW.TrodAll enc Tryd.prog W 0 (fun _ => true) true Tryd.f5.params.toList args.toList ds p := hA0
  rw [Tryd.params5] at hA hval
  obtain ⟨v0, vs0, d0, ds0, p0, q0, hargs, rfl, rfl, h0, r0⟩ := trodAll_cons hA
  obtain ⟨v1, vs1, d1, ds1, p1, q1, rfl, rfl, rfl, h1, r1⟩ := trodAll_cons r0
  obtain ⟨rfl, rfl, rfl⟩ := trodAll_nil r1
  obtain rfl : args = #[v0, v1] := by cases args; simp_all
  obtain ⟨mn0, tb0, pd0, fl0, ch0, rfl⟩ := open_conf (hval 0 _ _ rfl rfl)
  obtain ⟨bs1, hrd1⟩ := open_rd (hval 1 _ _ rfl rfl) h1
  refine (alignedStays_calls W mn0 tb0 pd0 fl0 ch0 hrd1 (tabs_of hL)).mono fun e W' ⟨he, hb⟩ => ?_
  subst he
  refine ⟨_, rfl, law_post rfl ?_ (by kernel_rfl) ?_ hW' hb⟩
  · intro ds hds
    match ds, hds with
    | [a, b], _ => rfl
  · rw [Tryd.params5]
    intro t ht
    simp at ht
    rcases ht with rfl | rfl <;> exact of_decide_eq_true (by kernel_rfl)

theorem laid_met (os : Os) : laidMet Tryd.prog Rows.fnAlignedStaysRow.laid ((laidWorld os).forCall (fun _ _ => 0) ⟨#[], #[conf0, .slice none 0 0], []⟩).memory :=
  laidMet_of_run' 8 (by kernel_rfl) (by kernel_rfl)
theorem reads (os : Os) {H : Type} (enc : TypeId × Value → H) : ∃ places, DataW.whole enc Tryd.prog ((laidWorld os).forCall (fun _ _ => 0) ⟨#[], #[conf0, .slice none 0 0], []⟩).memory Tryd.f5.params.toList Rows.fnAlignedStaysSpec.vars false (#[conf0, .slice none 0 0] : Array Value).toList 8 = some ([.agg [.lit (.int .i64 0), .lit (.int .i64 0), .lit (.int .i64 0), .lit (.int .u8 0), .lit (.int .i64 0)], .nil], [], places) :=
  ⟨[], by kernel_rfl⟩

set_option maxRecDepth 100000 in
theorem lifted (os : Os) (started : os.Started) (H : Type) (enc : TypeId × Value → H) (F : Stop.Interp) :
    ReturnsInHanded {} Tryd.checked os 5 .any ((OpenSpec.ofChange Rows.fnAlignedStaysSpec).preRow enc Tryd.prog Tryd.f5 Rows.fnAlignedStaysRow.domain false Rows.fnAlignedStaysRow.laid) (((OpenSpec.ofChange Rows.fnAlignedStaysSpec).at F).post enc Tryd.prog Tryd.f5 false true false false) := by
  obtain ⟨places, hx⟩ := reads os enc
  refine returnsInHanded_of_row (C := Tryd.checked) (s := OpenSpec.ofChange Rows.fnAlignedStaysSpec) own started (by kernel_rfl) Tryd.func5
    (witness_row_at (enc := enc) (C := Tryd.checked) false (laidWorld os) #[conf0, .slice none 0 0] rfl (by kernel_rfl) (by kernel_rfl) (by kernel_rfl)
      (OpenSpec.preRow_of_cond 8 hx (by kernel_rfl) (fun k hk => by cases hk) (by kernel_rfl) (laid_met os))) ?_
  intro W base args ds gs before hval hW _ _ _ hL _ _
  exact contract H enc W base args ds gs before hval hW hL

theorem said : Rows.FnAlignedStaysSaid :=
  OpenClaim.holds_of_cond 5 Tryd.f5 rfl rfl rfl rfl rfl rfl rfl ⟨rfl, rfl, rfl, rfl, rfl⟩ rfl rfl rfl rfl rfl (by kernel_rfl) Tryd.func5 (by kernel_rfl)
    (of_decide_eq_true (by kernel_rfl)) (by unfold Func.isWrapper; first | (rw [if_pos (by decide +kernel)]; kernel_rfl) | (rw [if_neg (by decide +kernel)]; exact ⟨rfl, rfl⟩))
    (fun os started H enc _ F => by rw [OpenClaim.pre_eq_preRow]; exact lifted os started H enc F)

theorem plain (f : FuncId) (fn : Func) (hf : Tryd.pinned.checked.prog.funcNamed "loop.example/pub-tabcolumns/laws.FnAlignedStays" = some f) (hfn : Tryd.pinned.checked.prog.funcs[f]? = some fn) :
    true = Tryd.pinned.checked.prog.looks [] ∧ ∀ (j : Nat) t, fn.params[j]? = some t → Tryd.pinned.checked.prog.wantsStandIn t = false := by
  obtain rfl : f = 5 := Option.some.inj ((show Tryd.prog.funcNamed "loop.example/pub-tabcolumns/laws.FnAlignedStays" = some 5 by kernel_rfl).symm.trans hf) |>.symm
  obtain rfl : fn = Tryd.f5 := (Option.some.inj (Tryd.func5.symm.trans hfn)).symm
  refine ⟨by kernel_rfl, fun j t ht => ?_⟩
  rw [Tryd.params5] at ht
  have hm := Array.mem_of_getElem? ht
  simp at hm
  rcases hm with rfl | rfl
  · exact (show Tryd.prog.wantsStandIn 23 = false by kernel_rfl)
  · exact (show Tryd.prog.wantsStandIn 24 = false by kernel_rfl)

theorem card : Rows.FnAlignedStaysCardSaid :=
  Claim7.holds_tied_plain_at .later [] _ _ _ _ said (fun _ h => by cases h) (by kernel_rfl) (fun _ h => by cases h) fnAlignedStays_row_tie rfl ⟨rfl, rfl⟩ (by kernel_rfl) rfl plain (by kernel_rfl)
end Go.Proofs.YtaagcdlghoiolaaDoor.fnAlignedStays

namespace Go.Proofs.YtaagcdlghoiolaaDoor
theorem fnAlignedStays_card : Rows.FnAlignedStaysCardSaid := fnAlignedStays.card
#print axioms fnAlignedStays_card
end Go.Proofs.YtaagcdlghoiolaaDoor
