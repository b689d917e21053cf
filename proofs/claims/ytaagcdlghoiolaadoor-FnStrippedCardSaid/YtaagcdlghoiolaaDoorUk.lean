/- 'FnStripped': stripped output is the other one without the escapes. -/
import Derived.Test.YtaagcdlghoiolaaDoorCards
import Derived.Test.YtaagcdlghoiolaaDoorTie
import Derived.Test.YtaagcdlghoiolaaDoorVe
import Derived.Test.YtaagcdlghoiolaaDoorQe
import Derived.Test.YtaagcdlghoiolaaDoorLk
import Derived.Test.YtaagcdlghoiolaaDoorLg
import Derived.Test.YtaagcdlghoiolaaDoorPn
import Derived.WalkKit
import Derived.ProofKit
import Derived.OpenShut
import Derived.Deep.DeepHandedRow
import Derived.Deep.DeepWitnessRowRef
namespace Go.Proofs.YtaagcdlghoiolaaDoor
open Go.RowKit Go.Tw Go.Sort
set_option maxRecDepth 100000

set_option maxHeartbeats 8000000 in
theorem stripped_calls (w : World) (mn tb pd fl : Int) (ch : UInt8) {v : Value} {s : List UInt8} (hf1 : -9223372036854775808 ≤ fl) (hf2 : fl ≤ 9223372036854775807) (h : Rd w v s) (hT : Lib.Utf8Tabs 1 2 w) :
    Calls Tryd.prog 8 #[.agg #[.int .i64 mn, .int .i64 tb, .int .i64 pd, .int .u8 ch.toNat, .int .i64 fl], v] w fun e w' => e = .returned (.bool true) ∧ Below w.heap.size w w' := by
  have L0 := Lib.hid (LS.start (mn := mn) (tb := tb) (pd := pd) (ch := ch) (fl := fl) h)
  have HT := Lib.hid hT
  obtain ⟨ao, cp, rfl, g1, g2⟩ := L0.out.shape
  obtain ⟨d0, d1, d2, d3, d4⟩ := L0.out.cells
  clear h hT
  by_cases hl : s.length ≤ 2147483647
  rotate_left
  · go_enter Tryd.func8, Tryd.ntmps8
    go_wp2_with fail
    go_ret
    exact ⟨rfl, L0.out.bel⟩
  have HWI := Lib.hid (with_calls' (w.alloc (.cells #[.int .i64 mn, .int .i64 tb, .int .i64 pd, .int .u8 ch.toNat, .int .i64 fl] 23)) mn tb pd fl ch 2 true)
  obtain ⟨g1, hg1⟩ : ∃ g, g = wfl fl 2 true := ⟨_, rfl⟩
  rw [← hg1] at HWI
  have HG1 := Lib.hid hg1
  clear hg1
  go_enter Tryd.func8, Tryd.ntmps8
  go_wp2_with fail
  refine HWI.out.mono ?_
  rintro e wa ⟨rfl, hba⟩
  have LA := Lib.hid (L0.out.step hba)
  clear hba HWI L0 d0 d1 d2 d3 d4
  go_wp2_with fail
  refine (spaces_calls _ mn tb pd g1 ch LA.out.rd (Utf8Tabs_below HT.out LA.out.bel)).mono ?_
  rintro e w1 ⟨b, rfl, hb1, hfact⟩
  have L1 := Lib.hid (LA.out.step hb1)
  have HFA := Lib.hid hfact
  clear hb1 LA  hfact
  cases b
  · go_wp2_with fail
    go_ret
    exact ⟨rfl, L1.out.bel⟩
  obtain ⟨m, t, p, gT, rfl, rfl, rfl, rfl, l1, l2, l3, l4, hs, h9, h128, h16, h32, ho, hm60, hp60⟩ := HFA.out rfl
  have HM60 := Lib.hid hm60
  have HP60 := Lib.hid hp60
  have H9 := Lib.hid h9
  have H128 := Lib.hid h128
  have H16 := Lib.hid h16
  have H32 := Lib.hid h32
  have HO := Lib.hid ho
  clear HFA h9 h128 h16 h32 ho hm60 hp60
  obtain ⟨d0, d1, d2, d3, d4⟩ := L1.out.cells
  have HWI := Lib.hid (with_calls' w1 m t p fl ch 2 false)
  obtain ⟨g2, hg2⟩ : ∃ g, g = wfl fl 2 false := ⟨_, rfl⟩
  rw [← hg2] at HWI
  have HG2 := Lib.hid hg2
  clear hg2
  go_wp2_with fail
  refine HWI.out.mono ?_
  rintro e wb ⟨rfl, hbb⟩
  have LB := Lib.hid (L1.out.step hbb)
  clear hbb HWI L1 d0 d1 d2 d3 d4
  go_wp2_with fail
  refine (spaces_calls _ m t p g2 ch LB.out.rd (Utf8Tabs_below HT.out LB.out.bel)).mono ?_
  rintro e w2 ⟨b, rfl, hb2, hfact⟩
  have L2 := Lib.hid (LB.out.step hb2)
  have HFA := Lib.hid hfact
  clear hb2 LB hfact
  cases b
  · go_wp2_with fail
    go_ret
    exact ⟨rfl, L2.out.bel⟩
  obtain ⟨m', t', p', gF, e1, e2, e3, rfl, -, -, -, l4F, -, -, -, h16F, h32F, hoF, -, -⟩ := HFA.out rfl
  obtain rfl : m' = m := by omega
  obtain rfl : t' = t := by omega
  obtain rfl : p' = p := by omega
  have H16F := Lib.hid h16F
  have H32F := Lib.hid h32F
  have HOF := Lib.hid hoF
  clear HFA h16F h32F hoF e1 e2 e3
  obtain ⟨f, l4f, rfl⟩ := fl_nat fl hf1 hf2 2 (by simp [flagsL]) gF l4F HG2.out.symm
  clear hf1 hf2
  obtain ⟨xT, hx64, hxT, hTT⟩ := cfg_with2 f l4f 2 (by simp) true
  obtain ⟨xF, hy64, hxF, hFF⟩ := cfg_with2 f l4f 2 (by simp) false
  obtain rfl : gT = xT := by have := HG1.out; rw [hxT] at this; omega
  obtain rfl : gF = xF := by have := HG2.out; rw [hxF] at this; omega
  have HGT := Lib.hid hxT
  have HGF := Lib.hid hxF
  clear hxT hxF HG1 HG2
  have e255 := u8_eq (b := ch) (c := 255) (n := 255) rfl
  rw [decide_eq_false (fun h => by have := H128.out; rw [h] at this; exact absurd this (by decide))] at e255
  obtain ⟨d0, d1, d2, d3, d4⟩ := L2.out.cells
  have HF := Lib.hid (has_flag w2 m' t' p' f l4f ch 1 (by simp))
  obtain ⟨x1, hx1⟩ : ∃ x, x = (cfgOf m' t' p' f ch).flag 1 := ⟨_, rfl⟩
  rw [← hx1] at HF
  have HX1 := Lib.hid hx1
  clear hx1
  go_wp2_with fail
  refine HF.out.mono ?_
  rintro e w3 ⟨rfl, hb3⟩
  have L3 := Lib.hid (L2.out.step hb3)
  clear hb3 L2 HF d0 d1 d2 d3 d4
  cases x1
  rotate_left
  · go_wp2_with fail
    go_ret
    exact ⟨rfl, L3.out.bel⟩
  have HC := Lib.hid (count_calls w3 L3.out.rd 255 (by omega))
  have hcl := cnt_le 255 s
  obtain ⟨nc, hnc⟩ : ∃ n, n = cnt 255 s := ⟨_, rfl⟩
  rw [← hnc] at HC hcl
  clear hnc
  go_wp2_with fail
  refine HC.out.mono ?_
  rintro e wq ⟨rfl, rfl⟩
  clear HC
  by_cases hod : nc % 2 = 1
  · have hr1 : (nc : Int).tmod 2 = 1 := by rw [Int.tmod_eq_emod_of_nonneg (by omega)]; omega
    have hr2 : (nc : Int) % 2 = 1 := by omega
    go_wp2_with fail
    go_ret
    exact ⟨rfl, L3.out.bel⟩
  have hr0 : nc % 2 = 0 := by omega
  have hr1 : (nc : Int).tmod 2 = 0 := by rw [Int.tmod_eq_emod_of_nonneg (by omega)]; omega
  have hr2 : (nc : Int) % 2 = 0 := by omega
  obtain ⟨d0, d1, d2, d3, d4⟩ := L3.out.cells
  have hwi := with_calls' w3 m' t' p' f ch 2 true
  rw [HGT.out] at hwi
  have HWI := Lib.hid hwi
  clear hwi
  go_wp2_with fail
  refine HWI.out.mono ?_
  rintro e w4 ⟨rfl, hb4⟩
  have L4 := Lib.hid (L3.out.step hb4)
  clear hb4 HWI L3 d0 d1 d2 d3 d4 hr0 hr1 hr2 hod hcl
  have HW := Lib.hid (write_one w4 m' t' p' gT hx64 ch L4.out.rd (by omega) l1 l2 l3)
  go_wp2_with fail
  refine HW.out.mono ?_
  rintro e w5 ⟨v5, rfl, hr5, hb5⟩
  have L5 := Lib.hid (L4.out.step hb5)
  obtain ⟨fx, hfx⟩ : ∃ x, x = formatO (cfgOf m' t' p' gT ch) s := ⟨_, rfl⟩
  rw [← hfx] at hr5
  have HFfx := Lib.hid hfx
  clear hfx
  have HX5 := Lib.hid hr5
  obtain ⟨a5, c5, rfl, -, q5, -⟩ := hr5.val
  unfold maxLen at q5
  clear HW L4 hb5 hr5
  obtain ⟨d0, d1, d2, d3, d4⟩ := L5.out.cells
  have hwi := with_calls' w5 m' t' p' f ch 2 false
  rw [HGF.out] at hwi
  have HWI := Lib.hid hwi
  clear hwi
  go_wp2_with fail
  refine HWI.out.mono ?_
  rintro e w6 ⟨rfl, hb6⟩
  have L6 := Lib.hid (L5.out.step hb6)
  have HX6 := Lib.hid (HX5.out.below hb6)
  clear hb6 HWI L5 HX5 d0 d1 d2 d3 d4
  have HW := Lib.hid (write_one w6 m' t' p' gF hy64 ch L6.out.rd (by omega) l1 l2 l3)
  go_wp2_with fail
  refine HW.out.mono ?_
  rintro e w7 ⟨v7, rfl, hr7, hb7⟩
  have L7 := Lib.hid (L6.out.step hb7)
  have HX7 := Lib.hid (HX6.out.below hb7)
  clear HX6
  obtain ⟨fy, hfy⟩ : ∃ x, x = formatO (cfgOf m' t' p' gF ch) s := ⟨_, rfl⟩
  rw [← hfy] at hr7
  have HFfy := Lib.hid hfy
  clear hfy
  have HY7 := Lib.hid hr7
  obtain ⟨a7, c7, rfl, -, q7, -⟩ := hr7.val
  unfold maxLen at q7
  clear HW L6 hb7 hr7
  have hst : fy.filter (· != 255) = fx := by
    rw [HFfy.out, HFfx.out]
    exact format_stripped (c := cfgOf m' t' p' gT ch) (d := cfgOf m' t' p' gF ch) ⟨rfl, rfl, rfl, rfl⟩ (((hTT m' t' p' ch).2 1 (by simp [flagsL]) (by decide)).trans HX1.out.symm) (((hFF m' t' p' ch).2 1 (by simp [flagsL]) (by decide)).trans HX1.out.symm) (hTT m' t' p' ch).1 (hFF m' t' p' ch).1 (((hTT m' t' p' ch).2 4 (by simp [flagsL]) (by decide)).trans ((hFF m' t' p' ch).2 4 (by simp [flagsL]) (by decide)).symm) (((hTT m' t' p' ch).2 8 (by simp [flagsL]) (by decide)).trans ((hFF m' t' p' ch).2 8 (by simp [flagsL]) (by decide)).symm) H16.out H16F.out H32.out H32F.out H9.out (fun h => by have := H128.out; rw [show ch = 255 from h] at this; exact absurd this (by decide)) s HO.out HOF.out
  have hfy2 : fy.length ≤ 200000000000 := by rw [HFfy.out]; exact format_bound m' t' p' gF ch (by omega) (by omega) (by omega) s hs
  have hWo := without_calls w7 HY7.out 255 (by omega)
  rw [hst] at hWo
  have HWO := Lib.hid hWo
  clear hst hWo hfy2
  obtain ⟨d0, d1, d2, d3, d4⟩ := L7.out.cells
  go_wp2_with fail
  refine HWO.out.mono ?_
  rintro e w8 ⟨v8, rfl, hr8, hb8⟩
  have L8 := Lib.hid (L7.out.step hb8)
  have hSm := same_calls w8 (HX7.out.below hb8) hr8
  rw [decide_eq_true rfl] at hSm
  have HSM := Lib.hid hSm
  obtain ⟨a8, c8, rfl, -⟩ := hr8.val
  clear hb8 hr8 hSm L7 HX7 HY7 HWO d0 d1 d2 d3 d4
  obtain ⟨d0, d1, d2, d3, d4⟩ := L8.out.cells
  have hwi := with_calls' w8 m' t' p' f ch 2 true
  rw [HGT.out] at hwi
  have HWI := Lib.hid hwi
  clear hwi
  go_wp2_with fail
  refine HSM.out.mono ?_
  rintro e wq ⟨rfl, rfl⟩
  clear HSM
  go_wp2_with fail
  refine HWI.out.mono ?_
  rintro e w9 ⟨rfl, hb9⟩
  have L9 := Lib.hid (L8.out.step hb9)
  clear hb9 HWI L8 d0 d1 d2 d3 d4
  go_wp2_with fail
  refine (format_calls w9 m' t' p' gT hx64 ch L9.out.rd hs (by omega) (by omega) (by omega)).mono ?_
  rintro e w10 ⟨v10, rfl, hr10, hb10⟩
  rw [← HFfx.out] at hr10
  have L10 := Lib.hid (L9.out.step hb10)
  obtain ⟨a10, c10, rfl, -⟩ := hr10.val
  clear hb10
  go_wp2_with fail
  go_ret
  exact ⟨rfl, L10.out.bel⟩
end Go.Proofs.YtaagcdlghoiolaaDoor


namespace Go.Proofs.YtaagcdlghoiolaaDoor.fnStripped
open Go.ChangeShapes Go.WideShapes Go.ChangeAt Go.RowKit
set_option maxRecDepth 100000

theorem own : ownKnob Tryd.prog.godebug = none := by kernel_rfl

theorem contract (H : Type) (enc : TypeId × Value → H) (W : World) (base : Nat) (args : Array Value) (ds gs : List (DataW H)) (before : List MemPlace)
    (hval : ∀ (j : Nat) t v, Tryd.f8.params[j]? = some t → args[j]? = some v → Value.okWide Tryd.prog W .any base t v)
    (hW : DataW.Whole enc Tryd.prog Tryd.f8.params.toList Rows.fnStrippedSpec.vars false W args.toList ds gs before)
    (hL : laidMetH Tryd.prog Rows.fnStrippedRow.laid W) :
    Calls Tryd.prog 8 args W fun e W' => ∃ v, e = .returned v ∧ Rows.fnStrippedSpec.post enc Tryd.prog Tryd.f8 false true false false W args v W' := by
  have hW' := hW
  obtain ⟨p, q, hA0, hV, rfl, hfz, hnd⟩ := hW
  have hA : DataW.TrodAll enc Tryd.prog W 0 (fun _ => true) true Tryd.f8.params.toList args.toList ds p := hA0
  rw [Tryd.params8] at hA hval
  obtain ⟨v0, vs0, d0, ds0, p0, q0, hargs, rfl, rfl, h0, r0⟩ := trodAll_cons hA
  obtain ⟨v1, vs1, d1, ds1, p1, q1, rfl, rfl, rfl, h1, r1⟩ := trodAll_cons r0
  obtain ⟨rfl, rfl, rfl⟩ := trodAll_nil r1
  obtain rfl : args = #[v0, v1] := by cases args; simp_all
  obtain ⟨mn0, tb0, pd0, fl0, ch0, rfl, hfa0, hfb0⟩ := open_conf2 (hval 0 _ _ rfl rfl)
  obtain ⟨bs1, hrd1⟩ := open_rd (hval 1 _ _ rfl rfl) h1
  refine (stripped_calls W mn0 tb0 pd0 fl0 ch0 hfa0 hfb0 hrd1 (tabs_of hL)).mono fun e W' ⟨he, hb⟩ => ?_
  subst he
  refine ⟨_, rfl, law_post rfl ?_ (by kernel_rfl) ?_ hW' hb⟩
  · intro ds hds
    match ds, hds with
    | [a, b], _ => rfl
  · rw [Tryd.params8]
    intro t ht
    simp at ht
    rcases ht with rfl | rfl <;> exact of_decide_eq_true (by kernel_rfl)

theorem laid_met (os : Os) : laidMet Tryd.prog Rows.fnStrippedRow.laid ((laidWorld os).forCall (fun _ _ => 0) ⟨#[], #[conf0, .slice none 0 0], []⟩).memory :=
  laidMet_of_run' 8 (by kernel_rfl) (by kernel_rfl)
theorem reads (os : Os) {H : Type} (enc : TypeId × Value → H) : ∃ places, DataW.whole enc Tryd.prog ((laidWorld os).forCall (fun _ _ => 0) ⟨#[], #[conf0, .slice none 0 0], []⟩).memory Tryd.f8.params.toList Rows.fnStrippedSpec.vars false (#[conf0, .slice none 0 0] : Array Value).toList 8 = some ([.agg [.lit (.int .i64 0), .lit (.int .i64 0), .lit (.int .i64 0), .lit (.int .u8 0), .lit (.int .i64 0)], .nil], [], places) :=
  ⟨[], by kernel_rfl⟩

set_option maxRecDepth 100000 in
theorem lifted (os : Os) (started : os.Started) (H : Type) (enc : TypeId × Value → H) (F : Stop.Interp) :
    ReturnsInHanded {} Tryd.checked os 8 .any ((OpenSpec.ofChange Rows.fnStrippedSpec).preRow enc Tryd.prog Tryd.f8 Rows.fnStrippedRow.domain false Rows.fnStrippedRow.laid) (((OpenSpec.ofChange Rows.fnStrippedSpec).at F).post enc Tryd.prog Tryd.f8 false true false false) := by
  obtain ⟨places, hx⟩ := reads os enc
  refine returnsInHanded_of_row (C := Tryd.checked) (s := OpenSpec.ofChange Rows.fnStrippedSpec) own started (by kernel_rfl) Tryd.func8
    (witness_row_at (enc := enc) (C := Tryd.checked) false (laidWorld os) #[conf0, .slice none 0 0] rfl (by kernel_rfl) (by kernel_rfl) (by kernel_rfl)
      (OpenSpec.preRow_of_cond 8 hx (by kernel_rfl) (fun k hk => by cases hk) (by kernel_rfl) (laid_met os))) ?_
  intro W base args ds gs before hval hW _ _ _ hL _ _
  exact contract H enc W base args ds gs before hval hW hL

theorem said : Rows.FnStrippedSaid :=
  OpenClaim.holds_of_cond 8 Tryd.f8 rfl rfl rfl rfl rfl rfl rfl ⟨rfl, rfl, rfl, rfl, rfl⟩ rfl rfl rfl rfl rfl (by kernel_rfl) Tryd.func8 (by kernel_rfl)
    (of_decide_eq_true (by kernel_rfl)) (by unfold Func.isWrapper; first | (rw [if_pos (by decide +kernel)]; kernel_rfl) | (rw [if_neg (by decide +kernel)]; exact ⟨rfl, rfl⟩))
    (fun os started H enc _ F => by rw [OpenClaim.pre_eq_preRow]; exact lifted os started H enc F)

theorem plain (f : FuncId) (fn : Func) (hf : Tryd.pinned.checked.prog.funcNamed "loop.example/pub-tabcolumns/laws.FnStripped" = some f) (hfn : Tryd.pinned.checked.prog.funcs[f]? = some fn) :
    true = Tryd.pinned.checked.prog.looks [] ∧ ∀ (j : Nat) t, fn.params[j]? = some t → Tryd.pinned.checked.prog.wantsStandIn t = false := by
  obtain rfl : f = 8 := Option.some.inj ((show Tryd.prog.funcNamed "loop.example/pub-tabcolumns/laws.FnStripped" = some 8 by kernel_rfl).symm.trans hf) |>.symm
  obtain rfl : fn = Tryd.f8 := (Option.some.inj (Tryd.func8.symm.trans hfn)).symm
  refine ⟨by kernel_rfl, fun j t ht => ?_⟩
  rw [Tryd.params8] at ht
  have hm := Array.mem_of_getElem? ht
  simp at hm
  rcases hm with rfl | rfl
  · exact (show Tryd.prog.wantsStandIn 23 = false by kernel_rfl)
  · exact (show Tryd.prog.wantsStandIn 24 = false by kernel_rfl)

theorem card : Rows.FnStrippedCardSaid :=
  Claim7.holds_tied_plain_at .later [] _ _ _ _ said (fun _ h => by cases h) (by kernel_rfl) (fun _ h => by cases h) fnStripped_row_tie rfl ⟨rfl, rfl⟩ (by kernel_rfl) rfl plain (by kernel_rfl)
end Go.Proofs.YtaagcdlghoiolaaDoor.fnStripped

namespace Go.Proofs.YtaagcdlghoiolaaDoor
theorem fnStripped_card : Rows.FnStrippedCardSaid := fnStripped.card
#print axioms fnStripped_card
end Go.Proofs.YtaagcdlghoiolaaDoor
