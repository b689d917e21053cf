/- 'FnBarsOnly': bars are all that Debug adds. -/
import Derived.Test.YthcjaegnnfiboaaDoorCards
import Derived.Test.YthcjaegnnfiboaaDoorTie
import Derived.Test.YthcjaegnnfiboaaDoorVe
import Derived.Test.YthcjaegnnfiboaaDoorQe
import Derived.Test.YthcjaegnnfiboaaDoorLs
import Derived.WalkKit
import Derived.ProofKit
import Derived.OpenShut
import Derived.Deep.DeepHandedRow
import Derived.Deep.DeepWitnessRowRef
namespace Go.Proofs.YthcjaegnnfiboaaDoor
open Go.RowKit Go.Tw Go.Sort
set_option maxRecDepth 100000

set_option maxHeartbeats 4000000 in
theorem barsOnly_calls (w : World) (mn tb pd fl : Int) (ch : UInt8) {v : Value} {s0 : List UInt8} (hf1 : -9223372036854775808 ≤ fl) (hf2 : fl ≤ 9223372036854775807) (h : Rd w v s0) (hT : Lib.Utf8Tabs 0 1 w) :
    Calls Tryd.prog 6 #[.agg #[.int .i64 mn, .int .i64 tb, .int .i64 pd, .int .u8 ch.toNat, .int .i64 fl], v] w fun e w' => e = .returned (.bool true) ∧ Below w.heap.size w w' := by
  have L0 := Lib.hid (LS.start (mn := mn) (tb := tb) (pd := pd) (ch := ch) (fl := fl) h)
  have HT := Lib.hid hT
  obtain ⟨ao, cp, rfl, g1, g2⟩ := L0.out.shape
  clear h hT
  by_cases hl : s0.length ≤ 2147483647
  rotate_left
  · go_enter Tryd.func6, Tryd.ntmps6
    go_wp2_with fail
    go_ret
    exact ⟨rfl, L0.out.bel⟩
  go_enter Tryd.func6, Tryd.ntmps6
  go_wp2_with fail
  refine (without_calls _ L0.out.rd 124 (by omega)).mono ?_
  rintro e w1 ⟨v1, rfl, hr1, hb1⟩
  obtain ⟨s, hs0⟩ : ∃ s, s = s0.filter (· != 124) := ⟨_, rfl⟩
  rw [← hs0] at hr1
  have HNO := Lib.hid (show ∀ b ∈ s, b ≠ 124 from fun b hb => by rw [hs0] at hb; simpa using (List.mem_filter.1 hb).2)
  have hsl : s.length ≤ s0.length := by rw [hs0]; exact List.length_filter_le _ _
  have L1 := Lib.hid ((L0.out.step hb1).text hr1)
  clear hs0 hr1 hb1 L0
  obtain ⟨a1, c1, rfl, -, -⟩ := L1.out.shape
  have HWI := Lib.hid (with_calls' w1 mn tb pd fl ch 32 false)
  obtain ⟨g, hg⟩ : ∃ g, g = wfl fl 32 false := ⟨_, rfl⟩
  rw [← hg] at HWI
  have HG := Lib.hid hg
  clear hg
  obtain ⟨d0, d1, d2, d3, d4⟩ := L1.out.cells
  go_wp2_with fail
  refine HWI.out.mono ?_
  rintro e w0 ⟨rfl, hb0⟩
  have LA := Lib.hid (L1.out.step hb0)
  clear hb0 HWI L1 d0 d1 d2 d3 d4
  go_wp2_with fail
  refine (spaces_calls _ mn tb pd g ch LA.out.rd (Utf8Tabs_below HT.out LA.out.bel)).mono ?_
  rintro e w2 ⟨b, rfl, hb2, hfact⟩
  have L2 := Lib.hid (LA.out.step hb2)
  have HFA := Lib.hid hfact
  clear hb2 LA  hfact
  cases b
  · go_wp2_with fail
    go_ret
    exact ⟨rfl, L2.out.bel⟩
  obtain ⟨m, t, p, gn, rfl, rfl, rfl, rfl, l1, l2, l3, l4, hs, h9, h128, h16, h32, ho⟩ := HFA.out rfl
  have H9 := Lib.hid h9
  have H128 := Lib.hid h128
  have H16 := Lib.hid h16
  have H32 := Lib.hid h32
  have HO := Lib.hid ho
  clear HFA h9 h128 h16 h32 ho
  obtain ⟨f, l4f, rfl⟩ := fl_nat fl hf1 hf2 32 (by simp [flagsL]) gn l4 HG.out.symm
  clear hf1 hf2
  obtain ⟨gT, ht64, hgT, hTT⟩ := cfg_with f l4f 32 (by simp [flagsL]) true
  obtain ⟨gF, hf64, hgF, hFF⟩ := cfg_with f l4f 32 (by simp [flagsL]) false
  obtain rfl : gn = gF := by have := HG.out; rw [hgF] at this; omega
  have HGT := Lib.hid hgT
  have HGF := Lib.hid hgF
  clear hgT hgF HG
  obtain ⟨d0, d1, d2, d3, d4⟩ := L2.out.cells
  go_wp2_with fail
  refine (feeds_calls w2 m t p f l4f ch L2.out.rd (by omega)).mono ?_
  rintro e w3 ⟨b, rfl, hb3, hfd⟩
  have L3 := Lib.hid (L2.out.step hb3)
  have HFD := Lib.hid hfd
  clear hb3 L2 hfd d0 d1 d2 d3 d4
  cases b
  rotate_left
  · go_wp2_with fail
    go_ret
    exact ⟨rfl, L3.out.bel⟩
  obtain ⟨d0, d1, d2, d3, d4⟩ := L3.out.cells
  have e124 := u8_eq (b := ch) (c := 124) (n := 124) rfl
  by_cases h124 : ch = 124
  · rw [decide_eq_true h124] at e124
    clear h124
    go_wp2_with fail
    go_ret
    exact ⟨rfl, L3.out.bel⟩
  rw [decide_eq_false h124] at e124
  have H124 := Lib.hid h124
  clear h124
  have HBAR := Lib.hid (show (formatO (cfgOf m t p gT ch) s).filter (· != 124) = formatO (cfgOf m t p gn ch) s from
    format_nobar (c := cfgOf m t p gT ch) (d := cfgOf m t p gn ch) ⟨rfl, rfl, rfl, rfl⟩ (((hTT m t p ch).2 1 (by simp [flagsL]) (by decide)).trans ((hFF m t p ch).2 1 (by simp [flagsL]) (by decide)).symm) (((hTT m t p ch).2 2 (by simp [flagsL]) (by decide)).trans ((hFF m t p ch).2 2 (by simp [flagsL]) (by decide)).symm) (((hTT m t p ch).2 4 (by simp [flagsL]) (by decide)).trans ((hFF m t p ch).2 4 (by simp [flagsL]) (by decide)).symm) (((hTT m t p ch).2 8 (by simp [flagsL]) (by decide)).trans ((hFF m t p ch).2 8 (by simp [flagsL]) (by decide)).symm) (((hTT m t p ch).2 16 (by simp [flagsL]) (by decide)).trans ((hFF m t p ch).2 16 (by simp [flagsL]) (by decide)).symm) H32.out H124.out s HNO.out (by rw [cells_cfg ((hFF m t p ch).2 1 (by simp [flagsL]) (by decide)) ((hFF m t p ch).2 2 (by simp [flagsL]) (by decide))]; exact HFD.out rfl))
  clear hTT hFF HFD
  go_wp2_with fail
  refine (with_nat w3 m t p f gT ch 32 true HGT.out).mono ?_
  rintro e w4 ⟨rfl, hb4⟩
  have L4 := Lib.hid (L3.out.step hb4)
  clear hb4 L3 d0 d1 d2 d3 d4
  have HW := Lib.hid (write_one w4 m t p gT ht64 ch L4.out.rd (by omega) l1 l2 l3)
  go_wp2_with fail
  refine HW.out.mono ?_
  rintro e w5 ⟨v5, rfl, hr5, hb5⟩
  have L5 := Lib.hid (L4.out.step hb5)
  obtain ⟨fw, hfw⟩ : ∃ x, x = formatO (cfgOf m t p gT ch) s := ⟨_, rfl⟩
  rw [← hfw] at hr5
  have HFfw := Lib.hid hfw
  clear hfw
  have HX5 := Lib.hid hr5
  obtain ⟨a5, c5, rfl, -, q5, -⟩ := hr5.val
  unfold maxLen at q5
  clear HW L4 hb5 hr5
  obtain ⟨d0, d1, d2, d3, d4⟩ := L5.out.cells
  go_wp2_with fail
  refine (with_nat w5 m t p f gn ch 32 false HGF.out).mono ?_
  rintro e w6 ⟨rfl, hb6⟩
  have L6 := Lib.hid (L5.out.step hb6)
  have HX6 := Lib.hid (HX5.out.below hb6)
  clear hb6 L5 HX5 d0 d1 d2 d3 d4
  have HW := Lib.hid (write_one w6 m t p gn l4 ch L6.out.rd (by omega) l1 l2 l3)
  go_wp2_with fail
  refine HW.out.mono ?_
  rintro e w7 ⟨v7, rfl, hr7, hb7⟩
  have L7 := Lib.hid (L6.out.step hb7)
  obtain ⟨fo, hfo⟩ : ∃ x, x = formatO (cfgOf m t p gn ch) s := ⟨_, rfl⟩
  rw [← hfo] at hr7
  have HFfo := Lib.hid hfo
  clear hfo
  have HY7 := Lib.hid hr7
  obtain ⟨a7, c7, rfl, -, q7, -⟩ := hr7.val
  unfold maxLen at q7
  have HX7 := Lib.hid (HX6.out.below hb7)
  clear HW L6 hb7 hr7 HX6
  have hfw : fw.length ≤ 1000000000000 := by have := format_bound m t p gT ch l1 l2 l3 s hs; rw [← HFfw.out] at this; omega
  have HWO := Lib.hid (without_calls w7 HX7.out 124 hfw)
  go_wp2_with fail
  refine HWO.out.mono ?_
  rintro e w8 ⟨v8, rfl, hr8, hb8⟩
  rw [show fw.filter (· != 124) = fo from by rw [HFfw.out, HBAR.out, HFfo.out]] at hr8
  have L8 := Lib.hid (L7.out.step hb8)
  have hSm := same_calls w8 hr8 (HY7.out.below hb8)
  rw [decide_eq_true rfl] at hSm
  have HSM := Lib.hid hSm
  obtain ⟨a8, c8, rfl, -, q8, -⟩ := hr8.val
  unfold maxLen at q8
  clear hb8 hr8 hSm HWO L7
  go_wp2_with fail
  refine HSM.out.mono ?_
  rintro e w9 ⟨rfl, rfl⟩
  clear HSM
  obtain ⟨d0, d1, d2, d3, d4⟩ := L8.out.cells
  go_wp2_with fail
  refine (with_nat w8 m t p f gn ch 32 false HGF.out).mono ?_
  rintro e w10 ⟨rfl, hb10⟩
  have L10 := Lib.hid (L8.out.step hb10)
  clear hb10 L8 d0 d1 d2 d3 d4
  go_wp2_with fail
  refine (format_calls w10 m t p gn l4 ch L10.out.rd hs l1 l2 l3).mono ?_
  rintro e w11 ⟨v11, rfl, hr11, hb11⟩
  rw [← HFfo.out] at hr11
  have L11 := Lib.hid (L10.out.step hb11)
  obtain ⟨a11, c11, rfl, -⟩ := hr11.val
  clear hb11
  go_wp2_with fail
  go_ret
  exact ⟨rfl, L11.out.bel⟩
end Go.Proofs.YthcjaegnnfiboaaDoor

namespace Go.Proofs.YthcjaegnnfiboaaDoor.fnBarsOnly
open Go.ChangeShapes Go.WideShapes Go.ChangeAt Go.RowKit
set_option maxRecDepth 100000

theorem own : ownKnob Tryd.prog.godebug = none := by kernel_rfl

theorem contract (H : Type) (enc : TypeId × Value → H) (W : World) (base : Nat) (args : Array Value) (ds gs : List (DataW H)) (before : List MemPlace)
    (hval : ∀ (j : Nat) t v, Tryd.f6.params[j]? = some t → args[j]? = some v → Value.okWide Tryd.prog W .any base t v)
    (hW : DataW.Whole enc Tryd.prog Tryd.f6.params.toList Rows.fnBarsOnlySpec.vars false W args.toList ds gs before)
    (hL : laidMetH Tryd.prog Rows.fnBarsOnlyRow.laid W) :
    Calls Tryd.prog 6 args W fun e W' => ∃ v, e = .returned v ∧ Rows.fnBarsOnlySpec.post enc Tryd.prog Tryd.f6 false true false false W args v W' := by
  have hW' := hW
  obtain ⟨p, q, hA0, hV, rfl, hfz, hnd⟩ := hW
  have hA : DataW.TrodAll enc Tryd.prog W 0 (fun _ => true) true Tryd.f6.params.toList args.toList ds p := hA0
  rw [Tryd.params6] at hA hval
  obtain ⟨v0, vs0, d0, ds0, p0, q0, hargs, rfl, rfl, h0, r0⟩ := trodAll_cons hA
  obtain ⟨v1, vs1, d1, ds1, p1, q1, rfl, rfl, rfl, h1, r1⟩ := trodAll_cons r0
  obtain ⟨rfl, rfl, rfl⟩ := trodAll_nil r1
  obtain rfl : args = #[v0, v1] := by cases args; simp_all
  obtain ⟨mn0, tb0, pd0, fl0, ch0, rfl, hfa0, hfb0⟩ := open_conf2 (hval 0 _ _ rfl rfl)
  obtain ⟨bs1, hrd1⟩ := open_rd (hval 1 _ _ rfl rfl) h1
  refine (barsOnly_calls W mn0 tb0 pd0 fl0 ch0 hfa0 hfb0 hrd1 (tabs_of hL)).mono fun e W' ⟨he, hb⟩ => ?_
  subst he
  refine ⟨_, rfl, law_post rfl ?_ (by kernel_rfl) ?_ hW' hb⟩
  · intro ds hds
    match ds, hds with
    | [a, b], _ => rfl
  · rw [Tryd.params6]
    intro t ht
    simp at ht
    rcases ht with rfl | rfl <;> exact of_decide_eq_true (by kernel_rfl)

theorem laid_met (os : Os) : laidMet Tryd.prog Rows.fnBarsOnlyRow.laid ((laidWorld os).forCall (fun _ _ => 0) ⟨#[], #[conf0, .slice none 0 0], []⟩).memory :=
  laidMet_of_run' 8 (by kernel_rfl) (by kernel_rfl)
theorem reads (os : Os) {H : Type} (enc : TypeId × Value → H) : ∃ places, DataW.whole enc Tryd.prog ((laidWorld os).forCall (fun _ _ => 0) ⟨#[], #[conf0, .slice none 0 0], []⟩).memory Tryd.f6.params.toList Rows.fnBarsOnlySpec.vars false (#[conf0, .slice none 0 0] : Array Value).toList 8 = some ([.agg [.lit (.int .i64 0), .lit (.int .i64 0), .lit (.int .i64 0), .lit (.int .u8 0), .lit (.int .i64 0)], .nil], [], places) :=
  ⟨[], by kernel_rfl⟩

set_option maxRecDepth 100000 in
theorem lifted (os : Os) (started : os.Started) (H : Type) (enc : TypeId × Value → H) (F : Stop.Interp) :
    ReturnsInHanded {} Tryd.checked os 6 .any ((OpenSpec.ofChange Rows.fnBarsOnlySpec).preRow enc Tryd.prog Tryd.f6 Rows.fnBarsOnlyRow.domain false Rows.fnBarsOnlyRow.laid) (((OpenSpec.ofChange Rows.fnBarsOnlySpec).at F).post enc Tryd.prog Tryd.f6 false true false false) := by
  obtain ⟨places, hx⟩ := reads os enc
  refine returnsInHanded_of_row (C := Tryd.checked) (s := OpenSpec.ofChange Rows.fnBarsOnlySpec) own started (by kernel_rfl) Tryd.func6
    (witness_row_at (enc := enc) (C := Tryd.checked) false (laidWorld os) #[conf0, .slice none 0 0] rfl (by kernel_rfl) (by kernel_rfl) (by kernel_rfl)
      (OpenSpec.preRow_of_cond 8 hx (by kernel_rfl) (fun k hk => by cases hk) (by kernel_rfl) (laid_met os))) ?_
  intro W base args ds gs before hval hW _ _ _ hL _ _
  exact contract H enc W base args ds gs before hval hW hL

theorem said : Rows.FnBarsOnlySaid :=
  OpenClaim.holds_of_cond 6 Tryd.f6 rfl rfl rfl rfl rfl rfl rfl ⟨rfl, rfl, rfl, rfl, rfl⟩ rfl rfl rfl rfl rfl (by kernel_rfl) Tryd.func6 (by kernel_rfl)
    (of_decide_eq_true (by kernel_rfl)) (by unfold Func.isWrapper; first | (rw [if_pos (by decide +kernel)]; kernel_rfl) | (rw [if_neg (by decide +kernel)]; exact ⟨rfl, rfl⟩))
    (fun os started H enc _ F => by rw [OpenClaim.pre_eq_preRow]; exact lifted os started H enc F)

theorem plain (f : FuncId) (fn : Func) (hf : Tryd.pinned.checked.prog.funcNamed "loop.example/pub-tabcolumns/laws.FnBarsOnly" = some f) (hfn : Tryd.pinned.checked.prog.funcs[f]? = some fn) :
    true = Tryd.pinned.checked.prog.looks [] ∧ ∀ (j : Nat) t, fn.params[j]? = some t → Tryd.pinned.checked.prog.wantsStandIn t = false := by
  obtain rfl : f = 6 := Option.some.inj ((show Tryd.prog.funcNamed "loop.example/pub-tabcolumns/laws.FnBarsOnly" = some 6 by kernel_rfl).symm.trans hf) |>.symm
  obtain rfl : fn = Tryd.f6 := (Option.some.inj (Tryd.func6.symm.trans hfn)).symm
  refine ⟨by kernel_rfl, fun j t ht => ?_⟩
  rw [Tryd.params6] at ht
  have hm := Array.mem_of_getElem? ht
  simp at hm
  rcases hm with rfl | rfl
  · exact (show Tryd.prog.wantsStandIn 23 = false by kernel_rfl)
  · exact (show Tryd.prog.wantsStandIn 24 = false by kernel_rfl)

theorem card : Rows.FnBarsOnlyCardSaid :=
  Claim7.holds_tied_plain_at .later [] _ _ _ _ said (fun _ h => by cases h) (by kernel_rfl) (fun _ h => by cases h) fnBarsOnly_row_tie rfl ⟨rfl, rfl⟩ (by kernel_rfl) rfl plain (by kernel_rfl)
end Go.Proofs.YthcjaegnnfiboaaDoor.fnBarsOnly

namespace Go.Proofs.YthcjaegnnfiboaaDoor
theorem fnBarsOnly_card : Rows.FnBarsOnlyCardSaid := fnBarsOnly.card
#print axioms fnBarsOnly_card
end Go.Proofs.YthcjaegnnfiboaaDoor
