/- 'FnNothingAdded': a text without tabs, escapes, tags and entities stays, formfeeds becoming newlines. -/
import Derived.Test.YthcjaegnnfiboaaDoorCards
import Derived.Test.YthcjaegnnfiboaaDoorTie
import Derived.Test.YthcjaegnnfiboaaDoorVe
import Derived.Test.YthcjaegnnfiboaaDoorQe
import Derived.Test.YthcjaegnnfiboaaDoorLs
import Derived.Test.YthcjaegnnfiboaaDoorVs
import Derived.WalkKit
import Derived.ProofKit
import Derived.OpenShut
import Derived.Deep.DeepHandedRow
import Derived.Deep.DeepWitnessRowRef
namespace Go.Proofs.YthcjaegnnfiboaaDoor
open Go.RowKit Go.Tw Go.Sort
set_option maxRecDepth 100000

set_option maxHeartbeats 4000000 in
theorem nothingAdded_calls (w : World) (mn tb pd fl : Int) (ch : UInt8) {v : Value} {s0 : List UInt8} (h : Rd w v s0) (hT : Lib.Utf8Tabs 0 1 w) :
    Calls Tryd.prog 11 #[.agg #[.int .i64 mn, .int .i64 tb, .int .i64 pd, .int .u8 ch.toNat, .int .i64 fl], v] w fun e w' => e = .returned (.bool true) ∧ Below w.heap.size w w' := by
  have L0 := Lib.hid (LS.start (mn := mn) (tb := tb) (pd := pd) (ch := ch) (fl := fl) h)
  have HT := Lib.hid hT
  obtain ⟨ao, cp, rfl, g1, g2⟩ := L0.out.shape
  clear h hT
  by_cases hl : s0.length ≤ 2147483647
  rotate_left
  · go_enter Tryd.func11, Tryd.ntmps11
    go_wp2_with fail
    go_ret
    exact ⟨rfl, L0.out.bel⟩
  go_enter Tryd.func11, Tryd.ntmps11
  go_wp2_with fail
  refine (without_calls _ L0.out.rd 9 (by omega)).mono ?_
  rintro e wx ⟨vx, rfl, hrx, hbx⟩
  have hlx : (s0.filter (· != 9)).length ≤ s0.length := List.length_filter_le _ _
  have LX := Lib.hid ((L0.out.step hbx).text hrx)
  obtain ⟨ax, cx, rfl, -, -⟩ := LX.out.shape
  clear hrx hbx L0
  go_wp2_with fail
  refine (without_calls _ LX.out.rd 11 (by omega)).mono ?_
  rintro e w1 ⟨v1, rfl, hr1, hb1⟩
  obtain ⟨s, hs0⟩ : ∃ s, s = (s0.filter (· != 9)).filter (· != 11) := ⟨_, rfl⟩
  rw [← hs0] at hr1
  have HNO := Lib.hid (show ∀ b ∈ s, b ≠ 9 ∧ b ≠ 11 from fun b hb => by rw [hs0] at hb; exact ⟨by simpa using (List.mem_filter.1 (List.mem_filter.1 hb).1).2, by simpa using (List.mem_filter.1 hb).2⟩)
  have hsl : s.length ≤ s0.length := by rw [hs0]; exact Nat.le_trans (List.length_filter_le _ _) (List.length_filter_le _ _)
  have L1 := Lib.hid ((LX.out.step hb1).text hr1)
  clear hs0 hr1 hb1 LX
  obtain ⟨a1, c1, rfl, -, -⟩ := L1.out.shape
  obtain ⟨d0, d1, d2, d3, d4⟩ := L1.out.cells
  go_wp2_with fail
  refine (spaces_calls _ mn tb pd fl ch L1.out.rd (Utf8Tabs_below HT.out L1.out.bel)).mono ?_
  rintro e w2 ⟨b, rfl, hb2, hfact⟩
  have L2 := Lib.hid (L1.out.step hb2)
  have HFA := Lib.hid hfact
  clear hb2 L1 d0 d1 d2 d3 d4 hfact
  cases b
  · go_wp2_with fail
    go_ret
    exact ⟨rfl, L2.out.bel⟩
  obtain ⟨m, t, p, f, rfl, rfl, rfl, rfl, l1, l2, l3, l4, hs, h9, h128, h16, h32, ho⟩ := HFA.out rfl
  have H9 := Lib.hid h9
  have H128 := Lib.hid h128
  have H16 := Lib.hid h16
  have H32 := Lib.hid h32
  have HO := Lib.hid ho
  clear HFA h9 h128 h16 h32 ho
  have HTM := Lib.hid (tame_calls w2 L2.out.rd (by omega))
  obtain ⟨xt, hxt⟩ : ∃ x, x = tame s := ⟨_, rfl⟩
  rw [← hxt] at HTM
  have HXT := Lib.hid hxt
  clear hxt
  go_wp2_with fail
  refine HTM.out.mono ?_
  rintro e wt ⟨rfl, rfl⟩
  clear HTM
  cases xt
  · go_wp2_with fail
    go_ret
    exact ⟨rfl, L2.out.bel⟩
  have HTm := Lib.hid (tame_Tm HXT.out.symm)
  clear HXT
  obtain ⟨d0, d1, d2, d3, d4⟩ := L2.out.cells
  have HW := Lib.hid (write_one w2 m t p f l4 ch L2.out.rd (by omega) l1 l2 l3)
  go_wp2_with fail
  refine HW.out.mono ?_
  rintro e w3 ⟨v3, rfl, hr3, hb3⟩
  have L3 := Lib.hid (L2.out.step hb3)
  obtain ⟨fo, hfo⟩ : ∃ x, x = formatO (cfgOf m t p f ch) s := ⟨_, rfl⟩
  rw [← hfo] at hr3
  have HFfo := Lib.hid hfo
  clear hfo
  have HX3 := Lib.hid hr3
  obtain ⟨a3, c3, rfl, -, q3, -⟩ := hr3.val
  unfold maxLen at q3
  clear HW L2 hb3 hr3 d0 d1 d2 d3 d4
  have HSW := Lib.hid (swap_calls w3 L3.out.rd 12 10 (by omega))
  go_wp2_with fail
  refine HSW.out.mono ?_
  rintro e w4 ⟨v4, rfl, hr4, hb4⟩
  have L4 := Lib.hid (L3.out.step hb4)
  rw [← (show fo = s.map (sw 12 10) from HFfo.out.trans (format_flat H32.out HTm.out HNO.out))] at hr4
  have hSm := same_calls w4 (HX3.out.below hb4) hr4
  rw [decide_eq_true rfl] at hSm
  have HSM := Lib.hid hSm
  obtain ⟨a4, c4, rfl, -, q4, -⟩ := hr4.val
  unfold maxLen at q4
  clear hb4 hr4 hSm HSW
  go_wp2_with fail
  refine HSM.out.mono ?_
  rintro e w5 ⟨rfl, rfl⟩
  go_wp2_with fail
  go_ret
  exact ⟨rfl, L4.out.bel⟩
end Go.Proofs.YthcjaegnnfiboaaDoor

namespace Go.Proofs.YthcjaegnnfiboaaDoor.fnNothingAdded
open Go.ChangeShapes Go.WideShapes Go.ChangeAt Go.RowKit
set_option maxRecDepth 100000

theorem own : ownKnob Tryd.prog.godebug = none := by kernel_rfl

theorem contract (H : Type) (enc : TypeId × Value → H) (W : World) (base : Nat) (args : Array Value) (ds gs : List (DataW H)) (before : List MemPlace)
    (hval : ∀ (j : Nat) t v, Tryd.f11.params[j]? = some t → args[j]? = some v → Value.okWide Tryd.prog W .any base t v)
    (hW : DataW.Whole enc Tryd.prog Tryd.f11.params.toList Rows.fnNothingAddedSpec.vars false W args.toList ds gs before)
    (hL : laidMetH Tryd.prog Rows.fnNothingAddedRow.laid W) :
    Calls Tryd.prog 11 args W fun e W' => ∃ v, e = .returned v ∧ Rows.fnNothingAddedSpec.post enc Tryd.prog Tryd.f11 false true false false W args v W' := by
  have hW' := hW
  obtain ⟨p, q, hA0, hV, rfl, hfz, hnd⟩ := hW
  have hA : DataW.TrodAll enc Tryd.prog W 0 (fun _ => true) true Tryd.f11.params.toList args.toList ds p := hA0
  rw [Tryd.params11] at hA hval
  obtain ⟨v0, vs0, d0, ds0, p0, q0, hargs, rfl, rfl, h0, r0⟩ := trodAll_cons hA
  obtain ⟨v1, vs1, d1, ds1, p1, q1, rfl, rfl, rfl, h1, r1⟩ := trodAll_cons r0
  obtain ⟨rfl, rfl, rfl⟩ := trodAll_nil r1
  obtain rfl : args = #[v0, v1] := by cases args; simp_all
  obtain ⟨mn0, tb0, pd0, fl0, ch0, rfl⟩ := open_conf (hval 0 _ _ rfl rfl)
  obtain ⟨bs1, hrd1⟩ := open_rd (hval 1 _ _ rfl rfl) h1
  refine (nothingAdded_calls W mn0 tb0 pd0 fl0 ch0 hrd1 (tabs_of hL)).mono fun e W' ⟨he, hb⟩ => ?_
  subst he
  refine ⟨_, rfl, law_post rfl ?_ (by kernel_rfl) ?_ hW' hb⟩
  · intro ds hds
    match ds, hds with
    | [a, b], _ => rfl
  · rw [Tryd.params11]
    intro t ht
    simp at ht
    rcases ht with rfl | rfl <;> exact of_decide_eq_true (by kernel_rfl)

theorem laid_met (os : Os) : laidMet Tryd.prog Rows.fnNothingAddedRow.laid ((laidWorld os).forCall (fun _ _ => 0) ⟨#[], #[conf0, .slice none 0 0], []⟩).memory :=
  laidMet_of_run' 8 (by kernel_rfl) (by kernel_rfl)
theorem reads (os : Os) {H : Type} (enc : TypeId × Value → H) : ∃ places, DataW.whole enc Tryd.prog ((laidWorld os).forCall (fun _ _ => 0) ⟨#[], #[conf0, .slice none 0 0], []⟩).memory Tryd.f11.params.toList Rows.fnNothingAddedSpec.vars false (#[conf0, .slice none 0 0] : Array Value).toList 8 = some ([.agg [.lit (.int .i64 0), .lit (.int .i64 0), .lit (.int .i64 0), .lit (.int .u8 0), .lit (.int .i64 0)], .nil], [], places) :=
  ⟨[], by kernel_rfl⟩

set_option maxRecDepth 100000 in
theorem lifted (os : Os) (started : os.Started) (H : Type) (enc : TypeId × Value → H) (F : Stop.Interp) :
    ReturnsInHanded {} Tryd.checked os 11 .any ((OpenSpec.ofChange Rows.fnNothingAddedSpec).preRow enc Tryd.prog Tryd.f11 Rows.fnNothingAddedRow.domain false Rows.fnNothingAddedRow.laid) (((OpenSpec.ofChange Rows.fnNothingAddedSpec).at F).post enc Tryd.prog Tryd.f11 false true false false) := by
  obtain ⟨places, hx⟩ := reads os enc
  refine returnsInHanded_of_row (C := Tryd.checked) (s := OpenSpec.ofChange Rows.fnNothingAddedSpec) own started (by kernel_rfl) Tryd.func11
    (witness_row_at (enc := enc) (C := Tryd.checked) false (laidWorld os) #[conf0, .slice none 0 0] rfl (by kernel_rfl) (by kernel_rfl) (by kernel_rfl)
      (OpenSpec.preRow_of_cond 8 hx (by kernel_rfl) (fun k hk => by cases hk) (by kernel_rfl) (laid_met os))) ?_
  intro W base args ds gs before hval hW _ _ _ hL _ _
  exact contract H enc W base args ds gs before hval hW hL

theorem said : Rows.FnNothingAddedSaid :=
  OpenClaim.holds_of_cond 11 Tryd.f11 rfl rfl rfl rfl rfl rfl rfl ⟨rfl, rfl, rfl, rfl, rfl⟩ rfl rfl rfl rfl rfl (by kernel_rfl) Tryd.func11 (by kernel_rfl)
    (of_decide_eq_true (by kernel_rfl)) (by unfold Func.isWrapper; first | (rw [if_pos (by decide +kernel)]; kernel_rfl) | (rw [if_neg (by decide +kernel)]; exact ⟨rfl, rfl⟩))
    (fun os started H enc _ F => by rw [OpenClaim.pre_eq_preRow]; exact lifted os started H enc F)

theorem plain (f : FuncId) (fn : Func) (hf : Tryd.pinned.checked.prog.funcNamed "loop.example/pub-tabcolumns/laws.FnNothingAdded" = some f) (hfn : Tryd.pinned.checked.prog.funcs[f]? = some fn) :
    true = Tryd.pinned.checked.prog.looks [] ∧ ∀ (j : Nat) t, fn.params[j]? = some t → Tryd.pinned.checked.prog.wantsStandIn t = false := by
  obtain rfl : f = 11 := Option.some.inj ((show Tryd.prog.funcNamed "loop.example/pub-tabcolumns/laws.FnNothingAdded" = some 11 by kernel_rfl).symm.trans hf) |>.symm
  obtain rfl : fn = Tryd.f11 := (Option.some.inj (Tryd.func11.symm.trans hfn)).symm
  refine ⟨by kernel_rfl, fun j t ht => ?_⟩
  rw [Tryd.params11] at ht
  have hm := Array.mem_of_getElem? ht
  simp at hm
  rcases hm with rfl | rfl
  · exact (show Tryd.prog.wantsStandIn 23 = false by kernel_rfl)
  · exact (show Tryd.prog.wantsStandIn 24 = false by kernel_rfl)

theorem card : Rows.FnNothingAddedCardSaid :=
  Claim7.holds_tied_plain_at .later [] _ _ _ _ said (fun _ h => by cases h) (by kernel_rfl) (fun _ h => by cases h) fnNothingAdded_row_tie rfl ⟨rfl, rfl⟩ (by kernel_rfl) rfl plain (by kernel_rfl)
end Go.Proofs.YthcjaegnnfiboaaDoor.fnNothingAdded

namespace Go.Proofs.YthcjaegnnfiboaaDoor
theorem fnNothingAdded_card : Rows.FnNothingAddedCardSaid := fnNothingAdded.card
#print axioms fnNothingAdded_card
end Go.Proofs.YthcjaegnnfiboaaDoor
