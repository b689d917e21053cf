/- 'FnExactAgain': set up anew, a writer aligns another text as a new one. -/
import Derived.Test.YtaagcdlghoiolaaDoorCards
import Derived.Test.YtaagcdlghoiolaaDoorTie
import Derived.Test.YtaagcdlghoiolaaDoorVe
import Derived.Test.YtaagcdlghoiolaaDoorQe
import Derived.Test.YtaagcdlghoiolaaDoorAg
import Derived.WalkKit
import Derived.ProofKit
import Derived.OpenShut
import Derived.Deep.DeepHandedRow
import Derived.Deep.DeepWitnessRowRef
namespace Go.Proofs.YtaagcdlghoiolaaDoor
open Go.RowKit Go.Tw Go.Sort
set_option maxRecDepth 100000

set_option maxHeartbeats 8000000 in
theorem exactAgain_calls (w : World) (mn tb pd fl : Int) (ch : UInt8) (mn' tb' pd' fl' : Int) (ch' : UInt8) {va vb : Value} {a b : List UInt8} (ha : Rd w va a) (hb : Rd w vb b) (hT : Lib.Utf8Tabs 1 2 w) :
    Calls Tryd.prog 4 #[.agg #[.int .i64 mn, .int .i64 tb, .int .i64 pd, .int .u8 ch.toNat, .int .i64 fl], va, .agg #[.int .i64 mn', .int .i64 tb', .int .i64 pd', .int .u8 ch'.toNat, .int .i64 fl'], vb] w fun e w' => e = .returned (.bool true) ∧ Below w.heap.size w w' := by
  obtain ⟨W1, hW1⟩ : ∃ x, x = w.alloc (.cells #[.int .i64 mn, .int .i64 tb, .int .i64 pd, .int .u8 ch.toNat, .int .i64 fl] 23) := ⟨_, rfl⟩
  have hL0 : LS w mn tb pd ch fl va a W1 := hW1 ▸ LS.start ha
  have hM0 : LS W1 mn' tb' pd' ch' fl' vb b _ := LS.start (hb.below hL0.bel)
  have hL1 := hL0.step hM0.bel
  have hsz : W1.heap.size = w.heap.size + 1 := by rw [hW1]; simp
  obtain ⟨W2, hW2⟩ : ∃ x, x = W1.alloc (.cells #[.int .i64 mn', .int .i64 tb', .int .i64 pd', .int .u8 ch'.toNat, .int .i64 fl'] 23) := ⟨_, rfl⟩
  rw [← hW2] at hM0 hL1
  have L0 := Lib.hid hL1
  have M0 := Lib.hid hM0
  have HSZ := Lib.hid hsz
  have HT := Lib.hid hT
  have HW2 := Lib.hid (show W2 = (w.alloc (.cells #[.int .i64 mn, .int .i64 tb, .int .i64 pd, .int .u8 ch.toNat, .int .i64 fl] 23)).alloc (.cells #[.int .i64 mn', .int .i64 tb', .int .i64 pd', .int .u8 ch'.toNat, .int .i64 fl'] 23) by rw [hW2, hW1])
  obtain ⟨ao, cp, rfl, g1, g2⟩ := L0.out.shape
  obtain ⟨bo, bp, rfl, g3, g4⟩ := M0.out.shape
  clear ha hb hT hL0 hM0 hL1 hsz hW1 hW2
  by_cases hla : a.length ≤ 2147483647
  rotate_left
  · go_enter Tryd.func4, Tryd.ntmps4
    go_wp2_with fail
    rw [← HW2.out]
    go_ret
    exact ⟨rfl, L0.out.bel⟩
  by_cases hlb : b.length ≤ 2147483647
  rotate_left
  · go_enter Tryd.func4, Tryd.ntmps4
    go_wp2_with fail
    rw [← HW2.out]
    go_ret
    exact ⟨rfl, L0.out.bel⟩
  go_enter Tryd.func4, Tryd.ntmps4
  go_wp2_with fail
  rw [← HW2.out]
  refine (spaces_calls W2 mn tb pd fl ch L0.out.rd (Utf8Tabs_below HT.out L0.out.bel)).mono ?_
  clear HW2
  rintro e w1 ⟨xb, rfl, hb1, hfact⟩
  have L1 := Lib.hid (L0.out.step hb1)
  have M1 := Lib.hid (M0.out.step hb1)
  have HFA := Lib.hid hfact
  clear hb1 hfact L0 M0
  cases xb
  · go_wp2_with fail
    go_ret
    exact ⟨rfl, L1.out.bel⟩
  obtain ⟨m, t, p, f, rfl, rfl, rfl, rfl, l1, l2, l3, l4, hs, -⟩ := HFA.out rfl
  clear HFA
  have hm := M1.out.cells
  rw [HSZ.out] at hm
  obtain ⟨e0, e1, e2, e3, e4⟩ := hm
  go_wp2_with fail
  refine (spaces_calls w1 mn' tb' pd' fl' ch' M1.out.rd (Utf8Tabs_below HT.out L1.out.bel)).mono ?_
  clear e0 e1 e2 e3 e4
  rintro e w2 ⟨xb, rfl, hb2, hfact⟩
  have L2 := Lib.hid (L1.out.step hb2)
  have M2 := Lib.hid (M1.out.step hb2)
  have HFA := Lib.hid hfact
  clear hb2 hfact L1 M1
  cases xb
  · go_wp2_with fail
    go_ret
    exact ⟨rfl, L2.out.bel⟩
  obtain ⟨m', t', p', f', rfl, rfl, rfl, rfl, l1', l2', l3', l4', hs', -⟩ := HFA.out rfl
  clear HFA
  have hm := M2.out.cells
  rw [HSZ.out] at hm
  obtain ⟨e0, e1, e2, e3, e4⟩ := hm
  obtain ⟨d0, d1, d2, d3, d4⟩ := L2.out.cells
  have hN := implAgain_calls w2 m t p f ch l1 l2 l3 l4 m' t' p' f' ch' l1' l2' l3' l4' L2.out.rd M2.out.rd (by omega) (by omega)
  rw [show outOf (⟨m, t, p, ch, keepFl ch f, -1⟩ : Cfg) a = formatO (cfgOf m t p f ch) a from out_format (cfgOf m t p f ch) a, show outOf (⟨m', t', p', ch', keepFl ch' f', -1⟩ : Cfg) b = formatO (cfgOf m' t' p' f' ch') b from out_format (cfgOf m' t' p' f' ch') b] at hN
  obtain ⟨fx, hfx⟩ : ∃ x, x = formatO (cfgOf m t p f ch) a := ⟨_, rfl⟩
  obtain ⟨fy, hfy⟩ : ∃ x, x = formatO (cfgOf m' t' p' f' ch') b := ⟨_, rfl⟩
  rw [← hfx, ← hfy] at hN
  have HN := Lib.hid hN
  have HFX := Lib.hid hfx
  have HFY := Lib.hid hfy
  clear hN hfx hfy
  go_wp2_with fail
  refine HN.out.mono ?_
  rintro e w3 ⟨vx, vy, rfl, rx, ry, hb3⟩
  have L3 := Lib.hid (L2.out.step hb3)
  have M3 := Lib.hid (M2.out.step hb3)
  have HX3 := Lib.hid rx
  have HY3 := Lib.hid ry
  obtain ⟨xo, xp, rfl, -⟩ := rx.val
  obtain ⟨yo, yp, rfl, -⟩ := ry.val
  clear hb3 rx ry HN L2 M2 d0 d1 d2 d3 d4 e0 e1 e2 e3 e4
  obtain ⟨d0, d1, d2, d3, d4⟩ := L3.out.cells
  go_wp2_with fail
  refine (format_calls w3 m t p f l4 ch L3.out.rd hs l1 l2 l3).mono ?_
  rintro e w4 ⟨v4, rfl, hr4, hb4⟩
  rw [← HFX.out] at hr4
  have L4 := Lib.hid (L3.out.step hb4)
  have M4 := Lib.hid (M3.out.step hb4)
  have HY4 := Lib.hid (HY3.out.below hb4)
  have hSm := same_calls w4 (HX3.out.below hb4) hr4
  rw [decide_eq_true rfl] at hSm
  have HSM := Lib.hid hSm
  obtain ⟨a4, c4, rfl, -⟩ := hr4.val
  have hm := M4.out.cells
  rw [HSZ.out] at hm
  obtain ⟨e0, e1, e2, e3, e4⟩ := hm
  clear hb4 hr4 hSm L3 M3 HX3 HY3 d0 d1 d2 d3 d4
  go_wp2_with fail
  refine HSM.out.mono ?_
  rintro e wq ⟨rfl, rfl⟩
  clear HSM
  go_wp2_with fail
  refine (format_calls w4 m' t' p' f' l4' ch' M4.out.rd hs' l1' l2' l3').mono ?_
  rintro e w5 ⟨v5, rfl, hr5, hb5⟩
  rw [← HFY.out] at hr5
  have L5 := Lib.hid (L4.out.step hb5)
  have hSm := same_calls w5 (HY4.out.below hb5) hr5
  rw [decide_eq_true rfl] at hSm
  have HSM := Lib.hid hSm
  obtain ⟨a5, c5, rfl, -⟩ := hr5.val
  clear hb5 hr5 hSm L4 M4 HY4 e0 e1 e2 e3 e4
  go_wp2_with fail
  refine HSM.out.mono ?_
  rintro e wq ⟨rfl, rfl⟩
  clear HSM
  go_wp2_with fail
  go_ret
  exact ⟨rfl, L5.out.bel⟩
end Go.Proofs.YtaagcdlghoiolaaDoor

namespace Go.Proofs.YtaagcdlghoiolaaDoor.fnExactAgain
open Go.ChangeShapes Go.WideShapes Go.ChangeAt Go.RowKit
set_option maxRecDepth 100000

theorem own : ownKnob Tryd.prog.godebug = none := by kernel_rfl

theorem contract (H : Type) (enc : TypeId × Value → H) (W : World) (base : Nat) (args : Array Value) (ds gs : List (DataW H)) (before : List MemPlace)
    (hval : ∀ (j : Nat) t v, Tryd.f4.params[j]? = some t → args[j]? = some v → Value.okWide Tryd.prog W .any base t v)
    (hW : DataW.Whole enc Tryd.prog Tryd.f4.params.toList Rows.fnExactAgainSpec.vars false W args.toList ds gs before)
    (hL : laidMetH Tryd.prog Rows.fnExactAgainRow.laid W) :
    Calls Tryd.prog 4 args W fun e W' => ∃ v, e = .returned v ∧ Rows.fnExactAgainSpec.post enc Tryd.prog Tryd.f4 false true false false W args v W' := by
  have hW' := hW
  obtain ⟨p, q, hA0, hV, rfl, hfz, hnd⟩ := hW
  have hA : DataW.TrodAll enc Tryd.prog W 0 (fun _ => true) true Tryd.f4.params.toList args.toList ds p := hA0
  rw [Tryd.params4] at hA hval
  obtain ⟨v0, vs0, d0, ds0, p0, q0, hargs, rfl, rfl, h0, r0⟩ := trodAll_cons hA
  obtain ⟨v1, vs1, d1, ds1, p1, q1, rfl, rfl, rfl, h1, r1⟩ := trodAll_cons r0
  obtain ⟨v2, vs2, d2, ds2, p2, q2, rfl, rfl, rfl, h2, r2⟩ := trodAll_cons r1
  obtain ⟨v3, vs3, d3, ds3, p3, q3, rfl, rfl, rfl, h3, r3⟩ := trodAll_cons r2
  obtain ⟨rfl, rfl, rfl⟩ := trodAll_nil r3
  obtain rfl : args = #[v0, v1, v2, v3] := by cases args; simp_all
  obtain ⟨mn0, tb0, pd0, fl0, ch0, rfl⟩ := open_conf (hval 0 _ _ rfl rfl)
  obtain ⟨bs1, hrd1⟩ := open_rd (hval 1 _ _ rfl rfl) h1
  obtain ⟨mn2, tb2, pd2, fl2, ch2, rfl⟩ := open_conf (hval 2 _ _ rfl rfl)
  obtain ⟨bs3, hrd3⟩ := open_rd (hval 3 _ _ rfl rfl) h3
  refine (exactAgain_calls W mn0 tb0 pd0 fl0 ch0 mn2 tb2 pd2 fl2 ch2 hrd1 hrd3 (tabs_of hL)).mono fun e W' ⟨he, hb⟩ => ?_
  subst he
  refine ⟨_, rfl, law_post rfl ?_ (by kernel_rfl) ?_ hW' hb⟩
  · intro ds hds
    match ds, hds with
    | [a, b, c, d], _ => rfl
  · rw [Tryd.params4]
    intro t ht
    simp at ht
    first | (rcases ht with rfl | rfl | rfl | rfl <;> exact of_decide_eq_true (by kernel_rfl)) | (rcases ht with rfl | rfl <;> exact of_decide_eq_true (by kernel_rfl))

theorem laid_met (os : Os) : laidMet Tryd.prog Rows.fnExactAgainRow.laid ((laidWorld os).forCall (fun _ _ => 0) ⟨#[], #[conf0, .slice none 0 0, conf0, .slice none 0 0], []⟩).memory :=
  laidMet_of_run' 8 (by kernel_rfl) (by kernel_rfl)
theorem reads (os : Os) {H : Type} (enc : TypeId × Value → H) : ∃ places, DataW.whole enc Tryd.prog ((laidWorld os).forCall (fun _ _ => 0) ⟨#[], #[conf0, .slice none 0 0, conf0, .slice none 0 0], []⟩).memory Tryd.f4.params.toList Rows.fnExactAgainSpec.vars false (#[conf0, .slice none 0 0, conf0, .slice none 0 0] : Array Value).toList 8 = some ([.agg [.lit (.int .i64 0), .lit (.int .i64 0), .lit (.int .i64 0), .lit (.int .u8 0), .lit (.int .i64 0)], .nil, .agg [.lit (.int .i64 0), .lit (.int .i64 0), .lit (.int .i64 0), .lit (.int .u8 0), .lit (.int .i64 0)], .nil], [], places) :=
  ⟨[], by kernel_rfl⟩

set_option maxRecDepth 100000 in
theorem lifted (os : Os) (started : os.Started) (H : Type) (enc : TypeId × Value → H) (F : Stop.Interp) :
    ReturnsInHanded {} Tryd.checked os 4 .any ((OpenSpec.ofChange Rows.fnExactAgainSpec).preRow enc Tryd.prog Tryd.f4 Rows.fnExactAgainRow.domain false Rows.fnExactAgainRow.laid) (((OpenSpec.ofChange Rows.fnExactAgainSpec).at F).post enc Tryd.prog Tryd.f4 false true false false) := by
  obtain ⟨places, hx⟩ := reads os enc
  refine returnsInHanded_of_row (C := Tryd.checked) (s := OpenSpec.ofChange Rows.fnExactAgainSpec) own started (by kernel_rfl) Tryd.func4
    (witness_row_at (enc := enc) (C := Tryd.checked) false (laidWorld os) #[conf0, .slice none 0 0, conf0, .slice none 0 0] rfl (by kernel_rfl) (by kernel_rfl) (by kernel_rfl)
      (OpenSpec.preRow_of_cond 8 hx (by kernel_rfl) (fun k hk => by cases hk) (by kernel_rfl) (laid_met os))) ?_
  intro W base args ds gs before hval hW _ _ _ hL _ _
  exact contract H enc W base args ds gs before hval hW hL

theorem said : Rows.FnExactAgainSaid :=
  OpenClaim.holds_of_cond 4 Tryd.f4 rfl rfl rfl rfl rfl rfl rfl ⟨rfl, rfl, rfl, rfl, rfl⟩ rfl rfl rfl rfl rfl (by kernel_rfl) Tryd.func4 (by kernel_rfl)
    (of_decide_eq_true (by kernel_rfl)) (by unfold Func.isWrapper; first | (rw [if_pos (by decide +kernel)]; kernel_rfl) | (rw [if_neg (by decide +kernel)]; exact ⟨rfl, rfl⟩))
    (fun os started H enc _ F => by rw [OpenClaim.pre_eq_preRow]; exact lifted os started H enc F)

theorem plain (f : FuncId) (fn : Func) (hf : Tryd.pinned.checked.prog.funcNamed "loop.example/pub-tabcolumns/laws.FnExactAgain" = some f) (hfn : Tryd.pinned.checked.prog.funcs[f]? = some fn) :
    true = Tryd.pinned.checked.prog.looks [] ∧ ∀ (j : Nat) t, fn.params[j]? = some t → Tryd.pinned.checked.prog.wantsStandIn t = false := by
  obtain rfl : f = 4 := Option.some.inj ((show Tryd.prog.funcNamed "loop.example/pub-tabcolumns/laws.FnExactAgain" = some 4 by kernel_rfl).symm.trans hf) |>.symm
  obtain rfl : fn = Tryd.f4 := (Option.some.inj (Tryd.func4.symm.trans hfn)).symm
  refine ⟨by kernel_rfl, fun j t ht => ?_⟩
  rw [Tryd.params4] at ht
  have hm := Array.mem_of_getElem? ht
  simp at hm
  rcases hm with rfl | rfl | rfl | rfl
  · exact (show Tryd.prog.wantsStandIn 23 = false by kernel_rfl)
  · exact (show Tryd.prog.wantsStandIn 24 = false by kernel_rfl)
  · exact (show Tryd.prog.wantsStandIn 23 = false by kernel_rfl)
  · exact (show Tryd.prog.wantsStandIn 24 = false by kernel_rfl)

theorem card : Rows.FnExactAgainCardSaid :=
  Claim7.holds_tied_plain_at .later [] _ _ _ _ said (fun _ h => by cases h) (by kernel_rfl) (fun _ h => by cases h) fnExactAgain_row_tie rfl ⟨rfl, rfl⟩ (by kernel_rfl) rfl plain (by kernel_rfl)
end Go.Proofs.YtaagcdlghoiolaaDoor.fnExactAgain

namespace Go.Proofs.YtaagcdlghoiolaaDoor
theorem fnExactAgain_card : Rows.FnExactAgainCardSaid := fnExactAgain.card
#print axioms fnExactAgain_card
end Go.Proofs.YtaagcdlghoiolaaDoor
