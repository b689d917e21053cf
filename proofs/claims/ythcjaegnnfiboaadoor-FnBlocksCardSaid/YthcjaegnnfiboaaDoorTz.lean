/- 'FnBlocks': lines apart from each other by a line without tabs are aligned apart. -/
import Derived.Test.YthcjaegnnfiboaaDoorCards
import Derived.Test.YthcjaegnnfiboaaDoorTie
import Derived.Test.YthcjaegnnfiboaaDoorVe
import Derived.Test.YthcjaegnnfiboaaDoorQe
import Derived.Test.YthcjaegnnfiboaaDoorLs
import Derived.WalkKit
import Derived.ProofKit
import Derived.OpenShut
import Derived.Deep.DeepHandedRow
import Derived.Deep.DeepWitnessRowRef
namespace Go.Proofs.YthcjaegnnfiboaaDoor
open Go.RowKit Go.Tw Go.Sort
set_option maxRecDepth 100000

set_option maxHeartbeats 8000000 in
theorem blocks_calls (w : World) (mn tb pd fl : Int) (ch : UInt8) {va vb : Value} {a b : List UInt8} (h : Rd w va a) (hb : Rd w vb b) (hT : Lib.Utf8Tabs 0 1 w) :
    Calls Tryd.prog 7 #[.agg #[.int .i64 mn, .int .i64 tb, .int .i64 pd, .int .u8 ch.toNat, .int .i64 fl], va, vb] w fun e w' => e = .returned (.bool true) ∧ Below w.heap.size w w' := by
  have L0 := Lib.hid (LS.start (mn := mn) (tb := tb) (pd := pd) (ch := ch) (fl := fl) h)
  have HT := Lib.hid hT
  have HRA := Lib.hid h
  have HRB := Lib.hid hb
  obtain ⟨ao, cp, rfl, g1, g2⟩ := L0.out.shape
  obtain ⟨bo, bp, rfl, g3, g4, -⟩ := hb.val
  unfold maxLen at g4
  clear h hb hT
  by_cases hla : a.length ≤ 2147483647
  rotate_left
  · go_enter Tryd.func7, Tryd.ntmps7
    go_wp2_with fail
    go_ret
    exact ⟨rfl, L0.out.bel⟩
  by_cases hlb : b.length ≤ 2147483647
  rotate_left
  · go_enter Tryd.func7, Tryd.ntmps7
    go_wp2_with fail
    go_ret
    exact ⟨rfl, L0.out.bel⟩
  obtain ⟨W0, hW0⟩ : ∃ W0, W0 = w.alloc (.cells #[.int .i64 mn, .int .i64 tb, .int .i64 pd, .int .u8 ch.toNat, .int .i64 fl] 23) := ⟨_, rfl⟩
  rw [← hW0] at L0
  obtain ⟨aA0, pA0, xA0, hrA0, hoA0, tA0⟩ := bld_copy (Tch.refl (New W0) W0) L0.out.rd (by omega) 24
  have hz0 : W0.heap.size = w.heap.size + 1 := by rw [hW0]; simp
  rw [hz0] at hrA0
  have HRUNA0 := Lib.hid hrA0
  obtain ⟨aA1, pA1, xA1, hrA1, hoA1, tA1⟩ := bld_one tA0 hoA0 10 (by omega) 24
  have HRUNA1 := Lib.hid (show (Builtin.append_ #[24, 24] 24 #[.slice aA0 (a.length) pA0, .slice (some ⟨xA0.heap.size, 0, none⟩) 1 1]).run Tryd.prog (xA0.alloc (.cells #[.int .u8 10] 5)) = .ok (.slice aA1 (a.length + 1) pA1) xA1 from hrA1)
  obtain ⟨s, hs0⟩ : ∃ s, s = a ++ [10] := ⟨_, rfl⟩
  have hrs := Own.rd hoA1
  rw [← hs0] at hrs
  have HS0 := Lib.hid hs0
  have hsl : s.length = a.length + 1 := by rw [hs0]; simp
  have hsl2 : s.length ≤ 2147483648 := by omega
  have L1 := Lib.hid ((L0.out.step (New.below tA1)).text hrs)
  rw [← hsl] at L1 HRUNA1
  rw [hW0] at HRUNA0
  clear hrA0 hoA0 tA0 hrA1 hoA1 tA1 hs0 hrs L0 hW0 hz0 hsl
  obtain ⟨d0, d1, d2, d3, d4⟩ := L1.out.cells
  go_enter Tryd.func7, Tryd.ntmps7
  go_wp2_with (first | (at_builtin; refine wpList_append_eq rfl (.tmp 18) (.tmp 19) 24 rfl rfl rfl HRUNA0.out ?_) | (at_builtin; refine wpList_append_eq rfl (.tmp 20) (.tmp 21) 24 rfl rfl rfl HRUNA1.out ?_))
  refine (spaces_calls _ mn tb pd fl ch L1.out.rd (Utf8Tabs_below HT.out L1.out.bel)).mono ?_
  rintro e w2 ⟨b, rfl, hb2, hfact⟩
  have L2 := Lib.hid (L1.out.step hb2)
  have HFA := Lib.hid hfact
  clear hb2 L1 d0 d1 d2 d3 d4 hfact
  cases b
  · go_wp2_with fail
    go_ret
    exact ⟨rfl, L2.out.bel⟩
  obtain ⟨m, t, p, f, rfl, rfl, rfl, rfl, l1, l2, l3, l4, hs, h9, h128, h16, h32, ho⟩ := HFA.out rfl
  have H9 := Lib.hid h9
  have H128 := Lib.hid h128
  have H16 := Lib.hid h16
  have H32 := Lib.hid h32
  have HO := Lib.hid ho
  clear HFA h9 h128 h16 h32 ho
  obtain ⟨d0, d1, d2, d3, d4⟩ := L2.out.cells
  go_wp2_with fail
  refine (spaces_calls _ m t p f ch (HRB.out.below L2.out.bel) (Utf8Tabs_below HT.out L2.out.bel)).mono ?_
  rintro e w3 ⟨xb, rfl, hb3, hfact⟩
  have L3 := Lib.hid (L2.out.step hb3)
  have HFA := Lib.hid hfact
  clear hb3 L2 d0 d1 d2 d3 d4 hfact
  cases xb
  · go_wp2_with fail
    go_ret
    exact ⟨rfl, L3.out.bel⟩
  obtain ⟨-, -, -, -, -, -, -, -, -, -, -, -, hsb, -, -, -, -, -⟩ := HFA.out rfl
  clear HFA
  have HTM := Lib.hid (tame_calls w3 L3.out.rd (by omega))
  obtain ⟨xt, hxt⟩ : ∃ x, x = tame s := ⟨_, rfl⟩
  rw [← hxt] at HTM
  have HXT := Lib.hid hxt
  clear hxt
  go_wp2_with fail
  refine HTM.out.mono ?_
  rintro e wt ⟨rfl, rfl⟩
  clear HTM
  cases xt
  · go_wp2_with fail
    go_ret
    exact ⟨rfl, L3.out.bel⟩
  have HTm := Lib.hid (tame_Tm HXT.out.symm)
  clear HXT
  have HTM := Lib.hid (tame_calls w3 (HRB.out.below L3.out.bel) (by omega))
  obtain ⟨xt, hxt⟩ : ∃ x, x = tame b := ⟨_, rfl⟩
  rw [← hxt] at HTM
  have HXT := Lib.hid hxt
  clear hxt
  go_wp2_with fail
  refine HTM.out.mono ?_
  rintro e wt ⟨rfl, rfl⟩
  clear HTM
  cases xt
  · go_wp2_with fail
    go_ret
    exact ⟨rfl, L3.out.bel⟩
  have HTb := Lib.hid (tame_Tm HXT.out.symm)
  clear HXT
  obtain ⟨aB0, pB0, xB0, hrB0, hoB0, tB0⟩ := bld_copy (Tch.refl (New w3) w3) L3.out.rd (by omega) 24
  have HRUNB0 := Lib.hid hrB0
  obtain ⟨aB1, pB1, xB1, hrB1, hoB1', tB1⟩ := bld_str tB0 hoB0 ⟨#[120, 10]⟩ (by simp [ByteArray.size]; omega) 24
  have HRUNB1 := Lib.hid (show (Builtin.append_ #[24, 9] 24 #[.slice aB0 (s.length) pB0, .string ⟨#[120, 10]⟩]).run Tryd.prog xB0 = .ok (.slice aB1 (s.length + 2) pB1) xB1 from hrB1)
  have hoB1 : Own (New w3) xB1 5 1 (.slice aB1 (s.length + 2) pB1) (s.length + 2) (bvs (_ ++ [120, 10])) := hoB1'
  clear hoB1'
  obtain ⟨aB2, pB2, xB2, hrB2, hoB2, tB2⟩ := bld_rd tB1 hoB1 (HRB.out.below (L3.out.bel.trans ((New.below tB1).mono L3.out.bel.size))) (by omega) 24
  have HRUNB2 := Lib.hid hrB2
  obtain ⟨bo2, hbo⟩ : ∃ bo2, bo2 = (s ++ [120, 10]) ++ b := ⟨_, rfl⟩
  have hrbo := Own.rd hoB2
  have hbl : bo2.length = s.length + 2 + b.length := by rw [hbo]; simp; omega
  have hbl2 : bo2.length ≤ 6002 := by omega
  have HBE := Lib.hid hbo
  have L4 := Lib.hid (L3.out.step (New.below tB2))
  have HB4 := Lib.hid (show Rd xB2 (.slice aB2 bo2.length pB2) bo2 from by rw [hbl, hbo]; exact hrbo)
  rw [← hbl] at HRUNB2
  clear hrB0 hoB0 tB0 hrB1 hoB1 tB1 hrB2 hoB2 tB2 hbo hrbo L3 hbl
  obtain ⟨d0, d1, d2, d3, d4⟩ := L4.out.cells
  have HW := Lib.hid (write_one xB2 m t p f l4 ch L4.out.rd (by omega) l1 l2 l3)
  go_wp2_with (first | (at_builtin; refine wpList_append_eq rfl (.tmp 43) (.tmp 44) 24 rfl rfl rfl HRUNB0.out ?_) | (at_builtin; refine wpList_append_eq2 rfl (.tmp 45) (.const (.string ⟨#[120, 10]⟩)) 24 9 rfl rfl rfl HRUNB1.out ?_) | (at_builtin; refine wpList_append_eq rfl (.tmp 46) (.tmp 47) 24 rfl rfl rfl HRUNB2.out ?_))
  refine HW.out.mono ?_
  rintro e w5 ⟨v5, rfl, hr5, hb5⟩
  have L5 := Lib.hid (L4.out.step hb5)
  have HB5 := Lib.hid (HB4.out.below hb5)
  clear HB4
  obtain ⟨fx, hfx⟩ : ∃ x, x = formatO (cfgOf m t p f ch) s := ⟨_, rfl⟩
  rw [← hfx] at hr5
  have HFfx := Lib.hid hfx
  clear hfx
  have HX5 := Lib.hid hr5
  obtain ⟨a5, c5, rfl, -, q5, -⟩ := hr5.val
  unfold maxLen at q5
  clear HW L4 hb5 hr5 d0 d1 d2 d3 d4
  obtain ⟨d0, d1, d2, d3, d4⟩ := L5.out.cells
  have HW := Lib.hid (write_one w5 m t p f l4 ch (HRB.out.below L5.out.bel) (by omega) l1 l2 l3)
  go_wp2_with fail
  refine HW.out.mono ?_
  rintro e w6 ⟨v6, rfl, hr6, hb6⟩
  have L6 := Lib.hid (L5.out.step hb6)
  have HB6 := Lib.hid (HB5.out.below hb6)
  clear HB5
  have HX6 := Lib.hid (HX5.out.below hb6)
  clear HX5
  obtain ⟨fy, hfy⟩ : ∃ x, x = formatO (cfgOf m t p f ch) b := ⟨_, rfl⟩
  rw [← hfy] at hr6
  have HFfy := Lib.hid hfy
  clear hfy
  have HY6 := Lib.hid hr6
  obtain ⟨a6, c6, rfl, -, q6, -⟩ := hr6.val
  unfold maxLen at q6
  clear HW L5 hb6 hr6 d0 d1 d2 d3 d4
  obtain ⟨d0, d1, d2, d3, d4⟩ := L6.out.cells
  have HW := Lib.hid (write_one w6 m t p f l4 ch HB6.out (by omega) l1 l2 l3)
  go_wp2_with fail
  refine HW.out.mono ?_
  rintro e w7 ⟨v7, rfl, hr7, hb7⟩
  have L7 := Lib.hid (L6.out.step hb7)
  have HX7 := Lib.hid (HX6.out.below hb7)
  clear HX6
  have HY7 := Lib.hid (HY6.out.below hb7)
  clear HY6
  obtain ⟨fz, hfz⟩ : ∃ x, x = formatO (cfgOf m t p f ch) bo2 := ⟨_, rfl⟩
  rw [← hfz] at hr7
  have HFfz := Lib.hid hfz
  clear hfz
  have HZ7 := Lib.hid hr7
  obtain ⟨a7, c7, rfl, -, q7, -⟩ := hr7.val
  unfold maxLen at q7
  clear HW L6 hb7 hr7 d0 d1 d2 d3 d4
  have hfx : fx.length ≤ 100000000000 := by rw [HFfx.out]; exact format_bound m t p f ch l1 l2 l3 s hs
  have hfy : fy.length ≤ 100000000000 := by rw [HFfy.out]; exact format_bound m t p f ch l1 l2 l3 b hsb
  obtain ⟨aC0, pC0, xC0, hrC0, hoC0, tC0⟩ := bld_copy (Tch.refl (New w7) w7) HX7.out (by omega) 24
  have HRUNC0 := Lib.hid hrC0
  obtain ⟨aC1, pC1, xC1, hrC1, hoC1', tC1⟩ := bld_str tC0 hoC0 ⟨#[120, 10]⟩ (by simp [ByteArray.size]; omega) 24
  have HRUNC1 := Lib.hid (show (Builtin.append_ #[24, 9] 24 #[.slice aC0 (fx.length) pC0, .string ⟨#[120, 10]⟩]).run Tryd.prog xC0 = .ok (.slice aC1 (fx.length + 2) pC1) xC1 from hrC1)
  have hoC1 : Own (New w7) xC1 5 1 (.slice aC1 (fx.length + 2) pC1) (fx.length + 2) (bvs (_ ++ [120, 10])) := hoC1'
  clear hoC1'
  obtain ⟨aC2, pC2, xC2, hrC2, hoC2, tC2⟩ := bld_rd tC1 hoC1 (HY7.out.below (New.below tC1)) (by omega) 24
  have HRUNC2 := Lib.hid hrC2
  obtain ⟨wt, hwt⟩ : ∃ wt, wt = (fx ++ [120, 10]) ++ fy := ⟨_, rfl⟩
  have hrw := Own.rd hoC2
  have hwl : wt.length = fx.length + 2 + fy.length := by rw [hwt]; simp; omega
  have hwl2 : wt.length ≤ 300000000000 := by omega
  have L8 := Lib.hid (L7.out.step (New.below tC2))
  rw [← hwt, ← hwl] at hrw
  rw [← hwl] at HRUNC2
  have hSm := same_calls xC2 (HZ7.out.below (New.below tC2)) hrw
  rw [decide_eq_true (show fz = wt from by rw [HFfz.out, HBE.out, HS0.out, hwt, HFfx.out, HFfy.out, HS0.out, List.append_assoc (a ++ [10])]; exact format_blocks H32.out (by have := HTm.out; rw [HS0.out] at this; exact this.left) HTb.out)] at hSm
  have HSM := Lib.hid hSm
  clear hrC0 hoC0 tC0 hrC1 hoC1 tC1 hrC2 hoC2 tC2 hrw hwl hwt hSm L7 HX7 HY7 HZ7
  go_wp2_with (first | (at_builtin; refine wpList_append_eq rfl (.tmp 61) (.tmp 62) 24 rfl rfl rfl HRUNC0.out ?_) | (at_builtin; refine wpList_append_eq2 rfl (.tmp 63) (.const (.string ⟨#[120, 10]⟩)) 24 9 rfl rfl rfl HRUNC1.out ?_) | (at_builtin; refine wpList_append_eq rfl (.tmp 64) (.tmp 65) 24 rfl rfl rfl HRUNC2.out ?_))
  refine HSM.out.mono ?_
  rintro e wq ⟨rfl, rfl⟩
  clear HSM
  obtain ⟨d0, d1, d2, d3, d4⟩ := L8.out.cells
  go_wp2_with fail
  refine (format_calls xC2 m t p f l4 ch L8.out.rd hs l1 l2 l3).mono ?_
  rintro e w9 ⟨v9, rfl, hr9, hb9⟩
  rw [← HFfx.out] at hr9
  have L9 := Lib.hid (L8.out.step hb9)
  obtain ⟨a9, c9, rfl, -⟩ := hr9.val
  clear hb9 d0 d1 d2 d3 d4
  go_wp2_with fail
  go_ret
  exact ⟨rfl, L9.out.bel⟩
end Go.Proofs.YthcjaegnnfiboaaDoor

namespace Go.Proofs.YthcjaegnnfiboaaDoor.fnBlocks
open Go.ChangeShapes Go.WideShapes Go.ChangeAt Go.RowKit
set_option maxRecDepth 100000

theorem own : ownKnob Tryd.prog.godebug = none := by kernel_rfl

theorem contract (H : Type) (enc : TypeId × Value → H) (W : World) (base : Nat) (args : Array Value) (ds gs : List (DataW H)) (before : List MemPlace)
    (hval : ∀ (j : Nat) t v, Tryd.f7.params[j]? = some t → args[j]? = some v → Value.okWide Tryd.prog W .any base t v)
    (hW : DataW.Whole enc Tryd.prog Tryd.f7.params.toList Rows.fnBlocksSpec.vars false W args.toList ds gs before)
    (hL : laidMetH Tryd.prog Rows.fnBlocksRow.laid W) :
    Calls Tryd.prog 7 args W fun e W' => ∃ v, e = .returned v ∧ Rows.fnBlocksSpec.post enc Tryd.prog Tryd.f7 false true false false W args v W' := by
  have hW' := hW
  obtain ⟨p, q, hA0, hV, rfl, hfz, hnd⟩ := hW
  have hA : DataW.TrodAll enc Tryd.prog W 0 (fun _ => true) true Tryd.f7.params.toList args.toList ds p := hA0
  rw [Tryd.params7] at hA hval
  obtain ⟨v0, vs0, d0, ds0, p0, q0, hargs, rfl, rfl, h0, r0⟩ := trodAll_cons hA
  obtain ⟨v1, vs1, d1, ds1, p1, q1, rfl, rfl, rfl, h1, r1⟩ := trodAll_cons r0
  obtain ⟨v2, vs2, d2, ds2, p2, q2, rfl, rfl, rfl, h2, r2⟩ := trodAll_cons r1
  obtain ⟨rfl, rfl, rfl⟩ := trodAll_nil r2
  obtain rfl : args = #[v0, v1, v2] := by cases args; simp_all
  obtain ⟨mn0, tb0, pd0, fl0, ch0, rfl⟩ := open_conf (hval 0 _ _ rfl rfl)
  obtain ⟨bs1, hrd1⟩ := open_rd (hval 1 _ _ rfl rfl) h1
  obtain ⟨bs2, hrd2⟩ := open_rd (hval 2 _ _ rfl rfl) h2
  refine (blocks_calls W mn0 tb0 pd0 fl0 ch0 hrd1 hrd2 (tabs_of hL)).mono fun e W' ⟨he, hb⟩ => ?_
  subst he
  refine ⟨_, rfl, law_post rfl ?_ (by kernel_rfl) ?_ hW' hb⟩
  · intro ds hds
    match ds, hds with
    | [a, b, c], _ => rfl
  · rw [Tryd.params7]
    intro t ht
    simp at ht
    rcases ht with rfl | rfl <;> exact of_decide_eq_true (by kernel_rfl)

theorem laid_met (os : Os) : laidMet Tryd.prog Rows.fnBlocksRow.laid ((laidWorld os).forCall (fun _ _ => 0) ⟨#[], #[conf0, .slice none 0 0, .slice none 0 0], []⟩).memory :=
  laidMet_of_run' 8 (by kernel_rfl) (by kernel_rfl)
theorem reads (os : Os) {H : Type} (enc : TypeId × Value → H) : ∃ places, DataW.whole enc Tryd.prog ((laidWorld os).forCall (fun _ _ => 0) ⟨#[], #[conf0, .slice none 0 0, .slice none 0 0], []⟩).memory Tryd.f7.params.toList Rows.fnBlocksSpec.vars false (#[conf0, .slice none 0 0, .slice none 0 0] : Array Value).toList 8 = some ([.agg [.lit (.int .i64 0), .lit (.int .i64 0), .lit (.int .i64 0), .lit (.int .u8 0), .lit (.int .i64 0)], .nil, .nil], [], places) :=
  ⟨[], by kernel_rfl⟩

set_option maxRecDepth 100000 in
theorem lifted (os : Os) (started : os.Started) (H : Type) (enc : TypeId × Value → H) (F : Stop.Interp) :
    ReturnsInHanded {} Tryd.checked os 7 .any ((OpenSpec.ofChange Rows.fnBlocksSpec).preRow enc Tryd.prog Tryd.f7 Rows.fnBlocksRow.domain false Rows.fnBlocksRow.laid) (((OpenSpec.ofChange Rows.fnBlocksSpec).at F).post enc Tryd.prog Tryd.f7 false true false false) := by
  obtain ⟨places, hx⟩ := reads os enc
  refine returnsInHanded_of_row (C := Tryd.checked) (s := OpenSpec.ofChange Rows.fnBlocksSpec) own started (by kernel_rfl) Tryd.func7
    (witness_row_at (enc := enc) (C := Tryd.checked) false (laidWorld os) #[conf0, .slice none 0 0, .slice none 0 0] rfl (by kernel_rfl) (by kernel_rfl) (by kernel_rfl)
      (OpenSpec.preRow_of_cond 8 hx (by kernel_rfl) (fun k hk => by cases hk) (by kernel_rfl) (laid_met os))) ?_
  intro W base args ds gs before hval hW _ _ _ hL _ _
  exact contract H enc W base args ds gs before hval hW hL

theorem said : Rows.FnBlocksSaid :=
  OpenClaim.holds_of_cond 7 Tryd.f7 rfl rfl rfl rfl rfl rfl rfl ⟨rfl, rfl, rfl, rfl, rfl⟩ rfl rfl rfl rfl rfl (by kernel_rfl) Tryd.func7 (by kernel_rfl)
    (of_decide_eq_true (by kernel_rfl)) (by unfold Func.isWrapper; first | (rw [if_pos (by decide +kernel)]; kernel_rfl) | (rw [if_neg (by decide +kernel)]; exact ⟨rfl, rfl⟩))
    (fun os started H enc _ F => by rw [OpenClaim.pre_eq_preRow]; exact lifted os started H enc F)

theorem plain (f : FuncId) (fn : Func) (hf : Tryd.pinned.checked.prog.funcNamed "loop.example/pub-tabcolumns/laws.FnBlocks" = some f) (hfn : Tryd.pinned.checked.prog.funcs[f]? = some fn) :
    true = Tryd.pinned.checked.prog.looks [] ∧ ∀ (j : Nat) t, fn.params[j]? = some t → Tryd.pinned.checked.prog.wantsStandIn t = false := by
  obtain rfl : f = 7 := Option.some.inj ((show Tryd.prog.funcNamed "loop.example/pub-tabcolumns/laws.FnBlocks" = some 7 by kernel_rfl).symm.trans hf) |>.symm
  obtain rfl : fn = Tryd.f7 := (Option.some.inj (Tryd.func7.symm.trans hfn)).symm
  refine ⟨by kernel_rfl, fun j t ht => ?_⟩
  rw [Tryd.params7] at ht
  have hm := Array.mem_of_getElem? ht
  simp at hm
  rcases hm with rfl | rfl
  · exact (show Tryd.prog.wantsStandIn 23 = false by kernel_rfl)
  · exact (show Tryd.prog.wantsStandIn 24 = false by kernel_rfl)

theorem card : Rows.FnBlocksCardSaid :=
  Claim7.holds_tied_plain_at .later [] _ _ _ _ said (fun _ h => by cases h) (by kernel_rfl) (fun _ h => by cases h) fnBlocks_row_tie rfl ⟨rfl, rfl⟩ (by kernel_rfl) rfl plain (by kernel_rfl)
end Go.Proofs.YthcjaegnnfiboaaDoor.fnBlocks

namespace Go.Proofs.YthcjaegnnfiboaaDoor
theorem fnBlocks_card : Rows.FnBlocksCardSaid := fnBlocks.card
#print axioms fnBlocks_card
end Go.Proofs.YthcjaegnnfiboaaDoor
