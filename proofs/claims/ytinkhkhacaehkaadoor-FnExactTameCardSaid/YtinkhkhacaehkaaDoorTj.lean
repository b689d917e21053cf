/- 'FnExactTame': also one without escapes, tags and entities; no text of a cell is lost. -/
import Derived.Test.YtinkhkhacaehkaaDoorCards
import Derived.Test.YtinkhkhacaehkaaDoorTie
import Derived.Test.YtinkhkhacaehkaaDoorVe
import Derived.Test.YtinkhkhacaehkaaDoorQt
import Derived.WalkKit
import Derived.ProofKit
import Derived.OpenShut
import Derived.Deep.DeepHandedRow
import Derived.Deep.DeepWitnessRowRef
namespace Go.Proofs.YtinkhkhacaehkaaDoor
open Go.RowKit Go.Tw Go.Sort
set_option maxRecDepth 100000

set_option maxHeartbeats 4000000 in
theorem exactTame_calls (w : World) (mn tb pd fl : Int) (ch : UInt8) {v : Value} {s : List UInt8} (h : Rd w v s) (hT : Lib.Utf8Tabs 0 1 w) :
    Calls Tryd.prog 6 #[.agg #[.int .i64 mn, .int .i64 tb, .int .i64 pd, .int .u8 ch.toNat, .int .i64 fl], v] w fun e w' => e = .returned (.bool true) ∧ Below w.heap.size w w' := by
  have L0 := Lib.hid (LS.start (mn := mn) (tb := tb) (pd := pd) (ch := ch) (fl := fl) h)
  have HT := Lib.hid hT
  obtain ⟨ao, cp, rfl, g1, g2⟩ := L0.out.shape
  obtain ⟨d0, d1, d2, d3, d4⟩ := L0.out.cells
  clear h hT
  by_cases hl : s.length ≤ 2147483647
  rotate_left
  · go_enter Tryd.func6, Tryd.ntmps6
    go_wp2_with fail
    go_ret
    exact ⟨rfl, L0.out.bel⟩
  go_enter Tryd.func6, Tryd.ntmps6
  go_wp2_with fail
  refine (spaces_calls _ mn tb pd fl ch L0.out.rd (Utf8Tabs_below HT.out L0.out.bel)).mono ?_
  rintro e w1 ⟨b, rfl, hb1, hfact⟩
  have L1 := Lib.hid (L0.out.step hb1)
  have HFA := Lib.hid hfact
  clear hb1 L0 d0 d1 d2 d3 d4 hfact
  cases b
  · go_wp2_with fail
    go_ret
    exact ⟨rfl, L1.out.bel⟩
  obtain ⟨m, t, p, f, rfl, rfl, rfl, rfl, l1, l2, l3, l4, hs, -, -, -, h32, -⟩ := HFA.out rfl
  have H32 := Lib.hid h32
  have HTM := Lib.hid (tame_calls w1 L1.out.rd (by omega))
  obtain ⟨xt, hxt⟩ : ∃ x, x = tame s := ⟨_, rfl⟩
  rw [← hxt] at HTM
  clear HFA hxt h32
  go_wp2_with fail
  refine HTM.out.mono ?_
  rintro e w2 ⟨rfl, rfl⟩
  clear HTM
  cases xt
  · go_wp2_with fail
    go_ret
    exact ⟨rfl, L1.out.bel⟩
  obtain ⟨d0, d1, d2, d3, d4⟩ := L1.out.cells
  have HW := Lib.hid (write_one w1 m t p f l4 ch L1.out.rd (by omega) l1 l2 l3)
  go_wp2_with fail
  refine HW.out.mono ?_
  rintro e w3 ⟨v3, rfl, hr3, hb3⟩
  have L3 := Lib.hid (L1.out.step hb3)
  obtain ⟨fo, hfo⟩ : ∃ fo, fo = formatO (cfgOf m t p f ch) s := ⟨_, rfl⟩
  rw [← hfo] at hr3
  have HFO := Lib.hid hfo
  have HR3 := Lib.hid hr3
  obtain ⟨a3, c3, rfl, -, q3, -⟩ := hr3.val
  unfold maxLen at q3
  clear HW L1 hb3 hfo hr3 d0 d1 d2 d3 d4
  obtain ⟨d0, d1, d2, d3, d4⟩ := L3.out.cells
  go_wp2_with fail
  refine (format_calls w3 m t p f l4 ch L3.out.rd hs l1 l2 l3).mono ?_
  rintro e w4 ⟨v4, rfl, hr4, hb4⟩
  rw [← HFO.out] at hr4
  have L4 := Lib.hid (L3.out.step hb4)
  have hSm := same_calls w4 (HR3.out.below hb4) hr4
  rw [decide_eq_true rfl] at hSm
  have HSM := Lib.hid hSm
  clear hb4 hr4 hSm L3 d0 d1 d2 d3 d4
  go_wp2_with fail
  refine HSM.out.mono ?_
  rintro e w5 ⟨rfl, rfl⟩
  clear HSM
  obtain ⟨d0, d1, d2, d3, d4⟩ := L4.out.cells
  go_wp2_with fail
  refine (bare_calls w4 m t p f l4 ch L4.out.rd (by omega)).mono ?_
  rintro e w6 ⟨v6, rfl, hr6, hb6⟩
  have L6 := Lib.hid (L4.out.step hb6)
  have hle := format_longer H32.out s
  rw [← HFO.out] at hle
  obtain ⟨bo, hbo⟩ : ∃ bo, bo = bareO (cellsGo (cfgOf m t p f ch) ⟨[], 0, 0⟩ [] s) := ⟨_, rfl⟩
  rw [← hbo] at hr6 hle
  obtain ⟨a6, c6, rfl, -⟩ := hr6.val
  clear hb6 hr6 hbo d0 d1 d2 d3 d4
  go_wp2_with fail
  go_ret
  exact ⟨rfl, L6.out.bel⟩
end Go.Proofs.YtinkhkhacaehkaaDoor

namespace Go.Proofs.YtinkhkhacaehkaaDoor.fnExactTame
open Go.ChangeShapes Go.WideShapes Go.ChangeAt Go.RowKit
set_option maxRecDepth 100000

theorem own : ownKnob Tryd.prog.godebug = none := by kernel_rfl

theorem contract (H : Type) (enc : TypeId × Value → H) (W : World) (base : Nat) (args : Array Value) (ds gs : List (DataW H)) (before : List MemPlace)
    (hval : ∀ (j : Nat) t v, Tryd.f6.params[j]? = some t → args[j]? = some v → Value.okWide Tryd.prog W .any base t v)
    (hW : DataW.Whole enc Tryd.prog Tryd.f6.params.toList Rows.fnExactTameSpec.vars false W args.toList ds gs before)
    (hL : laidMetH Tryd.prog Rows.fnExactTameRow.laid W) :
    Calls Tryd.prog 6 args W fun e W' => ∃ v, e = .returned v ∧ Rows.fnExactTameSpec.post enc Tryd.prog Tryd.f6 false true false false W args v W' := by
  have hW' := hW
  obtain ⟨p, q, hA0, hV, rfl, hfz, hnd⟩ := hW
  have hA : DataW.TrodAll enc Tryd.prog W 0 (fun _ => true) true Tryd.f6.params.toList args.toList ds p := hA0
  rw [Tryd.params6] at hA hval
  obtain ⟨v0, vs0, d0, ds0, p0, q0, hargs, rfl, rfl, h0, r0⟩ := trodAll_cons hA
  obtain ⟨v1, vs1, d1, ds1, p1, q1, rfl, rfl, rfl, h1, r1⟩ := trodAll_cons r0
  obtain ⟨rfl, rfl, rfl⟩ := trodAll_nil r1
  obtain rfl : args = #[v0, v1] := by cases args; simp_all
  obtain ⟨mn0, tb0, pd0, fl0, ch0, rfl⟩ := open_conf (hval 0 _ _ rfl rfl)
  obtain ⟨bs1, hrd1⟩ := open_rd (hval 1 _ _ rfl rfl) h1
  refine (exactTame_calls W mn0 tb0 pd0 fl0 ch0 hrd1 (tabs_of hL)).mono fun e W' ⟨he, hb⟩ => ?_
  subst he
  refine ⟨_, rfl, law_post rfl ?_ (by kernel_rfl) ?_ hW' hb⟩
  · intro ds hds
    match ds, hds with
    | [a, b], _ => rfl
  · rw [Tryd.params6]
    intro t ht
    simp at ht
    rcases ht with rfl | rfl <;> exact of_decide_eq_true (by kernel_rfl)

theorem laid_met (os : Os) : laidMet Tryd.prog Rows.fnExactTameRow.laid ((laidWorld os).forCall (fun _ _ => 0) ⟨#[], #[conf0, .slice none 0 0], []⟩).memory :=
  laidMet_of_run' 8 (by kernel_rfl) (by kernel_rfl)
theorem reads (os : Os) {H : Type} (enc : TypeId × Value → H) : ∃ places, DataW.whole enc Tryd.prog ((laidWorld os).forCall (fun _ _ => 0) ⟨#[], #[conf0, .slice none 0 0], []⟩).memory Tryd.f6.params.toList Rows.fnExactTameSpec.vars false (#[conf0, .slice none 0 0] : Array Value).toList 8 = some ([.agg [.lit (.int .i64 0), .lit (.int .i64 0), .lit (.int .i64 0), .lit (.int .u8 0), .lit (.int .i64 0)], .nil], [], places) :=
  ⟨[], by kernel_rfl⟩

set_option maxRecDepth 100000 in
theorem lifted (os : Os) (started : os.Started) (H : Type) (enc : TypeId × Value → H) (F : Stop.Interp) :
    ReturnsInHanded {} Tryd.checked os 6 .any ((OpenSpec.ofChange Rows.fnExactTameSpec).preRow enc Tryd.prog Tryd.f6 Rows.fnExactTameRow.domain false Rows.fnExactTameRow.laid) (((OpenSpec.ofChange Rows.fnExactTameSpec).at F).post enc Tryd.prog Tryd.f6 false true false false) := by
  obtain ⟨places, hx⟩ := reads os enc
  refine returnsInHanded_of_row (C := Tryd.checked) (s := OpenSpec.ofChange Rows.fnExactTameSpec) own started (by kernel_rfl) Tryd.func6
    (witness_row_at (enc := enc) (C := Tryd.checked) false (laidWorld os) #[conf0, .slice none 0 0] rfl (by kernel_rfl) (by kernel_rfl) (by kernel_rfl)
      (OpenSpec.preRow_of_cond 8 hx (by kernel_rfl) (fun k hk => by cases hk) (by kernel_rfl) (laid_met os))) ?_
  intro W base args ds gs before hval hW _ _ _ hL _ _
  exact contract H enc W base args ds gs before hval hW hL

theorem said : Rows.FnExactTameSaid :=
  OpenClaim.holds_of_cond 6 Tryd.f6 rfl rfl rfl rfl rfl rfl rfl ⟨rfl, rfl, rfl, rfl, rfl⟩ rfl rfl rfl rfl rfl (by kernel_rfl) Tryd.func6 (by kernel_rfl)
    (of_decide_eq_true (by kernel_rfl)) (by unfold Func.isWrapper; first | (rw [if_pos (by decide +kernel)]; kernel_rfl) | (rw [if_neg (by decide +kernel)]; exact ⟨rfl, rfl⟩))
    (fun os started H enc _ F => by rw [OpenClaim.pre_eq_preRow]; exact lifted os started H enc F)

theorem plain (f : FuncId) (fn : Func) (hf : Tryd.pinned.checked.prog.funcNamed "loop.example/pub-tabcolumns/laws.FnExactTame" = some f) (hfn : Tryd.pinned.checked.prog.funcs[f]? = some fn) :
    true = Tryd.pinned.checked.prog.looks [] ∧ ∀ (j : Nat) t, fn.params[j]? = some t → Tryd.pinned.checked.prog.wantsStandIn t = false := by
  obtain rfl : f = 6 := Option.some.inj ((show Tryd.prog.funcNamed "loop.example/pub-tabcolumns/laws.FnExactTame" = some 6 by kernel_rfl).symm.trans hf) |>.symm
  obtain rfl : fn = Tryd.f6 := (Option.some.inj (Tryd.func6.symm.trans hfn)).symm
  refine ⟨by kernel_rfl, fun j t ht => ?_⟩
  rw [Tryd.params6] at ht
  have hm := Array.mem_of_getElem? ht
  simp at hm
  rcases hm with rfl | rfl
  · exact (show Tryd.prog.wantsStandIn 23 = false by kernel_rfl)
  · exact (show Tryd.prog.wantsStandIn 24 = false by kernel_rfl)

theorem card : Rows.FnExactTameCardSaid :=
  Claim7.holds_tied_plain_at .later [] _ _ _ _ said (fun _ h => by cases h) (by kernel_rfl) (fun _ h => by cases h) fnExactTame_row_tie rfl ⟨rfl, rfl⟩ (by kernel_rfl) rfl plain (by kernel_rfl)
end Go.Proofs.YtinkhkhacaehkaaDoor.fnExactTame

namespace Go.Proofs.YtinkhkhacaehkaaDoor
theorem fnExactTame_card : Rows.FnExactTameCardSaid := fnExactTame.card
#print axioms fnExactTame_card
end Go.Proofs.YtinkhkhacaehkaaDoor
