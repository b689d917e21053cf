/- 'FnTabsLost': with tabs as padding, without them the text of all cells is there. -/
import Derived.Test.YtinkhkhacaehkaaDoorCards
import Derived.Test.YtinkhkhacaehkaaDoorTie
import Derived.Test.YtinkhkhacaehkaaDoorVe
import Derived.Test.YtinkhkhacaehkaaDoorQt
import Derived.Test.YtinkhkhacaehkaaDoorQf
import Derived.WalkKit
import Derived.ProofKit
import Derived.OpenShut
import Derived.Deep.DeepHandedRow
import Derived.Deep.DeepWitnessRowRef
namespace Go.Proofs.YtinkhkhacaehkaaDoor
open Go.RowKit Go.Tw Go.Sort
set_option maxRecDepth 100000

set_option maxHeartbeats 4000000 in
theorem tabsLost_calls (w : World) (mn tb pd fl : Int) (ch : UInt8) {v : Value} {s : List UInt8} (h : Rd w v s) (hT : Lib.Utf8Tabs 0 1 w) :
    Calls Tryd.prog 14 #[.agg #[.int .i64 mn, .int .i64 tb, .int .i64 pd, .int .u8 ch.toNat, .int .i64 fl], v] w fun e w' => e = .returned (.bool true) ∧ Below w.heap.size w w' := by
  have L0 := Lib.hid (LS.start (mn := mn) (tb := tb) (pd := pd) (ch := ch) (fl := fl) h)
  have HT := Lib.hid hT
  obtain ⟨ao, cp, rfl, g1, g2⟩ := L0.out.shape
  obtain ⟨d0, d1, d2, d3, d4⟩ := L0.out.cells
  have HRR := Lib.hid h
  clear h hT
  by_cases hl : s.length ≤ 2147483647
  rotate_left
  · go_enter Tryd.func14, Tryd.ntmps14
    go_wp2_with fail
    go_ret
    exact ⟨rfl, L0.out.bel⟩
  obtain ⟨g, hg⟩ : ∃ g, g = wfl fl 32 false := ⟨_, rfl⟩
  have HWI := Lib.hid (with_calls' (w.alloc (.cells #[.int .i64 mn, .int .i64 tb, .int .i64 pd, .int .u8 ch.toNat, .int .i64 fl] 23)) mn tb pd fl ch 32 false)
  rw [← hg] at HWI
  have HG := Lib.hid (show bits BinOp.andNot IntKind.i64 fl 32 = g by rw [hg]; rfl)
  clear hg
  go_enter Tryd.func14, Tryd.ntmps14
  go_wp2_with fail
  refine HWI.out.mono ?_
  rintro e w0 ⟨rfl, hbw⟩
  have hL1 := L0.out.step hbw
  have hL2 : LS w mn tb pd ch g (.slice ao s.length cp) s (((((w0.setCell ⟨w.heap.size, 0, none⟩ (.int .i64 mn)).setCell ⟨w.heap.size, 1, none⟩ (.int .i64 tb)).setCell ⟨w.heap.size, 2, none⟩ (.int .i64 pd)).setCell ⟨w.heap.size, 3, none⟩ (.int .u8 ch.toNat)).setCell ⟨w.heap.size, 4, none⟩ (.int .i64 g)) := hL1.setFl HRR.out g
  have hL3 : LS w mn tb pd 9 g (.slice ao s.length cp) s ((((((w0.setCell ⟨w.heap.size, 0, none⟩ (.int .i64 mn)).setCell ⟨w.heap.size, 1, none⟩ (.int .i64 tb)).setCell ⟨w.heap.size, 2, none⟩ (.int .i64 pd)).setCell ⟨w.heap.size, 3, none⟩ (.int .u8 ch.toNat)).setCell ⟨w.heap.size, 4, none⟩ (.int .i64 g)).setCell ⟨w.heap.size, 3, none⟩ (.int .u8 9)) := hL2.setCh HRR.out 9
  obtain ⟨c0, c1, c2, c3, c4⟩ := hL1.cells
  have f0 := frozen_of_blk hL1.conf 0
  have f1 := frozen_of_blk hL1.conf 1
  have f2 := frozen_of_blk hL1.conf 2
  have f3 := frozen_of_blk hL1.conf 3
  have f4 := frozen_of_blk hL1.conf 4
  have g3 := frozen_of_blk hL2.conf 3
  have k5 := hL2.cells.2.2.2.1
  obtain ⟨y0, y1, y2, y3, y4⟩ := hL3.cells
  have y3b : (((((((w0.setCell ⟨w.heap.size, 0, none⟩ (.int .i64 mn)).setCell ⟨w.heap.size, 1, none⟩ (.int .i64 tb)).setCell ⟨w.heap.size, 2, none⟩ (.int .i64 pd)).setCell ⟨w.heap.size, 3, none⟩ (.int .u8 ch.toNat)).setCell ⟨w.heap.size, 4, none⟩ (.int .i64 g)).setCell ⟨w.heap.size, 3, none⟩ (.int .u8 9)) : World).cell? ⟨w.heap.size, 3, none⟩ = some (.int .u8 9) := y3
  have HL3 := Lib.hid hL3
  clear hL1 hL2 hL3 hbw HWI L0 d0 d1 d2 d3 d4 y3
  go_wp2_with fail
  clear c0 c1 c2 c3 c4 f0 f1 f2 f3 f4 g3 k5 y0 y1 y2 y3b y4
  revert HL3
  generalize ((((((w0.setCell ⟨w.heap.size, 0, none⟩ (.int .i64 mn)).setCell ⟨w.heap.size, 1, none⟩ (.int .i64 tb)).setCell ⟨w.heap.size, 2, none⟩ (.int .i64 pd)).setCell ⟨w.heap.size, 3, none⟩ (.int .u8 ch.toNat)).setCell ⟨w.heap.size, 4, none⟩ (.int .i64 g)).setCell ⟨w.heap.size, 3, none⟩ (.int .u8 9)) = wx
  intro LX
  have hV : Calls Tryd.prog 28 #[.agg #[.int .i64 mn, .int .i64 tb, .int .i64 pd, .int .u8 9, .int .i64 g]] wx fun e w' => e = .returned (.bool (decide (Vld mn tb pd g))) ∧ Below wx.heap.size wx w' := valid_calls wx mn tb pd g 9
  by_cases hv : Vld mn tb pd g
  rotate_left
  · rw [decide_eq_false hv] at hV
    clear hv
    refine hV.mono ?_
    rintro e w4 ⟨rfl, hb4⟩
    have L4 := Lib.hid (LX.out.step hb4)
    clear hb4
    go_wp2_with fail
    go_ret
    exact ⟨rfl, L4.out.bel⟩
  rw [decide_eq_true hv] at hV
  obtain ⟨m, t, p, f, rfl, rfl, rfl, rfl, l1, l2, l3, l4⟩ := vld_nat hv
  have H32 := Lib.hid (show (cfgOf m t p f 9).flag 32 = false by rw [flag_cfg ⟨f, l4⟩ m t p 9 32 (by simp)]; exact andNot_flag fl 32 (by simp [flagsL]) ⟨f, l4⟩ HG.out)
  refine hV.mono ?_
  rintro e w4 ⟨rfl, hb4⟩
  have L4 := Lib.hid (LX.out.step hb4)
  clear hb4 hV LX hv
  have hS := small_calls w4 L4.out.rd
  by_cases hs : s.length ≤ 3000
  rotate_left
  · rw [decide_eq_false hs] at hS
    have HS := Lib.hid hS
    clear hS hs
    go_wp2_with fail
    refine HS.out.mono ?_
    rintro e w5 ⟨rfl, rfl⟩
    go_wp2_with fail
    go_ret
    exact ⟨rfl, L4.out.bel⟩
  rw [decide_eq_true hs] at hS
  have HS := Lib.hid hS
  clear hS
  obtain ⟨d0, d1, d2, d3', d4⟩ := L4.out.cells
  have d3 : w4.cell? ⟨w.heap.size, 3, none⟩ = some (.int .u8 9) := d3'
  clear d3'
  go_wp2_with fail
  refine HS.out.mono ?_
  rintro e w5 ⟨rfl, rfl⟩
  have HW := Lib.hid (show Calls Tryd.prog 30 #[.agg #[.int .i64 m, .int .i64 t, .int .i64 p, .int .u8 9, .int .i64 f], .slice ao s.length cp] w4 (VPost w4) from whole_calls w4 m t p f l4 9 L4.out.rd (Utf8Tabs_below HT.out L4.out.bel) (by omega))
  go_wp2_with fail
  refine HW.out.mono ?_
  rintro e w1 ⟨⟨xw, rfl⟩, hb6⟩
  have L1 := Lib.hid (L4.out.step hb6)
  clear hb6 L4 HW HS d0 d1 d2 d3 d4
  cases xw
  · go_wp2_with fail
    go_ret
    exact ⟨rfl, L1.out.bel⟩
  obtain ⟨d0, d1, d2, d3', d4⟩ := L1.out.cells
  have d3 : w1.cell? ⟨w.heap.size, 3, none⟩ = some (.int .u8 9) := d3'
  clear d3'
  have k0 : ∀ (p' : Regrown), (grow (redrawn w1 p'.d) p'.os).cell? ⟨w.heap.size, 0, none⟩ = some (.int .i64 m) := fun p' => cell_regrown d0 p'.d p'.os
  have k1 : ∀ (p' : Regrown), (grow (redrawn w1 p'.d) p'.os).cell? ⟨w.heap.size, 1, none⟩ = some (.int .i64 t) := fun p' => cell_regrown d1 p'.d p'.os
  have k2 : ∀ (p' : Regrown), (grow (redrawn w1 p'.d) p'.os).cell? ⟨w.heap.size, 2, none⟩ = some (.int .i64 p) := fun p' => cell_regrown d2 p'.d p'.os
  have k3 : ∀ (p' : Regrown), (grow (redrawn w1 p'.d) p'.os).cell? ⟨w.heap.size, 3, none⟩ = some (.int .u8 9) := fun p' => cell_regrown d3 p'.d p'.os
  have k4 : ∀ (p' : Regrown), (grow (redrawn w1 p'.d) p'.os).cell? ⟨w.heap.size, 4, none⟩ = some (.int .i64 f) := fun p' => cell_regrown d4 p'.d p'.os
  go_wp2_with fail
  refine wp_region_rf (fun w' => ∃ p' : Regrown, w' = grow (redrawn w1 p'.d) p'.os) [0, 1, 5, 6] [2, 3, 4, 7, 8, 9, 10] 6 [_, _, _, _] [_, _, _, _, _, _, _] (by kernel_rfl) (by kernel_rfl) rfl rfl (fun _ _ d _ _ h => by cases d <;> exact h) ⟨⟨w1.drawn + 1, #[]⟩, by rw [grow_empty]; rfl⟩ ?_
  iterate 4 (refine wpR_step rfl (fun K hK => ?_); go_simp; refine hK _ ?_; clear hK K)
  refine wpR_nil ?_
  clear k0 k1 k2 k3 k4 d0 d1 d2 d3 d4
  have L2 := Lib.hid L1.out.drew
  refine wpE_step rfl (fun K hK => ?_)
  go_simp
  refine hK _ _ (regrown_of_below (below_drawn ((Below.refl _ w1.drew).alloc (Nat.le_refl _) _))) ?_
  clear hK K
  refine wpE_step rfl (fun K hK => ?_)
  go_simp
  refine (write_one w1.drew m t p f l4 9 L2.out.rd (by omega) l1 l2 l3).mono ?_
  rintro e w6 ⟨v6, rfl, hr6, hb6⟩
  have hb16 := below_drawn hb6
  refine hK _ _ (regrown_of_below hb16) ?_
  clear hK K
  have L6 := Lib.hid (L1.out.step hb16)
  have hbo := format_bound m t p f 9 l1 l2 l3 s hs
  refine wpE_step rfl (fun K hK => ?_)
  go_simp
  refine (without_calls w6 hr6 9 (by omega)).mono ?_
  rintro e w7 ⟨v7, rfl, hr7, hb7⟩
  have hb17 := hb16.trans (hb7.mono hb16.size)
  refine hK _ _ (regrown_of_below hb17) ?_
  clear hK K
  have L7 := Lib.hid (L6.out.step hb7)
  refine wpE_step rfl (fun K hK => ?_)
  go_simp
  refine (bare_calls w7 m t p f l4 9 L7.out.rd (by omega)).mono ?_
  rintro e w8 ⟨v8, rfl, hr8, hb8⟩
  have hb18 := hb17.trans (hb8.mono hb17.size)
  refine hK _ _ (regrown_of_below hb18) ?_
  clear hK K
  have hbb := bare_bound (cfgOf m t p f 9) s hs
  refine wpE_step rfl (fun K hK => ?_)
  go_simp
  refine (without_calls w8 hr8 9 (by omega)).mono ?_
  rintro e w9 ⟨v9, rfl, hr9, hb9⟩
  have hb19 := hb18.trans (hb9.mono hb18.size)
  refine hK _ _ (regrown_of_below hb19) ?_
  clear hK K
  have he : (formatO (cfgOf m t p f 9) s).filter (· != 9) = (bareO (cellsGo (cfgOf m t p f 9) ⟨[], 0, 0⟩ [] s)).filter (· != 9) := format_tabs rfl H32.out s
  have hSm := same_calls w9 ((hr7.below hb8).below hb9) hr9
  rw [decide_eq_true he] at hSm
  refine wpE_step rfl (fun K hK => ?_)
  go_simp
  refine hSm.mono ?_
  rintro e w10 ⟨rfl, rfl⟩
  refine hK _ _ (regrown_of_below hb19) ?_
  clear hK K
  refine wpE_zero ?_
  have L9 := Lib.hid ((L7.out.step hb8).step hb9)
  clear hb19 hb18 hb17 hb16 hSm hr6 hr7 hr8 hr9 hb6 hb7 hb8 hb9 he hbo hbb
  go_wp2_with fail
  go_ret
  exact ⟨rfl, L9.out.bel⟩
end Go.Proofs.YtinkhkhacaehkaaDoor

namespace Go.Proofs.YtinkhkhacaehkaaDoor.fnTabsLost
open Go.ChangeShapes Go.WideShapes Go.ChangeAt Go.RowKit
set_option maxRecDepth 100000

theorem own : ownKnob Tryd.prog.godebug = none := by kernel_rfl

theorem contract (H : Type) (enc : TypeId × Value → H) (W : World) (base : Nat) (args : Array Value) (ds gs : List (DataW H)) (before : List MemPlace)
    (hval : ∀ (j : Nat) t v, Tryd.f14.params[j]? = some t → args[j]? = some v → Value.okWide Tryd.prog W .any base t v)
    (hW : DataW.Whole enc Tryd.prog Tryd.f14.params.toList Rows.fnTabsLostSpec.vars false W args.toList ds gs before)
    (hL : laidMetH Tryd.prog Rows.fnTabsLostRow.laid W) :
    Calls Tryd.prog 14 args W fun e W' => ∃ v, e = .returned v ∧ Rows.fnTabsLostSpec.post enc Tryd.prog Tryd.f14 false true false false W args v W' := by
  have hW' := hW
  obtain ⟨p, q, hA0, hV, rfl, hfz, hnd⟩ := hW
  have hA : DataW.TrodAll enc Tryd.prog W 0 (fun _ => true) true Tryd.f14.params.toList args.toList ds p := hA0
  rw [Tryd.params14] at hA hval
  obtain ⟨v0, vs0, d0, ds0, p0, q0, hargs, rfl, rfl, h0, r0⟩ := trodAll_cons hA
  obtain ⟨v1, vs1, d1, ds1, p1, q1, rfl, rfl, rfl, h1, r1⟩ := trodAll_cons r0
  obtain ⟨rfl, rfl, rfl⟩ := trodAll_nil r1
  obtain rfl : args = #[v0, v1] := by cases args; simp_all
  obtain ⟨mn0, tb0, pd0, fl0, ch0, rfl⟩ := open_conf (hval 0 _ _ rfl rfl)
  obtain ⟨bs1, hrd1⟩ := open_rd (hval 1 _ _ rfl rfl) h1
  refine (tabsLost_calls W mn0 tb0 pd0 fl0 ch0 hrd1 (tabs_of hL)).mono fun e W' ⟨he, hb⟩ => ?_
  subst he
  refine ⟨_, rfl, law_post rfl ?_ (by kernel_rfl) ?_ hW' hb⟩
  · intro ds hds
    match ds, hds with
    | [a, b], _ => rfl
  · rw [Tryd.params14]
    intro t ht
    simp at ht
    rcases ht with rfl | rfl <;> exact of_decide_eq_true (by kernel_rfl)

theorem laid_met (os : Os) : laidMet Tryd.prog Rows.fnTabsLostRow.laid ((laidWorld os).forCall (fun _ _ => 0) ⟨#[], #[conf0, .slice none 0 0], []⟩).memory :=
  laidMet_of_run' 8 (by kernel_rfl) (by kernel_rfl)
theorem reads (os : Os) {H : Type} (enc : TypeId × Value → H) : ∃ places, DataW.whole enc Tryd.prog ((laidWorld os).forCall (fun _ _ => 0) ⟨#[], #[conf0, .slice none 0 0], []⟩).memory Tryd.f14.params.toList Rows.fnTabsLostSpec.vars false (#[conf0, .slice none 0 0] : Array Value).toList 8 = some ([.agg [.lit (.int .i64 0), .lit (.int .i64 0), .lit (.int .i64 0), .lit (.int .u8 0), .lit (.int .i64 0)], .nil], [], places) :=
  ⟨[], by kernel_rfl⟩

set_option maxRecDepth 100000 in
theorem lifted (os : Os) (started : os.Started) (H : Type) (enc : TypeId × Value → H) (F : Stop.Interp) :
    ReturnsInHanded {} Tryd.checked os 14 .any ((OpenSpec.ofChange Rows.fnTabsLostSpec).preRow enc Tryd.prog Tryd.f14 Rows.fnTabsLostRow.domain false Rows.fnTabsLostRow.laid) (((OpenSpec.ofChange Rows.fnTabsLostSpec).at F).post enc Tryd.prog Tryd.f14 false true false false) := by
  obtain ⟨places, hx⟩ := reads os enc
  refine returnsInHanded_of_row (C := Tryd.checked) (s := OpenSpec.ofChange Rows.fnTabsLostSpec) own started (by kernel_rfl) Tryd.func14
    (witness_row_at (enc := enc) (C := Tryd.checked) false (laidWorld os) #[conf0, .slice none 0 0] rfl (by kernel_rfl) (by kernel_rfl) (by kernel_rfl)
      (OpenSpec.preRow_of_cond 8 hx (by kernel_rfl) (fun k hk => by cases hk) (by kernel_rfl) (laid_met os))) ?_
  intro W base args ds gs before hval hW _ _ _ hL _ _
  exact contract H enc W base args ds gs before hval hW hL

theorem said : Rows.FnTabsLostSaid :=
  OpenClaim.holds_of_cond 14 Tryd.f14 rfl rfl rfl rfl rfl rfl rfl ⟨rfl, rfl, rfl, rfl, rfl⟩ rfl rfl rfl rfl rfl (by kernel_rfl) Tryd.func14 (by kernel_rfl)
    (of_decide_eq_true (by kernel_rfl)) (by unfold Func.isWrapper; first | (rw [if_pos (by decide +kernel)]; kernel_rfl) | (rw [if_neg (by decide +kernel)]; exact ⟨rfl, rfl⟩))
    (fun os started H enc _ F => by rw [OpenClaim.pre_eq_preRow]; exact lifted os started H enc F)

theorem plain (f : FuncId) (fn : Func) (hf : Tryd.pinned.checked.prog.funcNamed "loop.example/pub-tabcolumns/laws.FnTabsLost" = some f) (hfn : Tryd.pinned.checked.prog.funcs[f]? = some fn) :
    true = Tryd.pinned.checked.prog.looks [] ∧ ∀ (j : Nat) t, fn.params[j]? = some t → Tryd.pinned.checked.prog.wantsStandIn t = false := by
  obtain rfl : f = 14 := Option.some.inj ((show Tryd.prog.funcNamed "loop.example/pub-tabcolumns/laws.FnTabsLost" = some 14 by kernel_rfl).symm.trans hf) |>.symm
  obtain rfl : fn = Tryd.f14 := (Option.some.inj (Tryd.func14.symm.trans hfn)).symm
  refine ⟨by kernel_rfl, fun j t ht => ?_⟩
  rw [Tryd.params14] at ht
  have hm := Array.mem_of_getElem? ht
  simp at hm
  rcases hm with rfl | rfl
  · exact (show Tryd.prog.wantsStandIn 23 = false by kernel_rfl)
  · exact (show Tryd.prog.wantsStandIn 24 = false by kernel_rfl)

theorem card : Rows.FnTabsLostCardSaid :=
  Claim7.holds_tied_plain_at .later [] _ _ _ _ said (fun _ h => by cases h) (by kernel_rfl) (fun _ h => by cases h) fnTabsLost_row_tie rfl ⟨rfl, rfl⟩ (by kernel_rfl) rfl plain (by kernel_rfl)
end Go.Proofs.YtinkhkhacaehkaaDoor.fnTabsLost

namespace Go.Proofs.YtinkhkhacaehkaaDoor
theorem fnTabsLost_card : Rows.FnTabsLostCardSaid := fnTabsLost.card
#print axioms fnTabsLost_card
end Go.Proofs.YtinkhkhacaehkaaDoor
