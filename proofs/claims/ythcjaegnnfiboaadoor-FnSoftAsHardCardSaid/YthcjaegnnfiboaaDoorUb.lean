/- 'FnSoftAsHard': vertical tabs are as good as horizontal ones where nothing is discarded, and nothing is escaped. -/
import Derived.Test.YthcjaegnnfiboaaDoorCards
import Derived.Test.YthcjaegnnfiboaaDoorTie
import Derived.Test.YthcjaegnnfiboaaDoorVe
import Derived.Test.YthcjaegnnfiboaaDoorQe
import Derived.Test.YthcjaegnnfiboaaDoorLs
import Derived.Test.YthcjaegnnfiboaaDoorVs
import Derived.Test.YthcjaegnnfiboaaDoorOrx
import Derived.WalkKit
import Derived.ProofKit
import Derived.OpenShut
import Derived.Deep.DeepHandedRow
import Derived.Deep.DeepWitnessRowRef
namespace Go.Proofs.YthcjaegnnfiboaaDoor
open Go.RowKit Go.Tw Go.Sort
set_option maxRecDepth 100000

set_option maxHeartbeats 8000000 in
theorem softAsHard_calls (w : World) (mn tb pd fl : Int) (ch : UInt8) {v : Value} {s : List UInt8} (h : Rd w v s) (hT : Lib.Utf8Tabs 0 1 w) :
    Calls Tryd.prog 13 #[.agg #[.int .i64 mn, .int .i64 tb, .int .i64 pd, .int .u8 ch.toNat, .int .i64 fl], v] w fun e w' => e = .returned (.bool true) ∧ Below w.heap.size w w' := by
  have L0 := Lib.hid (LS.start (mn := mn) (tb := tb) (pd := pd) (ch := ch) (fl := fl) h)
  have HT := Lib.hid hT
  obtain ⟨ao, cp, rfl, g1, g2⟩ := L0.out.shape
  obtain ⟨d0, d1, d2, d3, d4⟩ := L0.out.cells
  have HRR := Lib.hid h
  clear h hT
  by_cases hl : s.length ≤ 2147483647
  rotate_left
  · go_enter Tryd.func13, Tryd.ntmps13
    go_wp2_with fail
    go_ret
    exact ⟨rfl, L0.out.bel⟩
  obtain ⟨g, hg⟩ : ∃ g, g = wfl fl 8 false := ⟨_, rfl⟩
  have HWI := Lib.hid (with_calls' (w.alloc (.cells #[.int .i64 mn, .int .i64 tb, .int .i64 pd, .int .u8 ch.toNat, .int .i64 fl] 23)) mn tb pd fl ch 8 false)
  rw [← hg] at HWI
  have HG := Lib.hid hg
  clear hg
  go_enter Tryd.func13, Tryd.ntmps13
  go_wp2_with fail
  refine HWI.out.mono ?_
  rintro e w0 ⟨rfl, hbw⟩
  have hL1 := L0.out.step hbw
  have hL2 : LS w mn tb pd ch g (.slice ao s.length cp) s (((((w0.setCell ⟨w.heap.size, 0, none⟩ (.int .i64 mn)).setCell ⟨w.heap.size, 1, none⟩ (.int .i64 tb)).setCell ⟨w.heap.size, 2, none⟩ (.int .i64 pd)).setCell ⟨w.heap.size, 3, none⟩ (.int .u8 ch.toNat)).setCell ⟨w.heap.size, 4, none⟩ (.int .i64 g)) := hL1.setFl HRR.out g
  obtain ⟨c0, c1, c2, c3, c4⟩ := hL1.cells
  have f0 := frozen_of_blk hL1.conf 0
  have f1 := frozen_of_blk hL1.conf 1
  have f2 := frozen_of_blk hL1.conf 2
  have f3 := frozen_of_blk hL1.conf 3
  have f4 := frozen_of_blk hL1.conf 4
  obtain ⟨y0, y1, y2, y3, y4⟩ := hL2.cells
  have HL2 := Lib.hid hL2
  clear hL1 hL2 hbw HWI L0 d0 d1 d2 d3 d4
  go_wp2_with fail
  clear c0 c1 c2 c3 c4 f0 f1 f2 f3 f4 y0 y1 y2 y3 y4
  revert HL2
  generalize (((((w0.setCell ⟨w.heap.size, 0, none⟩ (.int .i64 mn)).setCell ⟨w.heap.size, 1, none⟩ (.int .i64 tb)).setCell ⟨w.heap.size, 2, none⟩ (.int .i64 pd)).setCell ⟨w.heap.size, 3, none⟩ (.int .u8 ch.toNat)).setCell ⟨w.heap.size, 4, none⟩ (.int .i64 g)) = wx
  intro LX
  refine (spaces_calls _ mn tb pd g ch LX.out.rd (Utf8Tabs_below HT.out LX.out.bel)).mono ?_
  rintro e w1 ⟨b, rfl, hb1, hfact⟩
  have L1 := Lib.hid (LX.out.step hb1)
  have HFA := Lib.hid hfact
  clear hb1 LX  hfact
  cases b
  · go_wp2_with fail
    go_ret
    exact ⟨rfl, L1.out.bel⟩
  obtain ⟨m, t, p, f, rfl, rfl, rfl, rfl, l1, l2, l3, l4, hs, h9, h128, h16, h32, ho⟩ := HFA.out rfl
  have H9 := Lib.hid h9
  have H128 := Lib.hid h128
  have H16 := Lib.hid h16
  have H32 := Lib.hid h32
  have HO := Lib.hid ho
  clear HFA h9 h128 h16 h32 ho
  have HTM := Lib.hid (tame_calls w1 L1.out.rd (by omega))
  obtain ⟨xt, hxt⟩ : ∃ x, x = tame s := ⟨_, rfl⟩
  rw [← hxt] at HTM
  have HXT := Lib.hid hxt
  clear hxt
  go_wp2_with fail
  refine HTM.out.mono ?_
  rintro e wt ⟨rfl, rfl⟩
  clear HTM
  cases xt
  · go_wp2_with fail
    go_ret
    exact ⟨rfl, L1.out.bel⟩
  have HTm := Lib.hid (tame_Tm HXT.out.symm)
  clear HXT
  have H8 := Lib.hid (show (cfgOf m t p f ch).flag 8 = false by rw [flag_cfg ⟨f, l4⟩ m t p ch 8 (by simp)]; exact andNot_flag fl 8 (by simp [flagsL]) ⟨f, l4⟩ (by have := HG.out; exact this.symm))
  clear HG
  obtain ⟨d0, d1, d2, d3, d4⟩ := L1.out.cells
  have HW := Lib.hid (write_one w1 m t p f l4 ch L1.out.rd (by omega) l1 l2 l3)
  go_wp2_with fail
  refine HW.out.mono ?_
  rintro e w2 ⟨v2, rfl, hr2, hb2⟩
  have L2 := Lib.hid (L1.out.step hb2)
  obtain ⟨fo, hfo⟩ : ∃ x, x = formatO (cfgOf m t p f ch) s := ⟨_, rfl⟩
  rw [← hfo] at hr2
  have HFfo := Lib.hid hfo
  clear hfo
  have HX2 := Lib.hid hr2
  obtain ⟨a2, c2, rfl, -, q2, -⟩ := hr2.val
  unfold maxLen at q2
  clear HW L1 hb2 hr2 d0 d1 d2 d3 d4
  obtain ⟨d0, d1, d2, d3, d4⟩ := L2.out.cells
  have k0 : ∀ (p' : Regrown), (grow (redrawn w2 p'.d) p'.os).cell? ⟨w.heap.size, 0, none⟩ = some (.int .i64 m) := fun p' => cell_regrown d0 p'.d p'.os
  have k1 : ∀ (p' : Regrown), (grow (redrawn w2 p'.d) p'.os).cell? ⟨w.heap.size, 1, none⟩ = some (.int .i64 t) := fun p' => cell_regrown d1 p'.d p'.os
  have k2 : ∀ (p' : Regrown), (grow (redrawn w2 p'.d) p'.os).cell? ⟨w.heap.size, 2, none⟩ = some (.int .i64 p) := fun p' => cell_regrown d2 p'.d p'.os
  have k3 : ∀ (p' : Regrown), (grow (redrawn w2 p'.d) p'.os).cell? ⟨w.heap.size, 3, none⟩ = some (.int .u8 ch.toNat) := fun p' => cell_regrown d3 p'.d p'.os
  have k4 : ∀ (p' : Regrown), (grow (redrawn w2 p'.d) p'.os).cell? ⟨w.heap.size, 4, none⟩ = some (.int .i64 f) := fun p' => cell_regrown d4 p'.d p'.os
  go_wp2_with fail
  refine wp_region_stages [([0, 1, 2], [3, 4, 5, 6, 7]), ([8, 9, 10, 11], [12, 13, 14, 15, 16])] (by kernel_rfl) (by kernel_rfl) (by kernel_rfl) (fun _ _ d _ _ h => by cases d <;> exact h) ?_
  refine ⟨(fun w' => ∃ p' : Regrown, w' = grow (redrawn w2 p'.d) p'.os), ⟨⟨w2.drawn + 1, #[]⟩, by rw [grow_empty]; rfl⟩, ?_⟩
  refine wpR_of (lr := [_, _, _]) rfl ?_
  iterate 3 (refine wpR_step rfl (fun K hK => ?_); go_simp; refine hK _ ?_; clear hK K)
  refine wpR_nil ?_
  clear k0 k1 k2 k3 k4 d0 d1 d2 d3 d4
  refine wpX_one 3 _ (by kernel_rfl) rfl rfl (fun K hK => ?_)
  go_simp
  refine (swap_calls w2.drew L2.out.drew.rd 11 9 (by omega)).mono ?_
  rintro e w3 ⟨v3, rfl, hr3, hb3⟩
  have hb13 := below_drawn hb3
  refine hK _ _ (regrown_of_below hb13) ?_
  clear hK K
  have L3 := Lib.hid (L2.out.step hb13)
  obtain ⟨sx, hsx⟩ : ∃ x, x = s.map (sw 11 9) := ⟨_, rfl⟩
  rw [← hsx] at hr3
  obtain ⟨a3, c3, rfl, -, q3, -⟩ := hr3.val
  have hsl : sx.length ≤ 3000 := by rw [hsx]; simpa using hs
  have HSX := Lib.hid hsx
  clear hsx
  refine wpX_one 4 _ (by kernel_rfl) rfl rfl (fun K hK => ?_)
  go_simp
  refine hK _ _ (regrown_of_below (hb13.alloc hb13.size _)) ?_
  clear hK K
  refine wpX_one 5 _ (by kernel_rfl) rfl rfl (fun K hK => ?_)
  go_simp
  refine (write_one w3 m t p f l4 ch hr3 (by omega) l1 l2 l3).mono ?_
  rintro e w4 ⟨v4, rfl, hr4, hb4⟩
  have hb14 := hb13.trans (hb4.mono hb13.size)
  refine hK _ _ (regrown_of_below hb14) ?_
  clear hK K
  have L4 := Lib.hid (L3.out.step hb4)
  rw [HSX.out, format_soft H8.out s HTm.out, ← HFfo.out] at hr4
  have hSm := same_calls w4 ((HX2.out.below hb13).below hb4) hr4
  rw [decide_eq_true rfl] at hSm
  refine wpX_one 6 _ (by kernel_rfl) rfl rfl (fun K hK => ?_)
  go_simp
  refine hSm.mono ?_
  rintro e w5 ⟨rfl, rfl⟩
  refine hK _ _ (regrown_of_below hb14) ?_
  clear hK K
  refine wpX_one 7 _ (by kernel_rfl) rfl rfl (fun K hK => ?_)
  go_simp
  refine hK _ _ (regrown_of_below hb14) ?_
  clear hK K
  refine wpX_end ?_
  clear hSm hb14 hb4 hb13 hb3 hr3 hr4 L2 L3 hsl
  obtain ⟨d0, d1, d2, d3, d4⟩ := L4.out.cells
  have k0 : ∀ (p' : Regrown), (grow (redrawn w4 p'.d) p'.os).cell? ⟨w.heap.size, 0, none⟩ = some (.int .i64 m) := fun p' => cell_regrown d0 p'.d p'.os
  have k1 : ∀ (p' : Regrown), (grow (redrawn w4 p'.d) p'.os).cell? ⟨w.heap.size, 1, none⟩ = some (.int .i64 t) := fun p' => cell_regrown d1 p'.d p'.os
  have k2 : ∀ (p' : Regrown), (grow (redrawn w4 p'.d) p'.os).cell? ⟨w.heap.size, 2, none⟩ = some (.int .i64 p) := fun p' => cell_regrown d2 p'.d p'.os
  have k3 : ∀ (p' : Regrown), (grow (redrawn w4 p'.d) p'.os).cell? ⟨w.heap.size, 3, none⟩ = some (.int .u8 ch.toNat) := fun p' => cell_regrown d3 p'.d p'.os
  have k4 : ∀ (p' : Regrown), (grow (redrawn w4 p'.d) p'.os).cell? ⟨w.heap.size, 4, none⟩ = some (.int .i64 f) := fun p' => cell_regrown d4 p'.d p'.os
  refine ⟨(fun w' => ∃ p' : Regrown, w' = grow (redrawn w4 p'.d) p'.os), ⟨⟨w4.drawn, #[]⟩, by rw [grow_empty]; rfl⟩, ?_⟩
  refine wpR_of (lr := [_, _, _, _]) rfl ?_
  iterate 4 (refine wpR_stepG (by kernel_rfl) (fun K hK => ?_); go_simp; refine hK _ ?_; clear hK K)
  refine wpR_nil ?_
  clear k0 k1 k2 k3 k4 d0 d1 d2 d3 d4
  refine wpX_one 12 _ (by kernel_rfl) rfl (by kernel_rfl) (fun K hK => ?_)
  go_simp
  refine (format_calls w4 m t p f l4 ch L4.out.rd hs l1 l2 l3).mono ?_
  rintro e w6 ⟨v6, rfl, hr6, hb6⟩
  rw [← HFfo.out] at hr6
  obtain ⟨a6, c6, rfl, -⟩ := hr6.val
  refine hK _ _ (regrown_of_below hb6) ?_
  clear hK K
  refine wpX_one 13 _ (by kernel_rfl) rfl (by kernel_rfl) (fun K hK => ?_)
  go_simp
  refine hK _ _ (regrown_of_below hb6) ?_
  clear hK K
  refine wpX_one 14 _ (by kernel_rfl) rfl (by kernel_rfl) (fun K hK => ?_)
  go_simp
  refine hK _ _ (regrown_of_below hb6) ?_
  clear hK K
  refine wpX_one 15 _ (by kernel_rfl) rfl (by kernel_rfl) (fun K hK => ?_)
  go_simp
  refine hK _ _ (regrown_of_below hb6) ?_
  clear hK K
  refine wpX_one 16 _ (by kernel_rfl) rfl (by kernel_rfl) (fun K hK => ?_)
  go_simp
  refine hK _ _ (regrown_of_below hb6) ?_
  clear hK K
  refine wpX_end (stg_nil ?_)
  have L6 := Lib.hid (L4.out.step hb6)
  clear hb6 hr6
  go_wp2_with fail
  go_ret
  exact ⟨rfl, L6.out.bel⟩
end Go.Proofs.YthcjaegnnfiboaaDoor

namespace Go.Proofs.YthcjaegnnfiboaaDoor.fnSoftAsHard
open Go.ChangeShapes Go.WideShapes Go.ChangeAt Go.RowKit
set_option maxRecDepth 100000

theorem own : ownKnob Tryd.prog.godebug = none := by kernel_rfl

theorem contract (H : Type) (enc : TypeId × Value → H) (W : World) (base : Nat) (args : Array Value) (ds gs : List (DataW H)) (before : List MemPlace)
    (hval : ∀ (j : Nat) t v, Tryd.f13.params[j]? = some t → args[j]? = some v → Value.okWide Tryd.prog W .any base t v)
    (hW : DataW.Whole enc Tryd.prog Tryd.f13.params.toList Rows.fnSoftAsHardSpec.vars false W args.toList ds gs before)
    (hL : laidMetH Tryd.prog Rows.fnSoftAsHardRow.laid W) :
    Calls Tryd.prog 13 args W fun e W' => ∃ v, e = .returned v ∧ Rows.fnSoftAsHardSpec.post enc Tryd.prog Tryd.f13 false true false false W args v W' := by
  have hW' := hW
  obtain ⟨p, q, hA0, hV, rfl, hfz, hnd⟩ := hW
  have hA : DataW.TrodAll enc Tryd.prog W 0 (fun _ => true) true Tryd.f13.params.toList args.toList ds p := hA0
  rw [Tryd.params13] at hA hval
  obtain ⟨v0, vs0, d0, ds0, p0, q0, hargs, rfl, rfl, h0, r0⟩ := trodAll_cons hA
  obtain ⟨v1, vs1, d1, ds1, p1, q1, rfl, rfl, rfl, h1, r1⟩ := trodAll_cons r0
  obtain ⟨rfl, rfl, rfl⟩ := trodAll_nil r1
  obtain rfl : args = #[v0, v1] := by cases args; simp_all
  obtain ⟨mn0, tb0, pd0, fl0, ch0, rfl⟩ := open_conf (hval 0 _ _ rfl rfl)
  obtain ⟨bs1, hrd1⟩ := open_rd (hval 1 _ _ rfl rfl) h1
  refine (softAsHard_calls W mn0 tb0 pd0 fl0 ch0 hrd1 (tabs_of hL)).mono fun e W' ⟨he, hb⟩ => ?_
  subst he
  refine ⟨_, rfl, law_post rfl ?_ (by kernel_rfl) ?_ hW' hb⟩
  · intro ds hds
    match ds, hds with
    | [a, b], _ => rfl
  · rw [Tryd.params13]
    intro t ht
    simp at ht
    rcases ht with rfl | rfl <;> exact of_decide_eq_true (by kernel_rfl)

theorem laid_met (os : Os) : laidMet Tryd.prog Rows.fnSoftAsHardRow.laid ((laidWorld os).forCall (fun _ _ => 0) ⟨#[], #[conf0, .slice none 0 0], []⟩).memory :=
  laidMet_of_run' 8 (by kernel_rfl) (by kernel_rfl)
theorem reads (os : Os) {H : Type} (enc : TypeId × Value → H) : ∃ places, DataW.whole enc Tryd.prog ((laidWorld os).forCall (fun _ _ => 0) ⟨#[], #[conf0, .slice none 0 0], []⟩).memory Tryd.f13.params.toList Rows.fnSoftAsHardSpec.vars false (#[conf0, .slice none 0 0] : Array Value).toList 8 = some ([.agg [.lit (.int .i64 0), .lit (.int .i64 0), .lit (.int .i64 0), .lit (.int .u8 0), .lit (.int .i64 0)], .nil], [], places) :=
  ⟨[], by kernel_rfl⟩

set_option maxRecDepth 100000 in
theorem lifted (os : Os) (started : os.Started) (H : Type) (enc : TypeId × Value → H) (F : Stop.Interp) :
    ReturnsInHanded {} Tryd.checked os 13 .any ((OpenSpec.ofChange Rows.fnSoftAsHardSpec).preRow enc Tryd.prog Tryd.f13 Rows.fnSoftAsHardRow.domain false Rows.fnSoftAsHardRow.laid) (((OpenSpec.ofChange Rows.fnSoftAsHardSpec).at F).post enc Tryd.prog Tryd.f13 false true false false) := by
  obtain ⟨places, hx⟩ := reads os enc
  refine returnsInHanded_of_row (C := Tryd.checked) (s := OpenSpec.ofChange Rows.fnSoftAsHardSpec) own started (by kernel_rfl) Tryd.func13
    (witness_row_at (enc := enc) (C := Tryd.checked) false (laidWorld os) #[conf0, .slice none 0 0] rfl (by kernel_rfl) (by kernel_rfl) (by kernel_rfl)
      (OpenSpec.preRow_of_cond 8 hx (by kernel_rfl) (fun k hk => by cases hk) (by kernel_rfl) (laid_met os))) ?_
  intro W base args ds gs before hval hW _ _ _ hL _ _
  exact contract H enc W base args ds gs before hval hW hL

theorem said : Rows.FnSoftAsHardSaid :=
  OpenClaim.holds_of_cond 13 Tryd.f13 rfl rfl rfl rfl rfl rfl rfl ⟨rfl, rfl, rfl, rfl, rfl⟩ rfl rfl rfl rfl rfl (by kernel_rfl) Tryd.func13 (by kernel_rfl)
    (of_decide_eq_true (by kernel_rfl)) (by unfold Func.isWrapper; first | (rw [if_pos (by decide +kernel)]; kernel_rfl) | (rw [if_neg (by decide +kernel)]; exact ⟨rfl, rfl⟩))
    (fun os started H enc _ F => by rw [OpenClaim.pre_eq_preRow]; exact lifted os started H enc F)

theorem plain (f : FuncId) (fn : Func) (hf : Tryd.pinned.checked.prog.funcNamed "loop.example/pub-tabcolumns/laws.FnSoftAsHard" = some f) (hfn : Tryd.pinned.checked.prog.funcs[f]? = some fn) :
    true = Tryd.pinned.checked.prog.looks [] ∧ ∀ (j : Nat) t, fn.params[j]? = some t → Tryd.pinned.checked.prog.wantsStandIn t = false := by
  obtain rfl : f = 13 := Option.some.inj ((show Tryd.prog.funcNamed "loop.example/pub-tabcolumns/laws.FnSoftAsHard" = some 13 by kernel_rfl).symm.trans hf) |>.symm
  obtain rfl : fn = Tryd.f13 := (Option.some.inj (Tryd.func13.symm.trans hfn)).symm
  refine ⟨by kernel_rfl, fun j t ht => ?_⟩
  rw [Tryd.params13] at ht
  have hm := Array.mem_of_getElem? ht
  simp at hm
  rcases hm with rfl | rfl
  · exact (show Tryd.prog.wantsStandIn 23 = false by kernel_rfl)
  · exact (show Tryd.prog.wantsStandIn 24 = false by kernel_rfl)

theorem card : Rows.FnSoftAsHardCardSaid :=
  Claim7.holds_tied_plain_at .later [] _ _ _ _ said (fun _ h => by cases h) (by kernel_rfl) (fun _ h => by cases h) fnSoftAsHard_row_tie rfl ⟨rfl, rfl⟩ (by kernel_rfl) rfl plain (by kernel_rfl)
end Go.Proofs.YthcjaegnnfiboaaDoor.fnSoftAsHard

namespace Go.Proofs.YthcjaegnnfiboaaDoor
theorem fnSoftAsHard_card : Rows.FnSoftAsHardCardSaid := fnSoftAsHard.card
#print axioms fnSoftAsHard_card
end Go.Proofs.YthcjaegnnfiboaaDoor
