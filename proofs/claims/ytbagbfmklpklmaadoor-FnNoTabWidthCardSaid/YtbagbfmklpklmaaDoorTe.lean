/- 'FnNoTabWidth': with tabs as padding that have no width nothing is padded. -/
import Derived.Test.YtbagbfmklpklmaaDoorCards
import Derived.Test.YtbagbfmklpklmaaDoorTie
import Derived.Test.YtbagbfmklpklmaaDoorPg
import Derived.Test.YtbagbfmklpklmaaDoorLb
import Derived.Test.YtbagbfmklpklmaaDoorQb
import Derived.WalkKit
import Derived.ProofKit
import Derived.OpenShut
import Derived.Deep.DeepHandedRow
import Derived.Deep.DeepWitnessRowRef
namespace Go.Proofs.YtbagbfmklpklmaaDoor
open Go.RowKit Go.Tw Go.Sort
set_option maxRecDepth 100000


theorem below_drewE {w w' : World} {B : Nat} (h : Below B w.drew w') : Below B w w' := ⟨h.os, h.tape, h.output, h.size, h.block⟩

theorem andNot32_flag (x : Int) (f : Fin 64) (h : bits BinOp.andNot IntKind.i64 x 32 = (f.val : Int)) : (bits BinOp.and IntKind.i64 ((f.val : Nat) : Int) 32 != 0) = false := by
  have e : bits BinOp.andNot IntKind.i64 x 32 = IntKind.i64.wrap ((BitVec.ofInt 64 x &&& ~~~ BitVec.ofInt 64 32).toNat : Int) := rfl
  have hb : ((BitVec.ofInt 64 x &&& ~~~ BitVec.ofInt 64 32).toNat).testBit 5 = false := by
    rw [BitVec.testBit_toNat, BitVec.getLsbD_and, BitVec.getLsbD_not]
    have : (BitVec.ofInt 64 32).getLsbD 5 = true := by decide
    simp [this]
  have hn := (BitVec.ofInt 64 x &&& ~~~ BitVec.ofInt 64 32).isLt
  rw [e, wrap64_eq] at h
  generalize (BitVec.ofInt 64 x &&& ~~~ BitVec.ofInt 64 32).toNat = n at *
  have hf := f.isLt
  have hv : n = f.val := by split at h <;> omega
  rw [hv] at hb
  clear h hv hn e
  revert f
  decide

set_option maxHeartbeats 2000000 in
theorem noTabWidth_calls (w : World) (mn tb pd fl : Int) (ch : UInt8) {v : Value} {bs : List UInt8} (h : Rd w v bs) :
    Calls Tryd.prog 8 #[.agg #[.int .i64 mn, .int .i64 tb, .int .i64 pd, .int .u8 ch.toNat, .int .i64 fl], v] w fun e w' => e = .returned (.bool true) ∧ Below w.heap.size w w' := by
  have hb0 : Below w.heap.size w (w.alloc (.cells #[.int .i64 mn, .int .i64 tb, .int .i64 pd, .int .u8 ch.toNat, .int .i64 fl] 23)) := (Below.refl _ w).alloc (Nat.le_refl _) _
  have HB0 := Lib.hid hb0
  have hr0 := h.below hb0
  have HRD := Lib.hid hr0
  have hc0 : (w.alloc (.cells #[.int .i64 mn, .int .i64 tb, .int .i64 pd, .int .u8 ch.toNat, .int .i64 fl] 23)).heap[w.heap.size]? = some (.cells #[.int .i64 mn, .int .i64 tb, .int .i64 pd, .int .u8 ch.toNat, .int .i64 fl] 23 (0, 0)) := heap_alloc_new w _
  have HC0 := Lib.hid hc0
  obtain ⟨ao, cp, rfl, h1, h2, -⟩ := h.val
  have HRR := Lib.hid h
  unfold maxLen at h2
  clear hb0 hr0 hc0 h
  by_cases hl : bs.length ≤ 2147483647
  · have HWI := Lib.hid (with_calls (w.alloc (.cells #[.int .i64 mn, .int .i64 tb, .int .i64 pd, .int .u8 ch.toNat, .int .i64 fl] 23)) mn tb pd fl ch 32 false)
    obtain ⟨d0, d1, d2, d3, d4⟩ := conf_at HC0.out
    obtain ⟨g, hg⟩ : ∃ g, g = (if false = true then bits BinOp.or IntKind.i64 (bits BinOp.andNot IntKind.i64 fl 32) 32 else bits BinOp.andNot IntKind.i64 fl 32) := ⟨_, rfl⟩
    rw [← hg] at HWI
    have HG := Lib.hid (show bits BinOp.andNot IntKind.i64 fl 32 = g by rw [hg, if_neg (by simp)])
    clear hg
    go_enter Tryd.func8, Tryd.ntmps8
    go_wp2_with fail
    refine HWI.out.mono ?_
    rintro e w0 ⟨rfl, hbw⟩
    have hcw := (Tch.of_below (F := fun _ => False) hbw).heap HC0.out id
    have hbw2 : Below w.heap.size w w0 := HB0.out.trans (hbw.mono (by simp))
    have e1 := blk_set hcw 0 (.int .i64 mn)
    have e2 := blk_set e1 1 (.int .i64 tb)
    have e3 := blk_set e2 2 (.int .i64 pd)
    have e4 := blk_set e3 3 (.int .u8 ch.toNat)
    have e5 := blk_set e4 4 (.int .i64 g)
    have e6 := blk_set e5 3 (.int .u8 9)
    have e7 := blk_set e6 1 (.int .i64 0)
    have hb5 : Below w.heap.size w (((((((w0.setCell ⟨w.heap.size, 0, none⟩ (.int .i64 mn)).setCell ⟨w.heap.size, 1, none⟩ (.int .i64 tb)).setCell ⟨w.heap.size, 2, none⟩ (.int .i64 pd)).setCell ⟨w.heap.size, 3, none⟩ (.int .u8 ch.toNat)).setCell ⟨w.heap.size, 4, none⟩ (.int .i64 g)).setCell ⟨w.heap.size, 3, none⟩ (.int .u8 9)).setCell ⟨w.heap.size, 1, none⟩ (.int .i64 0)) :=
      ((((((hbw2.setCell (Nat.le_refl _) _).setCell (Nat.le_refl _) _).setCell (Nat.le_refl _) _).setCell (Nat.le_refl _) _).setCell (Nat.le_refl _) _).setCell (Nat.le_refl _) _).setCell (Nat.le_refl _) _
    have HE5 := Lib.hid e7
    have HB5 := Lib.hid hb5
    obtain ⟨c0, c1, c2, c3, c4⟩ := conf_at hcw
    have f0 := frozen_of_blk hcw 0
    have f1 := frozen_of_blk hcw 1
    have f2 := frozen_of_blk hcw 2
    have f3 := frozen_of_blk hcw 3
    have f4 := frozen_of_blk hcw 4
    have g3 := frozen_of_blk e5 3
    have g1 := frozen_of_blk e6 1
    have k5 := cell_of_blk e5 3
    have k6 := cell_of_blk e6 1
    obtain ⟨y0, y1, y2, y3, y4⟩ := conf_at e7
    clear hbw hcw hbw2 e1 e2 e3 e4 e5 e6 e7 hb5 HWI d0 d1 d2 d3 d4
    go_wp2_with fail
    have HR5 := Lib.hid (HRR.out.below HB5.out)
    clear c0 c1 c2 c3 c4 f0 f1 f2 f3 f4 g1 g3 k5 k6 HB0 HRD HRR HC0
    clear y0 y1 y2 y3 y4
    revert HE5 HB5 HR5
    generalize (((((((w0.setCell ⟨w.heap.size, 0, none⟩ (.int .i64 mn)).setCell ⟨w.heap.size, 1, none⟩ (.int .i64 tb)).setCell ⟨w.heap.size, 2, none⟩ (.int .i64 pd)).setCell ⟨w.heap.size, 3, none⟩ (.int .u8 ch.toNat)).setCell ⟨w.heap.size, 4, none⟩ (.int .i64 g)).setCell ⟨w.heap.size, 3, none⟩ (.int .u8 9)).setCell ⟨w.heap.size, 1, none⟩ (.int .i64 0)) = w1
    intro HE5 HB5 HR5
    have HC1 := Lib.hid (show w1.heap[w.heap.size]? = some (.cells #[.int .i64 mn, .int .i64 0, .int .i64 pd, .int .u8 9, .int .i64 g] 23 (0, 0)) by simpa using HE5.out)
    clear HE5
    have hV : Calls Tryd.prog 13 #[.agg #[.int .i64 mn, .int .i64 0, .int .i64 pd, .int .u8 9, .int .i64 g]] w1 fun e w' => e = .returned (.bool (decide (Vld mn 0 pd g))) ∧ Below w1.heap.size w1 w' := valid_calls w1 mn 0 pd g 9
    by_cases hv : Vld mn 0 pd g
    · rw [decide_eq_true hv] at hV
      have HVV := Lib.hid hv
      clear hv
      refine hV.mono ?_
      rintro e w4 ⟨rfl, hb4⟩
      have HR4 := Lib.hid (HR5.out.below hb4)
      have HC4 := Lib.hid ((Tch.of_below (F := fun _ => False) hb4).heap HC1.out id)
      have HB4 := Lib.hid (HB5.out.trans (hb4.mono HB5.out.size))
      clear hb4 hV HR5 HC1 HB5
      have hS := small_calls w4 HR4.out
      by_cases hs : bs.length ≤ 3000
      · rw [decide_eq_true hs] at hS
        have HS := Lib.hid hS
        clear hS
        go_wp2_with fail
        refine HS.out.mono ?_
        rintro e w5 ⟨rfl, rfl⟩
        clear HS
        have HVN := Lib.hid (show ∃ (m p f : Nat), mn = m ∧ pd = p ∧ g = f ∧ m ≤ 1000 ∧ p ≤ 1000 ∧ f < 64 by
          have hv := HVV.out
          unfold Vld at hv
          exact ⟨mn.toNat, pd.toNat, g.toNat, by omega, by omega, by omega, by omega, by omega, by omega⟩)
        obtain ⟨m, p, f, rfl, rfl, rfl, l1, l3, l4⟩ := HVN.out
        clear HVN HVV
        have h32 : (cfgOf m 0 p f 9).flag 32 = false := by rw [flag_cfg ⟨f, l4⟩ m 0 p 9 32 (by simp)]; exact andNot32_flag fl ⟨f, l4⟩ HG.out
        have H32 := Lib.hid h32
        clear h32
        obtain ⟨d0, d1, d2, d3, d4⟩ := conf_at HC4.out
        have k0 : ∀ (p' : Regrown), (grow (redrawn w4 p'.d) p'.os).cell? ⟨w.heap.size, 0, none⟩ = some (.int .i64 m) := fun p' => cell_regrown d0 p'.d p'.os
        have k1 : ∀ (p' : Regrown), (grow (redrawn w4 p'.d) p'.os).cell? ⟨w.heap.size, 1, none⟩ = some (.int .i64 0) := fun p' => cell_regrown d1 p'.d p'.os
        have k2 : ∀ (p' : Regrown), (grow (redrawn w4 p'.d) p'.os).cell? ⟨w.heap.size, 2, none⟩ = some (.int .i64 p) := fun p' => cell_regrown d2 p'.d p'.os
        have k3 : ∀ (p' : Regrown), (grow (redrawn w4 p'.d) p'.os).cell? ⟨w.heap.size, 3, none⟩ = some (.int .u8 9) := fun p' => cell_regrown d3 p'.d p'.os
        have k4 : ∀ (p' : Regrown), (grow (redrawn w4 p'.d) p'.os).cell? ⟨w.heap.size, 4, none⟩ = some (.int .i64 f) := fun p' => cell_regrown d4 p'.d p'.os
        go_wp2_with fail
        refine wp_region_rf (fun w' => ∃ p' : Regrown, w' = grow (redrawn w4 p'.d) p'.os) [0, 1, 4, 5] [2, 3, 6, 7, 8] 4 [_, _, _, _] [_, _, _, _, _] (by kernel_rfl) (by kernel_rfl) rfl rfl (fun _ _ d _ _ h => by cases d <;> exact h) ⟨⟨w4.drawn + 1, #[]⟩, by rw [grow_empty]; rfl⟩ ?_
        iterate 4 (refine wpR_step rfl (fun K hK => ?_); go_simp; refine hK _ ?_; clear hK K)
        refine wpR_nil ?_
        clear k0 k1 k2 k3 k4 d0 d1 d2 d3 d4
        have hba : Below w4.heap.size w4 (w4.drew.alloc (.cells #[.slice ao bs.length cp] 26)) := below_drewE ((Below.refl _ w4.drew).alloc (Nat.le_refl _) _)
        refine wpE_step rfl (fun K hK => ?_)
        go_simp
        refine hK _ _ (regrown_of_below hba) ?_
        clear hK K
        refine wpE_step rfl (fun K hK => ?_)
        go_simp
        refine (implWrite_calls (w := w4.drew.alloc (.cells #[.slice ao bs.length cp] 26)) m 0 p f 9 l1 (by omega) l3 l4 (Wrs.one w4.drew HR4.out.drew) (by simp; omega)).mono ?_
        rintro e w6 ⟨v6, rfl, hr6, hb6⟩
        have hb46 := hba.trans (hb6.mono hba.size)
        refine hK _ _ (regrown_of_below hb46) ?_
        clear hK K
        refine wpE_step rfl (fun K hK => ?_)
        go_simp
        refine (bare_calls w6 m 0 p f l4 9 (HR4.out.below hb46) (by omega)).mono ?_
        rintro e w7 ⟨v7, rfl, hr7, hb7⟩
        have hb47 := hb46.trans (hb7.mono hb46.size)
        refine hK _ _ (regrown_of_below hb47) ?_
        clear hK K
        have he : outOf (⟨m, 0, p, 9, keepFl 9 f, -1⟩ : Cfg) [bs].flatten = bareO (cellsGo (cfgOf m 0 p f 9) ⟨[], 0, 0⟩ [] bs) := by
          have : [bs].flatten = bs := by simp
          rw [this]; exact (out_format (cfgOf m 0 p f 9) bs).trans (format_bare rfl rfl H32.out bs)
        rw [he] at hr6
        have hSm := same_calls w7 (hr6.below hb7) hr7
        rw [decide_eq_true rfl] at hSm
        refine wpE_step rfl (fun K hK => ?_)
        go_simp
        refine hSm.mono ?_
        rintro e w8 ⟨rfl, rfl⟩
        refine hK _ _ (regrown_of_below hb47) ?_
        clear hK K
        refine wpE_zero ?_
        have HB7 := Lib.hid (HB4.out.trans (hb47.mono HB4.out.size))
        clear hb47 hSm hr6 hr7 he hb46 hb6 hb7 hba
        go_wp2_with fail
        go_ret
        exact ⟨rfl, HB7.out⟩
      · rw [decide_eq_false hs] at hS
        have HS := Lib.hid hS
        clear hS hs
        go_wp2_with fail
        refine HS.out.mono ?_
        rintro e w5 ⟨rfl, rfl⟩
        go_wp2_with fail
        go_ret
        exact ⟨rfl, HB4.out⟩
    · rw [decide_eq_false hv] at hV
      clear hv
      refine hV.mono ?_
      rintro e w4 ⟨rfl, hb4⟩
      have HB4 := Lib.hid (HB5.out.trans (hb4.mono HB5.out.size))
      clear hb4
      go_wp2_with fail
      go_ret
      exact ⟨rfl, HB4.out⟩
  · go_enter Tryd.func8, Tryd.ntmps8
    go_wp2_with fail
    go_ret
    exact ⟨rfl, HB0.out⟩
end Go.Proofs.YtbagbfmklpklmaaDoor

namespace Go.Proofs.YtbagbfmklpklmaaDoor.fnNoTabWidth
open Go.ChangeShapes Go.WideShapes Go.ChangeAt Go.RowKit

theorem own : ownKnob Tryd.prog.godebug = none := by kernel_rfl

theorem contract (H : Type) (enc : TypeId × Value → H) (W : World) (base : Nat) (args : Array Value) (ds gs : List (DataW H)) (before : List MemPlace)
    (hval : ∀ (j : Nat) t v, Tryd.f8.params[j]? = some t → args[j]? = some v → Value.okWide Tryd.prog W .any base t v)
    (hW : DataW.Whole enc Tryd.prog Tryd.f8.params.toList Rows.fnNoTabWidthSpec.vars false W args.toList ds gs before) :
    Calls Tryd.prog 8 args W fun e W' => ∃ v, e = .returned v ∧ Rows.fnNoTabWidthSpec.post enc Tryd.prog Tryd.f8 false true false false W args v W' := by
  have hW' := hW
  obtain ⟨p, q, hA0, hV, rfl, hfz, hnd⟩ := hW
  have hA : DataW.TrodAll enc Tryd.prog W 0 (fun _ => true) true Tryd.f8.params.toList args.toList ds p := hA0
  rw [Tryd.params8] at hA hval
  obtain ⟨v0, vs0, d0, ds0, p0, q0, hargs, rfl, rfl, h0, r0⟩ := trodAll_cons hA
  obtain ⟨v1, vs1, d1, ds1, p1, q1, rfl, rfl, rfl, h1, r1⟩ := trodAll_cons r0
  obtain ⟨rfl, rfl, rfl⟩ := trodAll_nil r1
  obtain rfl : args = #[v0, v1] := by cases args; simp_all
  obtain ⟨mn, tb, pd, fl, ch, rfl⟩ := open_conf (hval 0 _ _ rfl rfl)
  obtain ⟨bs, hrd⟩ := open_rd (hval 1 _ _ rfl rfl) h1
  refine (noTabWidth_calls W mn tb pd fl ch hrd).mono fun e W' ⟨he, hb⟩ => ?_
  subst he
  refine ⟨_, rfl, law_post rfl ?_ (by kernel_rfl) ?_ hW' hb⟩
  · intro ds hds
    match ds, hds with
    | [a, b], _ => rfl
  · rw [Tryd.params8]
    intro t ht
    simp at ht
    rcases ht with rfl | rfl
    · exact conf_typed.1
    · exact conf_typed.2

noncomputable def low : Nat := (World.holding Tryd.prog default ⟨#[], #[], []⟩).heap.size
noncomputable def laidWorld (os : Os) : World :=
  let w0 := World.holding Tryd.prog os ⟨#[.cells #[.string ⟨#[115, 104, 111, 114, 116, 32, 119, 114, 105, 116, 101]⟩] 114], #[], []⟩
  { w0 with heap := w0.heap.modify 0 fun
      | .cells _ t frozen => .cells #[.iface 96 (.pointer (some ⟨low, 0, none⟩))] t frozen
      | o => o }
def conf0 : Value := .agg #[.int .i64 0, .int .i64 0, .int .i64 0, .int .u8 0, .int .i64 0]
theorem laid_met (os : Os) : laidMet Tryd.prog Rows.fnNoTabWidthRow.laid ((laidWorld os).forCall (fun _ _ => 0) ⟨#[], #[conf0, .slice none 0 0], []⟩).memory :=
  laidMet_of_run (ps := [.cell 0 0, .cell low 0]) 8 (by kernel_rfl) (by kernel_rfl) (by kernel_rfl)
theorem reads (os : Os) {H : Type} (enc : TypeId × Value → H) : ∃ places, DataW.whole enc Tryd.prog ((laidWorld os).forCall (fun _ _ => 0) ⟨#[], #[conf0, .slice none 0 0], []⟩).memory Tryd.f8.params.toList Rows.fnNoTabWidthSpec.vars false #[conf0, .slice none 0 0].toList 8 = some ([.agg [.lit (.int .i64 0), .lit (.int .i64 0), .lit (.int .i64 0), .lit (.int .u8 0), .lit (.int .i64 0)], .nil], [], places) :=
  ⟨[], by kernel_rfl⟩

set_option maxRecDepth 100000 in
theorem lifted (os : Os) (started : os.Started) (H : Type) (enc : TypeId × Value → H) (F : Stop.Interp) :
    ReturnsInHanded {} Tryd.checked os 8 .any ((OpenSpec.ofChange Rows.fnNoTabWidthSpec).preRow enc Tryd.prog Tryd.f8 Rows.fnNoTabWidthRow.domain false Rows.fnNoTabWidthRow.laid) (((OpenSpec.ofChange Rows.fnNoTabWidthSpec).at F).post enc Tryd.prog Tryd.f8 false true false false) := by
  obtain ⟨places, hx⟩ := reads os enc
  refine returnsInHanded_of_row (C := Tryd.checked) (s := OpenSpec.ofChange Rows.fnNoTabWidthSpec) own started (by kernel_rfl) Tryd.func8
    (witness_row_at (enc := enc) (C := Tryd.checked) false (laidWorld os) #[conf0, .slice none 0 0] rfl (by kernel_rfl) (by kernel_rfl) (by kernel_rfl)
      (OpenSpec.preRow_of_cond 8 hx (by kernel_rfl) (fun k hk => by cases hk) (by kernel_rfl) (laid_met os))) ?_
  intro W base args ds gs before hval hW _ _ _ hL _ _
  exact contract H enc W base args ds gs before hval hW

theorem said : Rows.FnNoTabWidthSaid :=
  OpenClaim.holds_of_cond 8 Tryd.f8 rfl rfl rfl rfl rfl rfl rfl ⟨rfl, rfl, rfl, rfl, rfl⟩ rfl rfl rfl rfl rfl (by kernel_rfl) Tryd.func8 (by kernel_rfl)
    (of_decide_eq_true (by kernel_rfl)) (by unfold Func.isWrapper; first | (rw [if_pos (by decide +kernel)]; kernel_rfl) | (rw [if_neg (by decide +kernel)]; exact ⟨rfl, rfl⟩))
    (fun os started H enc _ F => by rw [OpenClaim.pre_eq_preRow]; exact lifted os started H enc F)

theorem plain (f : FuncId) (fn : Func) (hf : Tryd.pinned.checked.prog.funcNamed "loop.example/pub-tabcolumns/laws.FnNoTabWidth" = some f) (hfn : Tryd.pinned.checked.prog.funcs[f]? = some fn) :
    true = Tryd.pinned.checked.prog.looks [] ∧ ∀ (j : Nat) t, fn.params[j]? = some t → Tryd.pinned.checked.prog.wantsStandIn t = false := by
  obtain rfl : f = 8 := Option.some.inj ((show Tryd.prog.funcNamed "loop.example/pub-tabcolumns/laws.FnNoTabWidth" = some 8 by kernel_rfl).symm.trans hf) |>.symm
  obtain rfl : fn = Tryd.f8 := (Option.some.inj (Tryd.func8.symm.trans hfn)).symm
  refine ⟨by kernel_rfl, fun j t ht => ?_⟩
  rw [Tryd.params8] at ht
  have hm := Array.mem_of_getElem? ht
  simp at hm
  rcases hm with rfl | rfl
  · exact (show Tryd.prog.wantsStandIn 23 = false by kernel_rfl)
  · exact (show Tryd.prog.wantsStandIn 26 = false by kernel_rfl)

theorem card : Rows.FnNoTabWidthCardSaid :=
  Claim7.holds_tied_plain_at .later [] _ _ _ _ said (fun _ h => by cases h) (by kernel_rfl) (fun _ h => by cases h) fnNoTabWidth_row_tie rfl ⟨rfl, rfl⟩ (by kernel_rfl) rfl plain (by kernel_rfl)
end Go.Proofs.YtbagbfmklpklmaaDoor.fnNoTabWidth

namespace Go.Proofs.YtbagbfmklpklmaaDoor
theorem fnNoTabWidth_card : Rows.FnNoTabWidthCardSaid := fnNoTabWidth.card
#print axioms fnNoTabWidth_card
end Go.Proofs.YtbagbfmklpklmaaDoor
