/- 'FnExactTabs': with tabs as padding, too, a text is aligned as the reference aligns it, for every set-up that is valid and every text that is small. -/
import Derived.Test.YtbagbfmklpklmaaDoorCards
import Derived.Test.YtbagbfmklpklmaaDoorTie
import Derived.Test.YtbagbfmklpklmaaDoorSp
import Derived.Test.YtbagbfmklpklmaaDoorPe
import Derived.Test.YtbagbfmklpklmaaDoorQb
import Derived.WalkKit
import Derived.ProofKit
import Derived.OpenShut
import Derived.Deep.DeepHandedRow
import Derived.Deep.DeepWitnessRowRef
namespace Go.Proofs.YtbagbfmklpklmaaDoor
open Go.RowKit Go.Tw Go.Sort
set_option maxRecDepth 100000

theorem Wrs.oneD (w : World) {u : Value} {bs : List UInt8} (h : Rd w u bs) : Wrs (w.alloc (.cells #[u] 26)) (.slice (some ⟨w.heap.size, 0, none⟩) 1 1) [bs] := by
  refine ⟨_, _, rfl, by simp, fun j hj => ?_⟩
  have : j = 0 := by simp at hj; omega
  subst this
  exact ⟨_, u, rfl, rfl, cell_of_blk (heap_alloc_new w _) 0, h.below ((Below.refl _ w).alloc (Nat.le_refl _) _)⟩

theorem below_drewD {w w' : World} {B : Nat} (h : Below B w.drew w') : Below B w w' := ⟨h.os, h.tape, h.output, h.size, h.block⟩

set_option maxHeartbeats 2000000 in
theorem exactTabs_calls (w : World) (mn tb pd fl : Int) (ch : UInt8) {v : Value} {bs : List UInt8} (h : Rd w v bs) :
    Calls Tryd.prog 7 #[.agg #[.int .i64 mn, .int .i64 tb, .int .i64 pd, .int .u8 ch.toNat, .int .i64 fl], v] w fun e w' => e = .returned (.bool true) ∧ Below w.heap.size w w' := by
  have hb0 : Below w.heap.size w (w.alloc (.cells #[.int .i64 mn, .int .i64 tb, .int .i64 pd, .int .u8 ch.toNat, .int .i64 fl] 23)) := (Below.refl _ w).alloc (Nat.le_refl _) _
  have HB0 := Lib.hid hb0
  have hr0 := h.below hb0
  have HRD := Lib.hid hr0
  have hc0 : (w.alloc (.cells #[.int .i64 mn, .int .i64 tb, .int .i64 pd, .int .u8 ch.toNat, .int .i64 fl] 23)).heap[w.heap.size]? = some (.cells #[.int .i64 mn, .int .i64 tb, .int .i64 pd, .int .u8 ch.toNat, .int .i64 fl] 23 (0, 0)) := heap_alloc_new w _
  have HC0 := Lib.hid hc0
  obtain ⟨ao, cp, rfl, h1, h2, -⟩ := h.val
  have HRR := Lib.hid h
  unfold maxLen at h2
  clear hb0 hr0 hc0 h
  by_cases hl : bs.length ≤ 2147483647
  · have hbs : Below w.heap.size w (w.alloc (.cells #[.int .i64 mn, .int .i64 tb, .int .i64 pd, .int .u8 9, .int .i64 fl] 23)) := (Below.refl _ w).alloc (Nat.le_refl _) _
    have hcs : (w.alloc (.cells #[.int .i64 mn, .int .i64 tb, .int .i64 pd, .int .u8 9, .int .i64 fl] 23)).heap[w.heap.size]? = some (.cells #[.int .i64 mn, .int .i64 tb, .int .i64 pd, .int .u8 9, .int .i64 fl] 23 (0, 0)) := heap_alloc_new w _
    have hrs := HRR.out.below hbs
    obtain ⟨d0, d1, d2, d3, d4⟩ := conf_at HC0.out
    have f3 := frozen_of_blk HC0.out 3
    have hV : Calls Tryd.prog 13 #[.agg #[.int .i64 mn, .int .i64 tb, .int .i64 pd, .int .u8 9, .int .i64 fl]] (w.alloc (.cells #[.int .i64 mn, .int .i64 tb, .int .i64 pd, .int .u8 9, .int .i64 fl] 23)) fun e w' => e = .returned (.bool (decide (Vld mn tb pd fl))) ∧ Below (w.alloc (.cells #[.int .i64 mn, .int .i64 tb, .int .i64 pd, .int .u8 9, .int .i64 fl] 23)).heap.size (w.alloc (.cells #[.int .i64 mn, .int .i64 tb, .int .i64 pd, .int .u8 9, .int .i64 fl] 23)) w' := valid_calls (w.alloc (.cells #[.int .i64 mn, .int .i64 tb, .int .i64 pd, .int .u8 9, .int .i64 fl] 23)) mn tb pd fl 9
    obtain ⟨z0, z1, z2, z3, z4⟩ := conf_at hcs
    have HBS := Lib.hid hbs
    have HCS := Lib.hid hcs
    have HRS := Lib.hid hrs
    clear hbs hcs hrs
    by_cases hv : Vld mn tb pd fl
    · rw [decide_eq_true hv] at hV
      have HV := Lib.hid hV
      have HVV := Lib.hid hv
      clear hV hv
      go_enter Tryd.func7, Tryd.ntmps7
      go_wp2_with fail
      refine HV.out.mono ?_
      rintro e w4 ⟨rfl, hb4⟩
      have HR4 := Lib.hid (HRS.out.below hb4)
      have HC4 := Lib.hid ((Tch.of_below (F := fun _ => False) hb4).heap HCS.out id)
      have HB4 := Lib.hid (HBS.out.trans (hb4.mono HBS.out.size))
      clear hb4 HV HRD HC0 HB0 HRR HBS HCS HRS d0 d1 d2 d3 d4 f3 z0 z1 z2 z3 z4
      have hS := small_calls w4 HR4.out
      by_cases hs : bs.length ≤ 3000
      · rw [decide_eq_true hs] at hS
        have HS := Lib.hid hS
        clear hS
        go_wp2_with fail
        refine HS.out.mono ?_
        rintro e w5 ⟨rfl, rfl⟩
        clear HS
        have HVN := Lib.hid (show ∃ (m t p f : Nat), mn = m ∧ tb = t ∧ pd = p ∧ fl = f ∧ m ≤ 1000 ∧ t ≤ 1000 ∧ p ≤ 1000 ∧ f < 64 by
          have hv := HVV.out
          unfold Vld at hv
          exact ⟨mn.toNat, tb.toNat, pd.toNat, fl.toNat, by omega, by omega, by omega, by omega, by omega, by omega, by omega, by omega⟩)
        obtain ⟨m, t, p, f, rfl, rfl, rfl, rfl, l1, l2, l3, l4⟩ := HVN.out
        clear HVN HVV
        obtain ⟨d0, d1, d2, d3, d4⟩ := conf_at HC4.out
        have k0 : ∀ (p' : Regrown), (grow (redrawn w4 p'.d) p'.os).cell? ⟨w.heap.size, 0, none⟩ = some (.int .i64 m) := fun p' => cell_regrown d0 p'.d p'.os
        have k1 : ∀ (p' : Regrown), (grow (redrawn w4 p'.d) p'.os).cell? ⟨w.heap.size, 1, none⟩ = some (.int .i64 t) := fun p' => cell_regrown d1 p'.d p'.os
        have k2 : ∀ (p' : Regrown), (grow (redrawn w4 p'.d) p'.os).cell? ⟨w.heap.size, 2, none⟩ = some (.int .i64 p) := fun p' => cell_regrown d2 p'.d p'.os
        have k3 : ∀ (p' : Regrown), (grow (redrawn w4 p'.d) p'.os).cell? ⟨w.heap.size, 3, none⟩ = some (.int .u8 9) := fun p' => cell_regrown d3 p'.d p'.os
        have k4 : ∀ (p' : Regrown), (grow (redrawn w4 p'.d) p'.os).cell? ⟨w.heap.size, 4, none⟩ = some (.int .i64 f) := fun p' => cell_regrown d4 p'.d p'.os
        go_wp2_with fail
        refine wp_region_rf (fun w' => ∃ p' : Regrown, w' = grow (redrawn w4 p'.d) p'.os) [0, 1, 4, 5] [2, 3, 6, 7, 8] 4 [_, _, _, _] [_, _, _, _, _] (by kernel_rfl) (by kernel_rfl) rfl rfl (fun _ _ d _ _ h => by cases d <;> exact h) ⟨⟨w4.drawn + 1, #[]⟩, by rw [grow_empty]; rfl⟩ ?_
        iterate 4 (refine wpR_step rfl (fun K hK => ?_); go_simp; refine hK _ ?_; clear hK K)
        refine wpR_nil ?_
        clear k0 k1 k2 k3 k4 d0 d1 d2 d3 d4
        have hba : Below w4.heap.size w4 (w4.drew.alloc (.cells #[.slice ao bs.length cp] 26)) := below_drewD ((Below.refl _ w4.drew).alloc (Nat.le_refl _) _)
        refine wpE_step rfl (fun K hK => ?_)
        go_simp
        refine hK _ _ (regrown_of_below hba) ?_
        clear hK K
        refine wpE_step rfl (fun K hK => ?_)
        go_simp
        refine (implWrite_calls (w := w4.drew.alloc (.cells #[.slice ao bs.length cp] 26)) m t p f 9 l1 l2 l3 l4 (Wrs.oneD w4.drew HR4.out.drew) (by simp; omega)).mono ?_
        rintro e w6 ⟨v6, rfl, hr6, hb6⟩
        have hb46 := hba.trans (hb6.mono hba.size)
        refine hK _ _ (regrown_of_below hb46) ?_
        clear hK K
        refine wpE_step rfl (fun K hK => ?_)
        go_simp
        refine (format_calls w6 m t p f l4 9 (HR4.out.below hb46) hs l1 l2 l3).mono ?_
        rintro e w7 ⟨v7, rfl, hr7, hb7⟩
        have hb47 := hb46.trans (hb7.mono hb46.size)
        refine hK _ _ (regrown_of_below hb47) ?_
        clear hK K
        have he : outOf (⟨m, t, p, 9, keepFl 9 f, -1⟩ : Cfg) [bs].flatten = formatO (cfgOf m t p f 9) bs := by
          have : [bs].flatten = bs := by simp
          rw [this]; exact out_format (cfgOf m t p f 9) bs
        rw [he] at hr6
        have hSm := same_calls w7 (hr6.below hb7) hr7
        rw [decide_eq_true rfl] at hSm
        refine wpE_step rfl (fun K hK => ?_)
        go_simp
        refine hSm.mono ?_
        rintro e w8 ⟨rfl, rfl⟩
        refine hK _ _ (regrown_of_below hb47) ?_
        clear hK K
        refine wpE_zero ?_
        have HB7 := Lib.hid (HB4.out.trans (hb47.mono HB4.out.size))
        clear hb47 hSm hr6 hr7 he hb46 hb6 hb7 hba
        go_wp2_with fail
        go_ret
        exact ⟨rfl, HB7.out⟩
      · rw [decide_eq_false hs] at hS
        have HS := Lib.hid hS
        clear hS hs
        go_wp2_with fail
        refine HS.out.mono ?_
        rintro e w5 ⟨rfl, rfl⟩
        go_wp2_with fail
        go_ret
        exact ⟨rfl, HB4.out⟩
    · rw [decide_eq_false hv] at hV
      have HV := Lib.hid hV
      clear hV hv
      go_enter Tryd.func7, Tryd.ntmps7
      go_wp2_with fail
      refine HV.out.mono ?_
      rintro e w4 ⟨rfl, hb4⟩
      have HB4 := Lib.hid (HBS.out.trans (hb4.mono HBS.out.size))
      clear hb4
      go_wp2_with fail
      go_ret
      exact ⟨rfl, HB4.out⟩
  · go_enter Tryd.func7, Tryd.ntmps7
    go_wp2_with fail
    go_ret
    exact ⟨rfl, HB0.out⟩
end Go.Proofs.YtbagbfmklpklmaaDoor

namespace Go.Proofs.YtbagbfmklpklmaaDoor.fnExactTabs
open Go.ChangeShapes Go.WideShapes Go.ChangeAt Go.RowKit

theorem own : ownKnob Tryd.prog.godebug = none := by kernel_rfl

theorem contract (H : Type) (enc : TypeId × Value → H) (W : World) (base : Nat) (args : Array Value) (ds gs : List (DataW H)) (before : List MemPlace)
    (hval : ∀ (j : Nat) t v, Tryd.f7.params[j]? = some t → args[j]? = some v → Value.okWide Tryd.prog W .any base t v)
    (hW : DataW.Whole enc Tryd.prog Tryd.f7.params.toList Rows.fnExactTabsSpec.vars false W args.toList ds gs before) :
    Calls Tryd.prog 7 args W fun e W' => ∃ v, e = .returned v ∧ Rows.fnExactTabsSpec.post enc Tryd.prog Tryd.f7 false true false false W args v W' := by
  have hW' := hW
  obtain ⟨p, q, hA0, hV, rfl, hfz, hnd⟩ := hW
  have hA : DataW.TrodAll enc Tryd.prog W 0 (fun _ => true) true Tryd.f7.params.toList args.toList ds p := hA0
  rw [Tryd.params7] at hA hval
  obtain ⟨v0, vs0, d0, ds0, p0, q0, hargs, rfl, rfl, h0, r0⟩ := trodAll_cons hA
  obtain ⟨v1, vs1, d1, ds1, p1, q1, rfl, rfl, rfl, h1, r1⟩ := trodAll_cons r0
  obtain ⟨rfl, rfl, rfl⟩ := trodAll_nil r1
  obtain rfl : args = #[v0, v1] := by cases args; simp_all
  obtain ⟨mn, tb, pd, fl, ch, rfl⟩ := open_conf (hval 0 _ _ rfl rfl)
  obtain ⟨bs, hrd⟩ := open_rd (hval 1 _ _ rfl rfl) h1
  refine (exactTabs_calls W mn tb pd fl ch hrd).mono fun e W' ⟨he, hb⟩ => ?_
  subst he
  refine ⟨_, rfl, law_post rfl ?_ (by kernel_rfl) ?_ hW' hb⟩
  · intro ds hds
    match ds, hds with
    | [a, b], _ => rfl
  · rw [Tryd.params7]
    intro t ht
    simp at ht
    rcases ht with rfl | rfl
    · exact conf_typed.1
    · exact conf_typed.2

noncomputable def low : Nat := (World.holding Tryd.prog default ⟨#[], #[], []⟩).heap.size
noncomputable def laidWorld (os : Os) : World :=
  let w0 := World.holding Tryd.prog os ⟨#[.cells #[.string ⟨#[115, 104, 111, 114, 116, 32, 119, 114, 105, 116, 101]⟩] 114], #[], []⟩
  { w0 with heap := w0.heap.modify 0 fun
      | .cells _ t frozen => .cells #[.iface 96 (.pointer (some ⟨low, 0, none⟩))] t frozen
      | o => o }
def conf0 : Value := .agg #[.int .i64 0, .int .i64 0, .int .i64 0, .int .u8 0, .int .i64 0]
theorem laid_met (os : Os) : laidMet Tryd.prog Rows.fnExactTabsRow.laid ((laidWorld os).forCall (fun _ _ => 0) ⟨#[], #[conf0, .slice none 0 0], []⟩).memory :=
  laidMet_of_run (ps := [.cell 0 0, .cell low 0]) 8 (by kernel_rfl) (by kernel_rfl) (by kernel_rfl)
theorem reads (os : Os) {H : Type} (enc : TypeId × Value → H) : ∃ places, DataW.whole enc Tryd.prog ((laidWorld os).forCall (fun _ _ => 0) ⟨#[], #[conf0, .slice none 0 0], []⟩).memory Tryd.f7.params.toList Rows.fnExactTabsSpec.vars false #[conf0, .slice none 0 0].toList 8 = some ([.agg [.lit (.int .i64 0), .lit (.int .i64 0), .lit (.int .i64 0), .lit (.int .u8 0), .lit (.int .i64 0)], .nil], [], places) :=
  ⟨[], by kernel_rfl⟩

set_option maxRecDepth 100000 in
theorem lifted (os : Os) (started : os.Started) (H : Type) (enc : TypeId × Value → H) (F : Stop.Interp) :
    ReturnsInHanded {} Tryd.checked os 7 .any ((OpenSpec.ofChange Rows.fnExactTabsSpec).preRow enc Tryd.prog Tryd.f7 Rows.fnExactTabsRow.domain false Rows.fnExactTabsRow.laid) (((OpenSpec.ofChange Rows.fnExactTabsSpec).at F).post enc Tryd.prog Tryd.f7 false true false false) := by
  obtain ⟨places, hx⟩ := reads os enc
  refine returnsInHanded_of_row (C := Tryd.checked) (s := OpenSpec.ofChange Rows.fnExactTabsSpec) own started (by kernel_rfl) Tryd.func7
    (witness_row_at (enc := enc) (C := Tryd.checked) false (laidWorld os) #[conf0, .slice none 0 0] rfl (by kernel_rfl) (by kernel_rfl) (by kernel_rfl)
      (OpenSpec.preRow_of_cond 8 hx (by kernel_rfl) (fun k hk => by cases hk) (by kernel_rfl) (laid_met os))) ?_
  intro W base args ds gs before hval hW _ _ _ hL _ _
  exact contract H enc W base args ds gs before hval hW

theorem said : Rows.FnExactTabsSaid :=
  OpenClaim.holds_of_cond 7 Tryd.f7 rfl rfl rfl rfl rfl rfl rfl ⟨rfl, rfl, rfl, rfl, rfl⟩ rfl rfl rfl rfl rfl (by kernel_rfl) Tryd.func7 (by kernel_rfl)
    (of_decide_eq_true (by kernel_rfl)) (by unfold Func.isWrapper; first | (rw [if_pos (by decide +kernel)]; kernel_rfl) | (rw [if_neg (by decide +kernel)]; exact ⟨rfl, rfl⟩))
    (fun os started H enc _ F => by rw [OpenClaim.pre_eq_preRow]; exact lifted os started H enc F)

theorem plain (f : FuncId) (fn : Func) (hf : Tryd.pinned.checked.prog.funcNamed "loop.example/pub-tabcolumns/laws.FnExactTabs" = some f) (hfn : Tryd.pinned.checked.prog.funcs[f]? = some fn) :
    true = Tryd.pinned.checked.prog.looks [] ∧ ∀ (j : Nat) t, fn.params[j]? = some t → Tryd.pinned.checked.prog.wantsStandIn t = false := by
  obtain rfl : f = 7 := Option.some.inj ((show Tryd.prog.funcNamed "loop.example/pub-tabcolumns/laws.FnExactTabs" = some 7 by kernel_rfl).symm.trans hf) |>.symm
  obtain rfl : fn = Tryd.f7 := (Option.some.inj (Tryd.func7.symm.trans hfn)).symm
  refine ⟨by kernel_rfl, fun j t ht => ?_⟩
  rw [Tryd.params7] at ht
  have hm := Array.mem_of_getElem? ht
  simp at hm
  rcases hm with rfl | rfl
  · exact (show Tryd.prog.wantsStandIn 23 = false by kernel_rfl)
  · exact (show Tryd.prog.wantsStandIn 26 = false by kernel_rfl)

theorem card : Rows.FnExactTabsCardSaid :=
  Claim7.holds_tied_plain_at .later [] _ _ _ _ said (fun _ h => by cases h) (by kernel_rfl) (fun _ h => by cases h) fnExactTabs_row_tie rfl ⟨rfl, rfl⟩ (by kernel_rfl) rfl plain (by kernel_rfl)
end Go.Proofs.YtbagbfmklpklmaaDoor.fnExactTabs

namespace Go.Proofs.YtbagbfmklpklmaaDoor
theorem fnExactTabs_card : Rows.FnExactTabsCardSaid := fnExactTabs.card
#print axioms fnExactTabs_card
end Go.Proofs.YtbagbfmklpklmaaDoor
