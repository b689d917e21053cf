/- 'FnExactWrites': a text in any writes is aligned the same. Condition: what the law reads (the set-up, the writes with their bytes) is of bulk at most 1048576. -/
import Derived.Test.YtinkhkhacaehkaaDoorCards
import Derived.Test.YtinkhkhacaehkaaDoorTie
import Derived.Test.YtinkhkhacaehkaaDoorVe
import Derived.Test.YtinkhkhacaehkaaDoorQt
import Derived.Test.YtinkhkhacaehkaaDoorQc
import Derived.Test.YtinkhkhacaehkaaDoorSq
import Derived.WalkKit
import Derived.ProofKit
import Derived.OpenShut
import Derived.Deep.DeepHandedRow
import Derived.Deep.DeepWitnessRowRef
namespace Go.Proofs.YtinkhkhacaehkaaDoor
open Go.RowKit Go.Tw Go.Sort
set_option maxRecDepth 100000

set_option maxHeartbeats 4000000 in
theorem exactWrites_calls (w : World) (mn tb pd fl : Int) (ch : UInt8) {v : Value} {bss : List (List UInt8)} (h : Wrs w v bss) (hT : Lib.Utf8Tabs 0 1 w) (hb : bss.flatten.length + bss.length ≤ 1048576) :
    Calls Tryd.prog 7 #[.agg #[.int .i64 mn, .int .i64 tb, .int .i64 pd, .int .u8 ch.toNat, .int .i64 fl], v] w fun e w' => e = .returned (.bool true) ∧ Below w.heap.size w w' := by
  have hb0 : Below w.heap.size w (w.alloc (.cells #[.int .i64 mn, .int .i64 tb, .int .i64 pd, .int .u8 ch.toNat, .int .i64 fl] 23)) := (Below.refl _ w).alloc (Nat.le_refl _) _
  have hc0 : (w.alloc (.cells #[.int .i64 mn, .int .i64 tb, .int .i64 pd, .int .u8 ch.toNat, .int .i64 fl] 23)).heap[w.heap.size]? = some (.cells #[.int .i64 mn, .int .i64 tb, .int .i64 pd, .int .u8 ch.toNat, .int .i64 fl] 23 (0, 0)) := heap_alloc_new w _
  have hr0 := h.below hb0
  have HT := Lib.hid hT
  obtain ⟨s, hgs⟩ : ∃ s, s = bss.flatten := ⟨_, rfl⟩
  have HGS := Lib.hid hgs
  clear hgs hT
  have HB0 := Lib.hid hb0
  have HC0 := Lib.hid hc0
  have HR0 := Lib.hid hr0
  have HFI := Lib.hid (fits_calls _ hr0 (by omega))
  obtain ⟨ao, cp, rfl, hbl, -⟩ := h.val
  clear hb0 hr0 hc0 h
  go_enter Tryd.func7, Tryd.ntmps7
  go_wp2_with fail
  refine HFI.out.mono ?_
  rintro e w1 ⟨rfl, rfl⟩
  clear HFI
  go_wp2_with fail
  refine (joined_calls _ HR0.out (by omega)).mono ?_
  rintro e w2 ⟨v2, rfl, hr2, hb2⟩
  rw [← HGS.out] at hr2
  have HW2 := Lib.hid (HR0.out.below hb2)
  have L2 := Lib.hid (show LS w mn tb pd ch fl v2 s w2 from ⟨(Tch.of_below (F := fun _ => False) hb2).heap HC0.out id, hr2, HB0.out.trans (hb2.mono HB0.out.size)⟩)
  obtain ⟨a2, p2, rfl, -⟩ := hr2.val
  clear hr2 hb2 HB0 HC0 HR0
  obtain ⟨d0, d1, d2, d3, d4⟩ := L2.out.cells
  go_wp2_with fail
  refine (spaces_calls _ mn tb pd fl ch L2.out.rd (Utf8Tabs_below HT.out L2.out.bel)).mono ?_
  rintro e w1 ⟨b, rfl, hb1, hfact⟩
  have L1 := Lib.hid (L2.out.step hb1)
  have HW1 := Lib.hid (HW2.out.below hb1)
  have HFA := Lib.hid hfact
  clear hb1 L2 HW2 d0 d1 d2 d3 d4 hfact
  cases b
  · go_wp2_with fail
    go_ret
    exact ⟨rfl, L1.out.bel⟩
  obtain ⟨m, t, p, f, rfl, rfl, rfl, rfl, l1, l2, l3, l4, hs, -⟩ := HFA.out rfl
  obtain ⟨d0, d1, d2, d3, d4⟩ := L1.out.cells
  have k0 : ∀ (p' : Regrown), (grow (redrawn w1 p'.d) p'.os).cell? ⟨w.heap.size, 0, none⟩ = some (.int .i64 m) := fun p' => cell_regrown d0 p'.d p'.os
  have k1 : ∀ (p' : Regrown), (grow (redrawn w1 p'.d) p'.os).cell? ⟨w.heap.size, 1, none⟩ = some (.int .i64 t) := fun p' => cell_regrown d1 p'.d p'.os
  have k2 : ∀ (p' : Regrown), (grow (redrawn w1 p'.d) p'.os).cell? ⟨w.heap.size, 2, none⟩ = some (.int .i64 p) := fun p' => cell_regrown d2 p'.d p'.os
  have k3 : ∀ (p' : Regrown), (grow (redrawn w1 p'.d) p'.os).cell? ⟨w.heap.size, 3, none⟩ = some (.int .u8 ch.toNat) := fun p' => cell_regrown d3 p'.d p'.os
  have k4 : ∀ (p' : Regrown), (grow (redrawn w1 p'.d) p'.os).cell? ⟨w.heap.size, 4, none⟩ = some (.int .i64 f) := fun p' => cell_regrown d4 p'.d p'.os
  clear HFA
  go_wp2_with fail
  refine wp_region_rf (fun w' => ∃ p' : Regrown, w' = grow (redrawn w1 p'.d) p'.os) [0, 1, 3, 4] [2, 5, 6, 7] 3 [_, _, _, _] [_, _, _, _] (by kernel_rfl) (by kernel_rfl) rfl rfl (fun _ _ d _ _ h => by cases d <;> exact h) ⟨⟨w1.drawn + 1, #[]⟩, by rw [grow_empty]; rfl⟩ ?_
  iterate 4 (refine wpR_step rfl (fun K hK => ?_); go_simp; refine hK _ ?_; clear hK K)
  refine wpR_nil ?_
  clear k0 k1 k2 k3 k4 d0 d1 d2 d3 d4
  have L2 := Lib.hid L1.out.drew
  refine wpE_step rfl (fun K hK => ?_)
  go_simp
  refine (write_many w1.drew m t p f l4 ch HGS.out (HW1.out.below (below_drawn (Below.refl _ _))) (by omega) l1 l2 l3).mono ?_
  rintro e w6 ⟨v6, rfl, hr6, hb6⟩
  have hb16 := below_drawn hb6
  refine hK _ _ (regrown_of_below hb16) ?_
  clear hK K
  have L6 := Lib.hid (L1.out.step hb16)
  refine wpE_step rfl (fun K hK => ?_)
  go_simp
  refine (format_calls w6 m t p f l4 ch L6.out.rd hs l1 l2 l3).mono ?_
  rintro e w7 ⟨v7, rfl, hr7, hb7⟩
  have hb17 := hb16.trans (hb7.mono hb16.size)
  refine hK _ _ (regrown_of_below hb17) ?_
  clear hK K
  have hSm := same_calls w7 (hr6.below hb7) hr7
  rw [decide_eq_true rfl] at hSm
  refine wpE_step rfl (fun K hK => ?_)
  go_simp
  refine hSm.mono ?_
  rintro e w8 ⟨rfl, rfl⟩
  refine hK _ _ (regrown_of_below hb17) ?_
  clear hK K
  refine wpE_zero ?_
  have L7 := Lib.hid (L6.out.step hb7)
  clear hb17 hb16 hSm hr6 hr7 hb6 hb7
  go_wp2_with fail
  go_ret
  exact ⟨rfl, L7.out.bel⟩
end Go.Proofs.YtinkhkhacaehkaaDoor

namespace Go.Proofs.YtinkhkhacaehkaaDoor.fnExactWrites
open Go.ChangeShapes Go.WideShapes Go.ChangeAt Go.RowKit
set_option maxRecDepth 100000

theorem own : ownKnob Tryd.prog.godebug = none := by kernel_rfl

theorem contract (H : Type) (enc : TypeId × Value → H) (W : World) (base : Nat) (args : Array Value) (ds gs : List (DataW H)) (before : List MemPlace)
    (hval : ∀ (j : Nat) t v, Tryd.f7.params[j]? = some t → args[j]? = some v → Value.okWide Tryd.prog W .any base t v)
    (hW : DataW.Whole enc Tryd.prog Tryd.f7.params.toList Rows.fnExactWritesSpec.vars false W args.toList ds gs before)
    (hk : Rows.uptoBulkAll (ds ++ gs) ≤ 1048576)
    (hL : laidMetH Tryd.prog Rows.fnExactWritesUptoRow.laid W) :
    Calls Tryd.prog 7 args W fun e W' => ∃ v, e = .returned v ∧ Rows.fnExactWritesSpec.post enc Tryd.prog Tryd.f7 false true false false W args v W' := by
  have hW' := hW
  obtain ⟨p, q, hA0, hV, rfl, hfz, hnd⟩ := hW
  have hA : DataW.TrodAll enc Tryd.prog W 0 (fun _ => true) true Tryd.f7.params.toList args.toList ds p := hA0
  rw [Tryd.params7] at hA hval
  obtain ⟨v0, vs0, d0, ds0, p0, q0, hargs, rfl, rfl, h0, r0⟩ := trodAll_cons hA
  obtain ⟨v1, vs1, d1, ds1, p1, q1, rfl, rfl, rfl, h1, r1⟩ := trodAll_cons r0
  obtain ⟨rfl, rfl, rfl⟩ := trodAll_nil r1
  obtain rfl : args = #[v0, v1] := by cases args; simp_all
  obtain ⟨mn0, tb0, pd0, fl0, ch0, rfl⟩ := open_conf (hval 0 _ _ rfl rfl)
  obtain ⟨bss1, hrd1, hbk1⟩ := open_wrs (hval 1 _ _ rfl rfl) h1
  simp only [List.cons_append, List.nil_append, Rows.uptoBulkAll] at hk
  refine (exactWrites_calls W mn0 tb0 pd0 fl0 ch0 hrd1 (tabs_of hL) (by omega)).mono fun e W' ⟨he, hb⟩ => ?_
  subst he
  refine ⟨_, rfl, law_post rfl ?_ (by kernel_rfl) ?_ hW' hb⟩
  · intro ds hds
    match ds, hds with
    | [a, b], _ => rfl
  · rw [Tryd.params7]
    intro t ht
    simp at ht
    rcases ht with rfl | rfl <;> exact of_decide_eq_true (by kernel_rfl)

theorem laid_met (os : Os) : laidMet Tryd.prog Rows.fnExactWritesUptoRow.laid ((laidWorld os).forCall (fun _ _ => 0) ⟨#[], #[conf0, .slice none 0 0], []⟩).memory :=
  laidMet_of_run' 8 (by kernel_rfl) (by kernel_rfl)
theorem reads (os : Os) {H : Type} (enc : TypeId × Value → H) : ∃ places, DataW.whole enc Tryd.prog ((laidWorld os).forCall (fun _ _ => 0) ⟨#[], #[conf0, .slice none 0 0], []⟩).memory Tryd.f7.params.toList Rows.fnExactWritesSpec.vars false (#[conf0, .slice none 0 0] : Array Value).toList 8 = some ([.agg [.lit (.int .i64 0), .lit (.int .i64 0), .lit (.int .i64 0), .lit (.int .u8 0), .lit (.int .i64 0)], .nil], [], places) :=
  ⟨[], by kernel_rfl⟩

set_option maxRecDepth 100000 in
theorem lifted (os : Os) (started : os.Started) (H : Type) (enc : TypeId × Value → H) (F : Stop.Interp) :
    ReturnsInHanded {} Tryd.checked os 7 .any ((Rows.OpenSpec.upto Rows.fnExactWritesSpec).preRow enc Tryd.prog Tryd.f7 Rows.fnExactWritesUptoRow.domain false Rows.fnExactWritesUptoRow.laid) (((Rows.OpenSpec.upto Rows.fnExactWritesSpec).at F).post enc Tryd.prog Tryd.f7 false true false false) := by
  obtain ⟨places, hx⟩ := reads os enc
  refine returnsInHanded_of_row (C := Tryd.checked) (s := Rows.OpenSpec.upto Rows.fnExactWritesSpec) own started (by kernel_rfl) Tryd.func7
    (witness_row_at (enc := enc) (C := Tryd.checked) false (laidWorld os) #[conf0, .slice none 0 0] rfl (by kernel_rfl) (by kernel_rfl) (by kernel_rfl)
      (OpenSpec.preRow_of_cond 8 hx (by kernel_rfl) (fun k hk => by cases hk; kernel_rfl) (by kernel_rfl) (laid_met os))) ?_
  intro W base args ds gs before hval hW _ hcond _ hL _ _
  exact contract H enc W base args ds gs before hval hW (of_decide_eq_true (hcond _ rfl)) hL

theorem said : Rows.FnExactWritesUptoSaid :=
  OpenClaim.holds_of_cond 7 Tryd.f7 rfl rfl rfl rfl rfl rfl rfl ⟨rfl, rfl, rfl, rfl, rfl⟩ rfl rfl rfl rfl rfl (by kernel_rfl) Tryd.func7 (by kernel_rfl)
    (of_decide_eq_true (by kernel_rfl)) (by unfold Func.isWrapper; first | (rw [if_pos (by decide +kernel)]; kernel_rfl) | (rw [if_neg (by decide +kernel)]; exact ⟨rfl, rfl⟩))
    (fun os started H enc _ F => by rw [OpenClaim.pre_eq_preRow]; exact lifted os started H enc F)

theorem plain (f : FuncId) (fn : Func) (hf : Tryd.pinned.checked.prog.funcNamed "loop.example/pub-tabcolumns/laws.FnExactWrites" = some f) (hfn : Tryd.pinned.checked.prog.funcs[f]? = some fn) :
    true = Tryd.pinned.checked.prog.looks [] ∧ ∀ (j : Nat) t, fn.params[j]? = some t → Tryd.pinned.checked.prog.wantsStandIn t = false := by
  obtain rfl : f = 7 := Option.some.inj ((show Tryd.prog.funcNamed "loop.example/pub-tabcolumns/laws.FnExactWrites" = some 7 by kernel_rfl).symm.trans hf) |>.symm
  obtain rfl : fn = Tryd.f7 := (Option.some.inj (Tryd.func7.symm.trans hfn)).symm
  refine ⟨by kernel_rfl, fun j t ht => ?_⟩
  rw [Tryd.params7] at ht
  have hm := Array.mem_of_getElem? ht
  simp at hm
  rcases hm with rfl | rfl
  · exact (show Tryd.prog.wantsStandIn 23 = false by kernel_rfl)
  · exact (show Tryd.prog.wantsStandIn 26 = false by kernel_rfl)

theorem card : Rows.FnExactWritesUptoCardSaid :=
  Claim7.holds_tied_plain_at .later [] _ _ _ _ said (fun _ h => by cases h) (by kernel_rfl) (fun _ h => by cases h) fnExactWritesUpto_row_tie rfl ⟨rfl, rfl⟩ (by kernel_rfl) rfl plain (by kernel_rfl)
end Go.Proofs.YtinkhkhacaehkaaDoor.fnExactWrites

namespace Go.Proofs.YtinkhkhacaehkaaDoor
theorem fnExactWritesUpto_card : Rows.FnExactWritesUptoCardSaid := fnExactWrites.card
#print axioms fnExactWritesUpto_card
end Go.Proofs.YtinkhkhacaehkaaDoor
