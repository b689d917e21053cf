/- 'FnNothingLost': without the padding the text of all cells is there. -/
import Derived.Test.YtinkhkhacaehkaaDoorCards
import Derived.Test.YtinkhkhacaehkaaDoorTie
import Derived.Test.YtinkhkhacaehkaaDoorVe
import Derived.Test.YtinkhkhacaehkaaDoorQt
import Derived.Test.YtinkhkhacaehkaaDoorQf
import Derived.WalkKit
import Derived.ProofKit
import Derived.OpenShut
import Derived.Deep.DeepHandedRow
import Derived.Deep.DeepWitnessRowRef
namespace Go.Proofs.YtinkhkhacaehkaaDoor
open Go.RowKit Go.Tw Go.Sort
set_option maxRecDepth 100000

set_option maxHeartbeats 4000000 in
theorem nothingLost_calls (w : World) (mn tb pd fl : Int) (ch : UInt8) {v : Value} {s : List UInt8} (h : Rd w v s) (hT : Lib.Utf8Tabs 0 1 w) :
    Calls Tryd.prog 11 #[.agg #[.int .i64 mn, .int .i64 tb, .int .i64 pd, .int .u8 ch.toNat, .int .i64 fl], v] w fun e w' => e = .returned (.bool true) ∧ Below w.heap.size w w' := by
  have L0 := Lib.hid (LS.start (mn := mn) (tb := tb) (pd := pd) (ch := ch) (fl := fl) h)
  have HT := Lib.hid hT
  obtain ⟨ao, cp, rfl, g1, g2⟩ := L0.out.shape
  obtain ⟨d0, d1, d2, d3, d4⟩ := L0.out.cells
  clear h hT
  by_cases hl : s.length ≤ 2147483647
  rotate_left
  · go_enter Tryd.func11, Tryd.ntmps11
    go_wp2_with fail
    go_ret
    exact ⟨rfl, L0.out.bel⟩
  go_enter Tryd.func11, Tryd.ntmps11
  go_wp2_with fail
  refine (spaces_calls _ mn tb pd fl ch L0.out.rd (Utf8Tabs_below HT.out L0.out.bel)).mono ?_
  rintro e w1 ⟨b, rfl, hb1, hfact⟩
  have L1 := Lib.hid (L0.out.step hb1)
  have HFA := Lib.hid hfact
  clear hb1 L0 d0 d1 d2 d3 d4 hfact
  cases b
  · go_wp2_with fail
    go_ret
    exact ⟨rfl, L1.out.bel⟩
  obtain ⟨m, t, p, f, rfl, rfl, rfl, rfl, l1, l2, l3, l4, hs, -, -, h16, h32, -⟩ := HFA.out rfl
  have H16 := Lib.hid h16
  have H32 := Lib.hid h32
  obtain ⟨d0, d1, d2, d3, d4⟩ := L1.out.cells
  have HF := Lib.hid (has_flag w1 m t p f l4 ch 32 (by simp))
  rw [h32] at HF
  clear HFA h16 h32
  go_wp2_with fail
  refine HF.out.mono ?_
  rintro e w2 ⟨rfl, hb2⟩
  have L3 := Lib.hid (L1.out.step hb2)
  clear L1 hb2 HF d0 d1 d2 d3 d4
  revert L3
  generalize w2 = w1
  intro L1
  obtain ⟨d0, d1, d2, d3, d4⟩ := L1.out.cells
  have k0 : ∀ (p' : Regrown), (grow (redrawn w1 p'.d) p'.os).cell? ⟨w.heap.size, 0, none⟩ = some (.int .i64 m) := fun p' => cell_regrown d0 p'.d p'.os
  have k1 : ∀ (p' : Regrown), (grow (redrawn w1 p'.d) p'.os).cell? ⟨w.heap.size, 1, none⟩ = some (.int .i64 t) := fun p' => cell_regrown d1 p'.d p'.os
  have k2 : ∀ (p' : Regrown), (grow (redrawn w1 p'.d) p'.os).cell? ⟨w.heap.size, 2, none⟩ = some (.int .i64 p) := fun p' => cell_regrown d2 p'.d p'.os
  have k3 : ∀ (p' : Regrown), (grow (redrawn w1 p'.d) p'.os).cell? ⟨w.heap.size, 3, none⟩ = some (.int .u8 ch.toNat) := fun p' => cell_regrown d3 p'.d p'.os
  have k4 : ∀ (p' : Regrown), (grow (redrawn w1 p'.d) p'.os).cell? ⟨w.heap.size, 4, none⟩ = some (.int .i64 f) := fun p' => cell_regrown d4 p'.d p'.os
  go_wp2_with fail
  refine wp_region_rf (fun w' => ∃ p' : Regrown, w' = grow (redrawn w1 p'.d) p'.os) [0, 1, 4, 5, 7, 8, 10, 11] [2, 3, 6, 9, 12, 13, 14] 6 [_, _, _, _, _, _, _, _] [_, _, _, _, _, _, _] (by kernel_rfl) (by kernel_rfl) rfl rfl (fun _ _ d _ _ h => by cases d <;> exact h) ⟨⟨w1.drawn + 1, #[]⟩, by rw [grow_empty]; rfl⟩ ?_
  iterate 8 (refine wpR_step rfl (fun K hK => ?_); go_simp; refine hK _ ?_; clear hK K)
  refine wpR_nil ?_
  clear k0 k1 k2 k3 k4 d0 d1 d2 d3 d4
  have L2 := Lib.hid L1.out.drew
  refine wpE_step rfl (fun K hK => ?_)
  go_simp
  refine hK _ _ (regrown_of_below (below_drawn ((Below.refl _ w1.drew).alloc (Nat.le_refl _) _))) ?_
  clear hK K
  refine wpE_step rfl (fun K hK => ?_)
  go_simp
  refine (write_one w1.drew m t p f l4 ch L2.out.rd (by omega) l1 l2 l3).mono ?_
  rintro e w6 ⟨v6, rfl, hr6, hb6⟩
  have hb16 := below_drawn hb6
  refine hK _ _ (regrown_of_below hb16) ?_
  clear hK K
  have L6 := Lib.hid (L1.out.step hb16)
  have hbo := format_bound m t p f ch l1 l2 l3 s hs
  refine wpE_step rfl (fun K hK => ?_)
  go_simp
  refine (without_calls w6 hr6 ch (by omega)).mono ?_
  rintro e w7 ⟨v7, rfl, hr7, hb7⟩
  have hb17 := hb16.trans (hb7.mono hb16.size)
  refine hK _ _ (regrown_of_below hb17) ?_
  clear hK K
  have L7 := Lib.hid (L6.out.step hb7)
  refine wpE_step rfl (fun K hK => ?_)
  go_simp
  refine (bare_calls w7 m t p f l4 ch L7.out.rd (by omega)).mono ?_
  rintro e w8 ⟨v8, rfl, hr8, hb8⟩
  have hb18 := hb17.trans (hb8.mono hb17.size)
  refine hK _ _ (regrown_of_below hb18) ?_
  clear hK K
  have hbb := bare_bound (cfgOf m t p f ch) s hs
  refine wpE_step rfl (fun K hK => ?_)
  go_simp
  refine (without_calls w8 hr8 ch (by omega)).mono ?_
  rintro e w9 ⟨v9, rfl, hr9, hb9⟩
  have hb19 := hb18.trans (hb9.mono hb18.size)
  refine hK _ _ (regrown_of_below hb19) ?_
  clear hK K
  have he : (formatO (cfgOf m t p f ch) s).filter (· != ch) = (bareO (cellsGo (cfgOf m t p f ch) ⟨[], 0, 0⟩ [] s)).filter (· != ch) := format_lost H16.out H32.out s
  have hSm := same_calls w9 ((hr7.below hb8).below hb9) hr9
  rw [decide_eq_true he] at hSm
  refine wpE_step rfl (fun K hK => ?_)
  go_simp
  refine hSm.mono ?_
  rintro e w10 ⟨rfl, rfl⟩
  refine hK _ _ (regrown_of_below hb19) ?_
  clear hK K
  refine wpE_zero ?_
  have L9 := Lib.hid ((L7.out.step hb8).step hb9)
  clear hb19 hb18 hb17 hb16 hSm hr6 hr7 hr8 hr9 hb6 hb7 hb8 hb9 he hbo hbb
  go_wp2_with fail
  go_ret
  exact ⟨rfl, L9.out.bel⟩
end Go.Proofs.YtinkhkhacaehkaaDoor

namespace Go.Proofs.YtinkhkhacaehkaaDoor.fnNothingLost
open Go.ChangeShapes Go.WideShapes Go.ChangeAt Go.RowKit
set_option maxRecDepth 100000

theorem own : ownKnob Tryd.prog.godebug = none := by kernel_rfl

theorem contract (H : Type) (enc : TypeId × Value → H) (W : World) (base : Nat) (args : Array Value) (ds gs : List (DataW H)) (before : List MemPlace)
    (hval : ∀ (j : Nat) t v, Tryd.f11.params[j]? = some t → args[j]? = some v → Value.okWide Tryd.prog W .any base t v)
    (hW : DataW.Whole enc Tryd.prog Tryd.f11.params.toList Rows.fnNothingLostSpec.vars false W args.toList ds gs before)
    (hL : laidMetH Tryd.prog Rows.fnNothingLostRow.laid W) :
    Calls Tryd.prog 11 args W fun e W' => ∃ v, e = .returned v ∧ Rows.fnNothingLostSpec.post enc Tryd.prog Tryd.f11 false true false false W args v W' := by
  have hW' := hW
  obtain ⟨p, q, hA0, hV, rfl, hfz, hnd⟩ := hW
  have hA : DataW.TrodAll enc Tryd.prog W 0 (fun _ => true) true Tryd.f11.params.toList args.toList ds p := hA0
  rw [Tryd.params11] at hA hval
  obtain ⟨v0, vs0, d0, ds0, p0, q0, hargs, rfl, rfl, h0, r0⟩ := trodAll_cons hA
  obtain ⟨v1, vs1, d1, ds1, p1, q1, rfl, rfl, rfl, h1, r1⟩ := trodAll_cons r0
  obtain ⟨rfl, rfl, rfl⟩ := trodAll_nil r1
  obtain rfl : args = #[v0, v1] := by cases args; simp_all
  obtain ⟨mn0, tb0, pd0, fl0, ch0, rfl⟩ := open_conf (hval 0 _ _ rfl rfl)
  obtain ⟨bs1, hrd1⟩ := open_rd (hval 1 _ _ rfl rfl) h1
  refine (nothingLost_calls W mn0 tb0 pd0 fl0 ch0 hrd1 (tabs_of hL)).mono fun e W' ⟨he, hb⟩ => ?_
  subst he
  refine ⟨_, rfl, law_post rfl ?_ (by kernel_rfl) ?_ hW' hb⟩
  · intro ds hds
    match ds, hds with
    | [a, b], _ => rfl
  · rw [Tryd.params11]
    intro t ht
    simp at ht
    rcases ht with rfl | rfl <;> exact of_decide_eq_true (by kernel_rfl)

theorem laid_met (os : Os) : laidMet Tryd.prog Rows.fnNothingLostRow.laid ((laidWorld os).forCall (fun _ _ => 0) ⟨#[], #[conf0, .slice none 0 0], []⟩).memory :=
  laidMet_of_run' 8 (by kernel_rfl) (by kernel_rfl)
theorem reads (os : Os) {H : Type} (enc : TypeId × Value → H) : ∃ places, DataW.whole enc Tryd.prog ((laidWorld os).forCall (fun _ _ => 0) ⟨#[], #[conf0, .slice none 0 0], []⟩).memory Tryd.f11.params.toList Rows.fnNothingLostSpec.vars false (#[conf0, .slice none 0 0] : Array Value).toList 8 = some ([.agg [.lit (.int .i64 0), .lit (.int .i64 0), .lit (.int .i64 0), .lit (.int .u8 0), .lit (.int .i64 0)], .nil], [], places) :=
  ⟨[], by kernel_rfl⟩

set_option maxRecDepth 100000 in
theorem lifted (os : Os) (started : os.Started) (H : Type) (enc : TypeId × Value → H) (F : Stop.Interp) :
    ReturnsInHanded {} Tryd.checked os 11 .any ((OpenSpec.ofChange Rows.fnNothingLostSpec).preRow enc Tryd.prog Tryd.f11 Rows.fnNothingLostRow.domain false Rows.fnNothingLostRow.laid) (((OpenSpec.ofChange Rows.fnNothingLostSpec).at F).post enc Tryd.prog Tryd.f11 false true false false) := by
  obtain ⟨places, hx⟩ := reads os enc
  refine returnsInHanded_of_row (C := Tryd.checked) (s := OpenSpec.ofChange Rows.fnNothingLostSpec) own started (by kernel_rfl) Tryd.func11
    (witness_row_at (enc := enc) (C := Tryd.checked) false (laidWorld os) #[conf0, .slice none 0 0] rfl (by kernel_rfl) (by kernel_rfl) (by kernel_rfl)
      (OpenSpec.preRow_of_cond 8 hx (by kernel_rfl) (fun k hk => by cases hk) (by kernel_rfl) (laid_met os))) ?_
  intro W base args ds gs before hval hW _ _ _ hL _ _
  exact contract H enc W base args ds gs before hval hW hL

theorem said : Rows.FnNothingLostSaid :=
  OpenClaim.holds_of_cond 11 Tryd.f11 rfl rfl rfl rfl rfl rfl rfl ⟨rfl, rfl, rfl, rfl, rfl⟩ rfl rfl rfl rfl rfl (by kernel_rfl) Tryd.func11 (by kernel_rfl)
    (of_decide_eq_true (by kernel_rfl)) (by unfold Func.isWrapper; first | (rw [if_pos (by decide +kernel)]; kernel_rfl) | (rw [if_neg (by decide +kernel)]; exact ⟨rfl, rfl⟩))
    (fun os started H enc _ F => by rw [OpenClaim.pre_eq_preRow]; exact lifted os started H enc F)

theorem plain (f : FuncId) (fn : Func) (hf : Tryd.pinned.checked.prog.funcNamed "loop.example/pub-tabcolumns/laws.FnNothingLost" = some f) (hfn : Tryd.pinned.checked.prog.funcs[f]? = some fn) :
    true = Tryd.pinned.checked.prog.looks [] ∧ ∀ (j : Nat) t, fn.params[j]? = some t → Tryd.pinned.checked.prog.wantsStandIn t = false := by
  obtain rfl : f = 11 := Option.some.inj ((show Tryd.prog.funcNamed "loop.example/pub-tabcolumns/laws.FnNothingLost" = some 11 by kernel_rfl).symm.trans hf) |>.symm
  obtain rfl : fn = Tryd.f11 := (Option.some.inj (Tryd.func11.symm.trans hfn)).symm
  refine ⟨by kernel_rfl, fun j t ht => ?_⟩
  rw [Tryd.params11] at ht
  have hm := Array.mem_of_getElem? ht
  simp at hm
  rcases hm with rfl | rfl
  · exact (show Tryd.prog.wantsStandIn 23 = false by kernel_rfl)
  · exact (show Tryd.prog.wantsStandIn 24 = false by kernel_rfl)

theorem card : Rows.FnNothingLostCardSaid :=
  Claim7.holds_tied_plain_at .later [] _ _ _ _ said (fun _ h => by cases h) (by kernel_rfl) (fun _ h => by cases h) fnNothingLost_row_tie rfl ⟨rfl, rfl⟩ (by kernel_rfl) rfl plain (by kernel_rfl)
end Go.Proofs.YtinkhkhacaehkaaDoor.fnNothingLost

namespace Go.Proofs.YtinkhkhacaehkaaDoor
theorem fnNothingLost_card : Rows.FnNothingLostCardSaid := fnNothingLost.card
#print axioms fnNothingLost_card
end Go.Proofs.YtinkhkhacaehkaaDoor
