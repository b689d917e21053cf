/- 'FnExactCounts': each write takes all its bytes, without an error. Condition: what the law reads (the set-up, the writes with their bytes) is of bulk at most 1048576. -/
import Derived.Test.YtbagbfmklpklmaaDoorCards
import Derived.Test.YtbagbfmklpklmaaDoorTie
import Derived.Test.YtbagbfmklpklmaaDoorWy
import Derived.Test.YtbagbfmklpklmaaDoorSc
import Derived.Test.YtbagbfmklpklmaaDoorSq
import Derived.Test.YtbagbfmklpklmaaDoorQc
import Derived.WalkKit
import Derived.ProofKit
import Derived.OpenShut
import Derived.Deep.DeepHandedRow
import Derived.Deep.DeepWitnessRowRef
namespace Go.Proofs.YtbagbfmklpklmaaDoor
open Go.RowKit Go.Tw Go.Sort
set_option maxRecDepth 100000

theorem Own.ints {F : Nat → Prop} {w : World} {v : Value} {n : Nat} {l : List Nat} (h : Own F w 3 1 v n (ivs l)) : ∃ ao cp, v = .slice ao n cp ∧ n = l.length ∧ ∀ j (hj : j < l.length), ∃ ad, ao = some ad ∧ ad.spot = none ∧ w.cell? ⟨ad.block, ad.off + j, none⟩ = some (.int .i64 (l[j] : Nat)) := by
  have hl : n = l.length := by have := h.row.1; simpa [ivs] using this.symm
  subst hl
  rcases h.row.2 with ⟨rfl, hn⟩ | ⟨g, cap, cur, rfl, _, hg, hc, hm, hs, ht⟩
  · exact ⟨none, 0, by rw [hn], rfl, fun j hj => by omega⟩
  · refine ⟨some ⟨g, 0, none⟩, cap, rfl, rfl, fun j hj => ⟨_, rfl, rfl, ?_⟩⟩
    simp only [World.cell?, hg, Nat.zero_add]
    have h2 : (ivs l)[j]? = some (.int .i64 (l[j] : Nat)) := by simp [ivs, hj]
    rw [← ht, List.getElem?_take, if_pos (by omega)] at h2
    simpa using h2

set_option maxHeartbeats 4000000 in
theorem exactCounts_calls (w : World) (mn tb pd fl : Int) (ch : UInt8) {v : Value} {bss : List (List UInt8)} (h : Wrs w v bss) (hb : bss.flatten.length + bss.length ≤ 1048576) :
    Calls Tryd.prog 10 #[.agg #[.int .i64 mn, .int .i64 tb, .int .i64 pd, .int .u8 ch.toNat, .int .i64 fl], v] w fun e w' => e = .returned (.bool true) ∧ Below w.heap.size w w' := by
  have hb0 : Below w.heap.size w (w.alloc (.cells #[.int .i64 mn, .int .i64 tb, .int .i64 pd, .int .u8 ch.toNat, .int .i64 fl] 23)) := (Below.refl _ w).alloc (Nat.le_refl _) _
  have hc0 : (w.alloc (.cells #[.int .i64 mn, .int .i64 tb, .int .i64 pd, .int .u8 ch.toNat, .int .i64 fl] 23)).heap[w.heap.size]? = some (.cells #[.int .i64 mn, .int .i64 tb, .int .i64 pd, .int .u8 ch.toNat, .int .i64 fl] 23 (0, 0)) := heap_alloc_new w _
  have hr0 := h.below hb0
  obtain ⟨s, hgs⟩ : ∃ s, s = bss.flatten := ⟨_, rfl⟩
  have HGS := Lib.hid hgs
  clear hgs
  have HB0 := Lib.hid hb0
  have HC0 := Lib.hid hc0
  have HR0 := Lib.hid hr0
  have HFI := Lib.hid (fits_calls _ hr0 (by omega))
  obtain ⟨ao, cp, rfl, hbl, -⟩ := h.val
  obtain ⟨d0, d1, d2, d3, d4⟩ := conf_at hc0
  have hV := valid_calls (w.alloc (.cells #[.int .i64 mn, .int .i64 tb, .int .i64 pd, .int .u8 ch.toNat, .int .i64 fl] 23)) mn tb pd fl ch
  clear hb0 hr0 hc0 h
  by_cases hv : Vld mn tb pd fl
  · rw [decide_eq_true hv] at hV
    have HV := Lib.hid hV
    have HVV := Lib.hid hv
    clear hV hv
    go_enter Tryd.func10, Tryd.ntmps10
    go_wp2_with fail
    refine HFI.out.mono ?_
    rintro e w1 ⟨rfl, rfl⟩
    clear HFI
    go_wp2_with fail
    refine HV.out.mono ?_
    rintro e w2 ⟨rfl, hb2⟩
    have HW2 := Lib.hid (HR0.out.below hb2)
    have HC2 := Lib.hid ((Tch.of_below (F := fun _ => False) hb2).heap HC0.out id)
    have HB2 := Lib.hid (HB0.out.trans (hb2.mono HB0.out.size))
    clear hb2 HB0 HC0 HR0 HV d0 d1 d2 d3 d4
    go_wp2_with fail
    refine (joined_calls _ HW2.out (by omega)).mono ?_
    rintro e w4 ⟨v4, rfl, hr4, hb4⟩
    rw [← HGS.out] at hr4
    have HW4 := Lib.hid (HW2.out.below hb4)
    have HC4 := Lib.hid ((Tch.of_below (F := fun _ => False) hb4).heap HC2.out id)
    have HB4 := Lib.hid (HB2.out.trans (hb4.mono HB2.out.size))
    have hS := small_calls w4 hr4
    obtain ⟨a4, p4, rfl, -⟩ := hr4.val
    clear hr4 hb4 HW2 HC2 HB2
    by_cases hs : s.length ≤ 3000
    · rw [decide_eq_true hs] at hS
      have HS := Lib.hid hS
      clear hS
      go_wp2_with fail
      refine HS.out.mono ?_
      rintro e w5 ⟨rfl, rfl⟩
      clear HS
      have HVN := Lib.hid (show ∃ (m t p f : Nat), mn = m ∧ tb = t ∧ pd = p ∧ fl = f ∧ m ≤ 1000 ∧ t ≤ 1000 ∧ p ≤ 1000 ∧ f < 64 by
        have hv := HVV.out
        unfold Vld at hv
        exact ⟨mn.toNat, tb.toNat, pd.toNat, fl.toNat, by omega, by omega, by omega, by omega, by omega, by omega, by omega, by omega⟩)
      obtain ⟨m, t, p, f, rfl, rfl, rfl, rfl, l1, l2, l3, l4⟩ := HVN.out
      clear HVN HVV
      obtain ⟨d0, d1, d2, d3, d4⟩ := conf_at HC4.out
      go_wp2_with fail
      refine (implCounts_calls (w := w4) m t p f ch l1 l2 l3 l4 HW4.out (by rw [← HGS.out]; omega) (by omega)).mono ?_
      rintro e w6 ⟨v6, rfl, ho6, hb6⟩
      have HB6 := Lib.hid (HB4.out.trans (hb6.mono HB4.out.size))
      have HW6 := Lib.hid (HW4.out.below hb6)
      obtain ⟨a6, p6, rfl, -, c6⟩ := Own.ints ho6
      have HI6 := Lib.hid (show ∀ j (hj : j < bss.length), ∃ ad, a6 = some ad ∧ ad.spot = none ∧ w6.cell? ⟨ad.block, ad.off + j, none⟩ = some (.int .i64 (bss[j].length : Nat)) from fun j hj => by
        have := c6 j (by simpa using hj)
        simpa using this)
      obtain ⟨ao', cp', e', -, hcw⟩ := HW6.out.val
      simp only [Value.slice.injEq] at e'
      obtain ⟨rfl, -, rfl⟩ := e'
      have HCW := Lib.hid hcw
      clear ho6 hb6 c6 hcw HC4 HB4 HW4 HW6 d0 d1 d2 d3 d4
      go_wp2_with fail
      go_loopw [29] (fun t29 wr => ∃ j : Nat, j ≤ bss.length ∧ t29 = .int .i64 j ∧ wr = w6) (fun t29 _ => bss.length - (intOf t29).toNat)
      case atStart => exact ⟨0, Nat.zero_le _, rfl, rfl⟩
      case round =>
        obtain ⟨j, hj, rfl, rfl⟩ := hrel
        by_cases hlt : j < bss.length
        · obtain ⟨ad, rfl, hsp, hci⟩ := HI6.out j hlt
          obtain ⟨k1, o1, sp1⟩ := ad
          simp only at hsp hci
          subst hsp
          obtain ⟨ad, u, rfl, hsp, hcu, hru⟩ := HCW.out j hlt
          obtain ⟨k0, o0, sp0⟩ := ad
          simp only at hsp hcu
          subst hsp
          obtain ⟨au, cu, rfl⟩ : ∃ au cu, u = .slice au bss[j].length cu := hru.shape
          clear hru
          generalize bss[j].length = n at hci hcu
          go_wp2_with fail
          go_roundw
          case rel => exact ⟨j + 1, by omega, by go_num, by first | trivial | rfl⟩
          case measure => simp [intOf]; omega
        · obtain rfl : j = bss.length := by omega
          go_wp2_with fail
          go_ret
          exact ⟨rfl, HB6.out⟩
    · rw [decide_eq_false hs] at hS
      have HS := Lib.hid hS
      clear hS hs
      go_wp2_with fail
      refine HS.out.mono ?_
      rintro e w5 ⟨rfl, rfl⟩
      go_wp2_with fail
      go_ret
      exact ⟨rfl, HB4.out⟩
  · rw [decide_eq_false hv] at hV
    have HV := Lib.hid hV
    clear hV hv
    go_enter Tryd.func10, Tryd.ntmps10
    go_wp2_with fail
    refine HFI.out.mono ?_
    rintro e w1 ⟨rfl, rfl⟩
    go_wp2_with fail
    refine HV.out.mono ?_
    rintro e w4 ⟨rfl, hb4⟩
    have HB4 := Lib.hid (HB0.out.trans (hb4.mono HB0.out.size))
    clear hb4
    go_wp2_with fail
    go_ret
    exact ⟨rfl, HB4.out⟩
end Go.Proofs.YtbagbfmklpklmaaDoor

namespace Go.Proofs.YtbagbfmklpklmaaDoor.fnExactCounts
open Go.ChangeShapes Go.WideShapes Go.ChangeAt Go.RowKit

theorem own : ownKnob Tryd.prog.godebug = none := by kernel_rfl

theorem contract (H : Type) (enc : TypeId × Value → H) (W : World) (base : Nat) (args : Array Value) (ds gs : List (DataW H)) (before : List MemPlace)
    (hval : ∀ (j : Nat) t v, Tryd.f10.params[j]? = some t → args[j]? = some v → Value.okWide Tryd.prog W .any base t v)
    (hW : DataW.Whole enc Tryd.prog Tryd.f10.params.toList Rows.fnExactCountsSpec.vars false W args.toList ds gs before)
    (hk : Rows.uptoBulkAll (ds ++ gs) ≤ 1048576) :
    Calls Tryd.prog 10 args W fun e W' => ∃ v, e = .returned v ∧ Rows.fnExactCountsSpec.post enc Tryd.prog Tryd.f10 false true false false W args v W' := by
  have hW' := hW
  obtain ⟨p, q, hA0, hV, rfl, hfz, hnd⟩ := hW
  have hA : DataW.TrodAll enc Tryd.prog W 0 (fun _ => true) true Tryd.f10.params.toList args.toList ds p := hA0
  rw [Tryd.params10] at hA hval
  obtain ⟨v0, vs0, d0, ds0, p0, q0, hargs, rfl, rfl, h0, r0⟩ := trodAll_cons hA
  obtain ⟨v1, vs1, d1, ds1, p1, q1, rfl, rfl, rfl, h1, r1⟩ := trodAll_cons r0
  obtain ⟨rfl, rfl, rfl⟩ := trodAll_nil r1
  obtain rfl : args = #[v0, v1] := by cases args; simp_all
  obtain ⟨mn0, tb0, pd0, fl0, ch0, rfl⟩ := open_conf (hval 0 _ _ rfl rfl)
  obtain ⟨bss1, hrd1, hbk1⟩ := open_wrs (hval 1 _ _ rfl rfl) h1
  simp only [List.cons_append, List.nil_append, Rows.uptoBulkAll] at hk
  refine (exactCounts_calls W mn0 tb0 pd0 fl0 ch0 hrd1 (by omega)).mono fun e W' ⟨he, hb⟩ => ?_
  subst he
  refine ⟨_, rfl, law_post rfl ?_ (by kernel_rfl) ?_ hW' hb⟩
  · intro ds hds
    match ds, hds with
    | [a, b], _ => rfl
  · rw [Tryd.params10]
    intro t ht
    simp at ht
    rcases ht with rfl | rfl <;> exact of_decide_eq_true (by kernel_rfl)

noncomputable def low : Nat := (World.holding Tryd.prog default ⟨#[], #[], []⟩).heap.size
noncomputable def laidWorld (os : Os) : World :=
  let w0 := World.holding Tryd.prog os ⟨#[.cells #[.string ⟨#[115, 104, 111, 114, 116, 32, 119, 114, 105, 116, 101]⟩] 114], #[], []⟩
  { w0 with heap := w0.heap.modify 0 fun
      | .cells _ t frozen => .cells #[.iface 96 (.pointer (some ⟨low, 0, none⟩))] t frozen
      | o => o }
def conf0 : Value := .agg #[.int .i64 0, .int .i64 0, .int .i64 0, .int .u8 0, .int .i64 0]
theorem laid_met (os : Os) : laidMet Tryd.prog Rows.fnExactCountsUptoRow.laid ((laidWorld os).forCall (fun _ _ => 0) ⟨#[], #[conf0, .slice none 0 0], []⟩).memory :=
  laidMet_of_run (ps := [.cell 0 0, .cell low 0]) 8 (by kernel_rfl) (by kernel_rfl) (by kernel_rfl)
theorem reads (os : Os) {H : Type} (enc : TypeId × Value → H) : ∃ places, DataW.whole enc Tryd.prog ((laidWorld os).forCall (fun _ _ => 0) ⟨#[], #[conf0, .slice none 0 0], []⟩).memory Tryd.f10.params.toList Rows.fnExactCountsSpec.vars false (#[conf0, .slice none 0 0] : Array Value).toList 8 = some ([.agg [.lit (.int .i64 0), .lit (.int .i64 0), .lit (.int .i64 0), .lit (.int .u8 0), .lit (.int .i64 0)], .nil], [], places) :=
  ⟨[], by kernel_rfl⟩

set_option maxRecDepth 100000 in
theorem lifted (os : Os) (started : os.Started) (H : Type) (enc : TypeId × Value → H) (F : Stop.Interp) :
    ReturnsInHanded {} Tryd.checked os 10 .any ((Rows.OpenSpec.upto Rows.fnExactCountsSpec).preRow enc Tryd.prog Tryd.f10 Rows.fnExactCountsUptoRow.domain false Rows.fnExactCountsUptoRow.laid) (((Rows.OpenSpec.upto Rows.fnExactCountsSpec).at F).post enc Tryd.prog Tryd.f10 false true false false) := by
  obtain ⟨places, hx⟩ := reads os enc
  refine returnsInHanded_of_row (C := Tryd.checked) (s := Rows.OpenSpec.upto Rows.fnExactCountsSpec) own started (by kernel_rfl) Tryd.func10
    (witness_row_at (enc := enc) (C := Tryd.checked) false (laidWorld os) #[conf0, .slice none 0 0] rfl (by kernel_rfl) (by kernel_rfl) (by kernel_rfl)
      (OpenSpec.preRow_of_cond 8 hx (by kernel_rfl) (fun k hk => by cases hk; kernel_rfl) (by kernel_rfl) (laid_met os))) ?_
  intro W base args ds gs before hval hW _ hcond _ hL _ _
  exact contract H enc W base args ds gs before hval hW (of_decide_eq_true (hcond _ rfl))

theorem said : Rows.FnExactCountsUptoSaid :=
  OpenClaim.holds_of_cond 10 Tryd.f10 rfl rfl rfl rfl rfl rfl rfl ⟨rfl, rfl, rfl, rfl, rfl⟩ rfl rfl rfl rfl rfl (by kernel_rfl) Tryd.func10 (by kernel_rfl)
    (of_decide_eq_true (by kernel_rfl)) (by unfold Func.isWrapper; first | (rw [if_pos (by decide +kernel)]; kernel_rfl) | (rw [if_neg (by decide +kernel)]; exact ⟨rfl, rfl⟩))
    (fun os started H enc _ F => by rw [OpenClaim.pre_eq_preRow]; exact lifted os started H enc F)

theorem plain (f : FuncId) (fn : Func) (hf : Tryd.pinned.checked.prog.funcNamed "loop.example/pub-tabcolumns/laws.FnExactCounts" = some f) (hfn : Tryd.pinned.checked.prog.funcs[f]? = some fn) :
    true = Tryd.pinned.checked.prog.looks [] ∧ ∀ (j : Nat) t, fn.params[j]? = some t → Tryd.pinned.checked.prog.wantsStandIn t = false := by
  obtain rfl : f = 10 := Option.some.inj ((show Tryd.prog.funcNamed "loop.example/pub-tabcolumns/laws.FnExactCounts" = some 10 by kernel_rfl).symm.trans hf) |>.symm
  obtain rfl : fn = Tryd.f10 := (Option.some.inj (Tryd.func10.symm.trans hfn)).symm
  refine ⟨by kernel_rfl, fun j t ht => ?_⟩
  rw [Tryd.params10] at ht
  have hm := Array.mem_of_getElem? ht
  simp at hm
  rcases hm with rfl | rfl
  · exact (show Tryd.prog.wantsStandIn 23 = false by kernel_rfl)
  · exact (show Tryd.prog.wantsStandIn 24 = false by kernel_rfl)

theorem card : Rows.FnExactCountsUptoCardSaid :=
  Claim7.holds_tied_plain_at .later [] _ _ _ _ said (fun _ h => by cases h) (by kernel_rfl) (fun _ h => by cases h) fnExactCountsUpto_row_tie rfl ⟨rfl, rfl⟩ (by kernel_rfl) rfl plain (by kernel_rfl)
end Go.Proofs.YtbagbfmklpklmaaDoor.fnExactCounts

namespace Go.Proofs.YtbagbfmklpklmaaDoor
theorem fnExactCountsUpto_card : Rows.FnExactCountsUptoCardSaid := fnExactCounts.card
#print axioms fnExactCountsUpto_card
end Go.Proofs.YtbagbfmklpklmaaDoor
