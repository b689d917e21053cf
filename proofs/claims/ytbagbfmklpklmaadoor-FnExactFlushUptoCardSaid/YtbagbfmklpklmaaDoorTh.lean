/- 'FnExactFlush': flushed behind each write, each is aligned alone. Condition: what the law reads (the set-up, the writes with their bytes) is of bulk at most 1048576. -/
import Derived.Test.YtbagbfmklpklmaaDoorCards
import Derived.Test.YtbagbfmklpklmaaDoorTie
import Derived.Test.YtbagbfmklpklmaaDoorSp
import Derived.Test.YtbagbfmklpklmaaDoorPe
import Derived.Test.YtbagbfmklpklmaaDoorWx
import Derived.Test.YtbagbfmklpklmaaDoorQc
import Derived.WalkKit
import Derived.ProofKit
import Derived.OpenShut
import Derived.Deep.DeepHandedRow
import Derived.Deep.DeepWitnessRowRef
namespace Go.Proofs.YtbagbfmklpklmaaDoor
open Go.RowKit Go.Tw Go.Sort
set_option maxRecDepth 100000

theorem small_len (w : World) (ao : Option Addr) (n cp : Nat) (hn : n ≤ 9223372036854775807) : Calls Tryd.prog 14 #[.slice ao n cp] w fun e w' => e = .returned (.bool (decide (n ≤ 3000))) ∧ w = w' := by
  go_enter Tryd.func14, Tryd.ntmps14
  go_wp2
  go_ret
  exact ⟨by simp; omega, rfl⟩
theorem flatten_le (k : Nat) : ∀ bss : List (List UInt8), (∀ b ∈ bss, b.length ≤ k) → bss.flatten.length ≤ k * bss.length := by
  intro bss
  induction bss with
  | nil => intro _; simp
  | cons b bss ih =>
    intro h
    have h1 := h b (by simp)
    have h2 := ih (fun x hx => h x (by simp [hx]))
    rw [List.flatten_cons, List.length_append, List.length_cons, Nat.mul_add]
    omega

def FlRel (w0 : World) (bss : List (List UInt8)) (c : Cfg) (t5 t16 : Value) (wr : World) : Prop :=
  ∃ (j n : Nat) (v5 : Value) (pre : List UInt8), v5 = t5 ∧ j ≤ bss.length ∧ t16 = .int .i64 j ∧ pre = (bss.take j).flatMap (outOf c) ∧ n = pre.length ∧ Own (New w0) wr 5 1 v5 n (bvs pre) ∧ Tch (New w0) w0 wr ∧ ∀ b ∈ bss.take j, b.length ≤ 3000

set_option maxHeartbeats 4000000 in
theorem exactFlush_calls (w : World) (mn tb pd fl : Int) (ch : UInt8) {v : Value} {bss : List (List UInt8)} (h : Wrs w v bss) (hb : bss.flatten.length + bss.length ≤ 1048576) :
    Calls Tryd.prog 6 #[.agg #[.int .i64 mn, .int .i64 tb, .int .i64 pd, .int .u8 ch.toNat, .int .i64 fl], v] w fun e w' => e = .returned (.bool true) ∧ Below w.heap.size w w' := by
  have hb0 : Below w.heap.size w (w.alloc (.cells #[.int .i64 mn, .int .i64 tb, .int .i64 pd, .int .u8 ch.toNat, .int .i64 fl] 23)) := (Below.refl _ w).alloc (Nat.le_refl _) _
  have hc0 : (w.alloc (.cells #[.int .i64 mn, .int .i64 tb, .int .i64 pd, .int .u8 ch.toNat, .int .i64 fl] 23)).heap[w.heap.size]? = some (.cells #[.int .i64 mn, .int .i64 tb, .int .i64 pd, .int .u8 ch.toNat, .int .i64 fl] 23 (0, 0)) := heap_alloc_new w _
  have hr0 := h.below hb0
  have HB0 := Lib.hid hb0
  have HC0 := Lib.hid hc0
  have HR0 := Lib.hid hr0
  have HFI := Lib.hid (fits_calls _ hr0 (by omega))
  have HBK := Lib.hid hb
  obtain ⟨ao, cp, rfl, hbl, -⟩ := h.val
  obtain ⟨d0, d1, d2, d3, d4⟩ := conf_at hc0
  have hV := valid_calls (w.alloc (.cells #[.int .i64 mn, .int .i64 tb, .int .i64 pd, .int .u8 ch.toNat, .int .i64 fl] 23)) mn tb pd fl ch
  have hN : bss.length ≤ 1048576 := by omega
  clear hb0 hr0 hc0 h hb
  by_cases hv : Vld mn tb pd fl
  · rw [decide_eq_true hv] at hV
    have HV := Lib.hid hV
    have HVV := Lib.hid hv
    clear hV hv
    go_enter Tryd.func6, Tryd.ntmps6
    go_wp2_with fail
    refine HFI.out.mono ?_
    rintro e w1 ⟨rfl, rfl⟩
    clear HFI
    go_wp2_with fail
    refine HV.out.mono ?_
    rintro e w2 ⟨rfl, hb2⟩
    have HW2 := Lib.hid (HR0.out.below hb2)
    have HC2 := Lib.hid ((Tch.of_below (F := fun _ => False) hb2).heap HC0.out id)
    have HZ2 := Lib.hid (show w.heap.size < w2.heap.size by have := hb2.size; simp at this; omega)
    have HB2 := Lib.hid (HB0.out.trans (hb2.mono HB0.out.size))
    clear hb2 HB0 HC0 HR0 HV d0 d1 d2 d3 d4
    have HVN := Lib.hid (show ∃ (m t p f : Nat), mn = m ∧ tb = t ∧ pd = p ∧ fl = f ∧ m ≤ 1000 ∧ t ≤ 1000 ∧ p ≤ 1000 ∧ f < 64 by
      have hv := HVV.out
      unfold Vld at hv
      exact ⟨mn.toNat, tb.toNat, pd.toNat, fl.toNat, by omega, by omega, by omega, by omega, by omega, by omega, by omega, by omega⟩)
    obtain ⟨m, t, p, f, rfl, rfl, rfl, rfl, l1, l2, l3, l4⟩ := HVN.out
    have HVV2 : Hid (∀ w', Calls Tryd.prog 13 #[.agg #[.int .i64 m, .int .i64 t, .int .i64 p, .int .u8 ch.toNat, .int .i64 f]] w' fun e w'' => e = .returned (.bool true) ∧ Below w'.heap.size w' w'') := Lib.hid (fun w' => by have := valid_calls w' m t p f ch; rwa [decide_eq_true HVV.out] at this)
    have HG0 := Lib.hid (show Good2 (cfgOf m t p f ch) (St.new []) 0 from Good2.new _ (by decide : (-1 : Int) < 0) l1 l2 l3)
    clear HVN HVV
    obtain ⟨ao', cp', e', -, hcw⟩ := HW2.out.val
    simp only [Value.slice.injEq] at e'
    obtain ⟨rfl, -, rfl⟩ := e'
    have HCW := Lib.hid hcw
    clear hcw
    go_wp2_with fail
    go_loopw [5, 16] (fun t5 t16 wr => FlRel w2 bss (cfgOf m t p f ch) t5 t16 wr) (fun _ t16 _ => bss.length - (intOf t16).toNat)
    case atStart => exact ⟨0, 0, _, [], rfl, Nat.zero_le _, rfl, rfl, rfl, Own.nil _ _ _ _, Tch.refl _ _, fun b hb => by simp at hb⟩
    case round =>
      obtain ⟨j, n, v5, pre, rfl, hj, rfl, hpre, rfl, hown, tt, hall⟩ := hrel
      have HPRE := Lib.hid hpre
      have HALL := Lib.hid hall
      have hfl := take_flatten_le (bss := bss) j
      have hpl : pre.length ≤ 16000000 * ((bss.take j).flatten.length + (bss.take j).length) := by
        rw [hpre]
        exact flatMap_len _ (fun b hb => outOf_le HG0.out b (by have := hall b hb; omega))
      have hpl2 : pre.length ≤ 20000000000000 := by
        have h1 := HBK.out
        have h2 : (bss.take j).length ≤ bss.length := by rw [List.length_take]; omega
        omega
      clear hpre hall hpl hfl
      have HO := Lib.hid hown
      have T := Lib.hid tt
      clear hown tt
      have hcr := T.out.heap HC2.out (show ¬ New w2 w.heap.size from fun h => absurd HZ2.out (Nat.not_lt.2 h))
      have HCR := Lib.hid hcr
      obtain ⟨d0, d1, d2, d3, d4⟩ := conf_at hcr
      clear hcr
      by_cases hlt : j < bss.length
      · obtain ⟨ad, u, rfl, hsp, hcu, hru⟩ := HCW.out j hlt
        obtain ⟨k0, o0, sp0⟩ := ad
        simp only at hsp hcu
        subst hsp
        have hcu2 : wr.cell? ⟨k0, o0 + j, none⟩ = some u := T.out.cell hcu (fun h => absurd (block_lt_of_cell hcu) (Nat.not_lt.2 h))
        have hru2 : Rw wr u bss[j] := hru.below (New.below T.out)
        obtain ⟨au, cu, rfl⟩ : ∃ au cu, u = .slice au bss[j].length cu := hru.shape
        have HRU := Lib.hid hru2
        clear hru hru2 hcu
        have HTK := Lib.hid (show (bss.take (j + 1)).flatMap (outOf (cfgOf m t p f ch)) = (bss.take j).flatMap (outOf (cfgOf m t p f ch)) ++ outOf (cfgOf m t p f ch) bss[j] by
          rw [List.take_succ_eq_append_getElem hlt, List.flatMap_append]; simp)
        have HTM := Lib.hid (show ∀ x, x ∈ bss.take (j + 1) → x ∈ bss.take j ∨ x = bss[j] by
          intro x hx
          rw [List.take_succ_eq_append_getElem hlt] at hx
          rcases List.mem_append.1 hx with h | h
          · exact .inl h
          · exact .inr (List.mem_singleton.1 h))
        have hbl2 : bss[j].length ≤ 1048576 := by have := mem_flatten_le (List.getElem_mem hlt); have := HBK.out; omega
        generalize bss[j] = b at HRU HTK HTM hcu2 hbl2
        have HVW := Lib.hid (HVV2.out wr)
        go_wp2_with fail
        refine HVW.out.mono ?_
        rintro e w3 ⟨rfl, hb3⟩
        have HR3 := Lib.hid (HRU.out.below hb3)
        have HC3 := Lib.hid ((Tch.of_below (F := fun _ => False) hb3).heap HCR.out id)
        have HO3 := Lib.hid (HO.out.kept (Tch.of_below (F := fun _ => False) hb3) (fun _ _ => id))
        have T3 := Lib.hid (T.out.trans (Tch.of_below hb3))
        clear hb3 HVW HRU HCR HO T d0 d1 d2 d3 d4
        have hS := small_len w3 au b.length cu (by omega)
        by_cases hs : b.length ≤ 3000
        · rw [decide_eq_true hs] at hS
          have HS := Lib.hid hS
          clear hS
          go_wp2_with fail
          refine HS.out.mono ?_
          rintro e w4 ⟨rfl, rfl⟩
          clear HS
          obtain ⟨d0, d1, d2, d3, d4⟩ := conf_at HC3.out
          go_wp2_with fail
          refine (format_callsW w3 m t p f l4 ch HR3.out hs l1 l2 l3).mono ?_
          rintro e w5 ⟨v5', rfl, hr5, hb5⟩
          rw [← out_format] at hr5
          have hol := outOf_le HG0.out b (by omega)
          have ho5 := HO3.out.kept (Tch.of_below (F := fun _ => False) hb5) (fun _ _ => id)
          have t5 := T3.out.trans (Tch.of_below hb5)
          obtain ⟨v6, w6, hrun, ho6, ht6, -⟩ := run_append_rd (F := New w2) (fun k hk => Nat.le_trans t5.size hk) ho5 hr5 (by omega) 26
          have HRUN := Lib.hid hrun
          have HO6 := Lib.hid ho6
          have T6 := Lib.hid (t5.trans (ht6.mono (fun g e => ho5.mem g e)))
          obtain ⟨a5, c5, rfl, -⟩ := hr5.val
          clear hrun ho6 ht6 ho5 t5 hr5 hb5 hol
          go_wp2_with (at_builtin; refine wpList_append_eq rfl (.tmp 28) (.tmp 31) 26 rfl rfl rfl HRUN.out ?_)
          go_roundw
          case rel =>
            have R : FlRel w2 bss (cfgOf m t p f ch) v6 (.int .i64 ((j : Int) + 1)) w6 := ⟨j + 1, _, _, pre ++ outOf (cfgOf m t p f ch) b, rfl, by omega, by go_num, by rw [HTK.out, HPRE.out], by rw [List.length_append], HO6.out, T6.out, fun x hx => by
              rcases HTM.out x hx with h | rfl
              · exact HALL.out x h
              · exact hs⟩
            first | exact R | ((repeat apply Exists.intro); exact ⟨R, rfl⟩)
          case measure => simp [intOf]; omega
        · rw [decide_eq_false hs] at hS
          have HS := Lib.hid hS
          clear hS hs
          go_wp2_with fail
          refine HS.out.mono ?_
          rintro e w4 ⟨rfl, rfl⟩
          go_wp2_with fail
          go_ret
          exact ⟨rfl, HB2.out.trans ((New.below T3.out).mono HB2.out.size)⟩
      · obtain rfl : j = bss.length := by omega
        have HBR := Lib.hid (HB2.out.trans ((New.below T.out).mono HB2.out.size))
        by_cases h100 : bss.length ≤ 100
        · have htot : bss.flatten.length + bss.length ≤ 1000000 := by
            have h1 := flatten_le 3000 bss (fun b hb => HALL.out b (by rw [List.take_length]; exact hb))
            omega
          have HWR := Lib.hid (HW2.out.below (New.below T.out))
          have HTOT := Lib.hid htot
          clear htot
          go_wp2_with fail
          refine (implFlush_calls (w := wr) m t p f ch l1 l2 l3 l4 HWR.out HTOT.out).mono ?_
          rintro e w6 ⟨v6, rfl, hr6, hb6⟩
          have hp := HPRE.out
          rw [List.take_length] at hp
          rw [show bss.flatMap (outOf ⟨m, t, p, ch, keepFl ch f, -1⟩) = pre from hp.symm] at hr6
          have hown6 := HO.out.kept (Tch.of_below (F := fun _ => False) hb6) (fun _ _ => id)
          have hSm := same_calls w6 hr6 (Own.rd hown6)
          rw [decide_eq_true rfl] at hSm
          have HSM := Lib.hid hSm
          have HB6 := Lib.hid (HBR.out.trans (hb6.mono HBR.out.size))
          clear hSm hr6 hb6 hown6 hp
          go_wp2_with fail
          refine HSM.out.mono ?_
          rintro e w8 ⟨rfl, rfl⟩
          go_wp2_with fail
          go_ret
          exact ⟨rfl, HB6.out⟩
        · go_wp2_with fail
          go_ret
          exact ⟨rfl, HBR.out⟩
  · rw [decide_eq_false hv] at hV
    have HV := Lib.hid hV
    clear hV hv
    go_enter Tryd.func6, Tryd.ntmps6
    go_wp2_with fail
    refine HFI.out.mono ?_
    rintro e w1 ⟨rfl, rfl⟩
    go_wp2_with fail
    refine HV.out.mono ?_
    rintro e w4 ⟨rfl, hb4⟩
    have HB4 := Lib.hid (HB0.out.trans (hb4.mono HB0.out.size))
    clear hb4
    go_wp2_with fail
    go_ret
    exact ⟨rfl, HB4.out⟩
end Go.Proofs.YtbagbfmklpklmaaDoor

namespace Go.Proofs.YtbagbfmklpklmaaDoor.fnExactFlush
open Go.ChangeShapes Go.WideShapes Go.ChangeAt Go.RowKit

theorem own : ownKnob Tryd.prog.godebug = none := by kernel_rfl

theorem contract (H : Type) (enc : TypeId × Value → H) (W : World) (base : Nat) (args : Array Value) (ds gs : List (DataW H)) (before : List MemPlace)
    (hval : ∀ (j : Nat) t v, Tryd.f6.params[j]? = some t → args[j]? = some v → Value.okWide Tryd.prog W .any base t v)
    (hW : DataW.Whole enc Tryd.prog Tryd.f6.params.toList Rows.fnExactFlushSpec.vars false W args.toList ds gs before)
    (hk : Rows.uptoBulkAll (ds ++ gs) ≤ 1048576) :
    Calls Tryd.prog 6 args W fun e W' => ∃ v, e = .returned v ∧ Rows.fnExactFlushSpec.post enc Tryd.prog Tryd.f6 false true false false W args v W' := by
  have hW' := hW
  obtain ⟨p, q, hA0, hV, rfl, hfz, hnd⟩ := hW
  have hA : DataW.TrodAll enc Tryd.prog W 0 (fun _ => true) true Tryd.f6.params.toList args.toList ds p := hA0
  rw [Tryd.params6] at hA hval
  obtain ⟨v0, vs0, d0, ds0, p0, q0, hargs, rfl, rfl, h0, r0⟩ := trodAll_cons hA
  obtain ⟨v1, vs1, d1, ds1, p1, q1, rfl, rfl, rfl, h1, r1⟩ := trodAll_cons r0
  obtain ⟨rfl, rfl, rfl⟩ := trodAll_nil r1
  obtain rfl : args = #[v0, v1] := by cases args; simp_all
  obtain ⟨mn0, tb0, pd0, fl0, ch0, rfl⟩ := open_conf (hval 0 _ _ rfl rfl)
  obtain ⟨bss1, hrd1, hbk1⟩ := open_wrs (hval 1 _ _ rfl rfl) h1
  simp only [List.cons_append, List.nil_append, Rows.uptoBulkAll] at hk
  refine (exactFlush_calls W mn0 tb0 pd0 fl0 ch0 hrd1 (by omega)).mono fun e W' ⟨he, hb⟩ => ?_
  subst he
  refine ⟨_, rfl, law_post rfl ?_ (by kernel_rfl) ?_ hW' hb⟩
  · intro ds hds
    match ds, hds with
    | [a, b], _ => rfl
  · rw [Tryd.params6]
    intro t ht
    simp at ht
    rcases ht with rfl | rfl <;> exact of_decide_eq_true (by kernel_rfl)

noncomputable def low : Nat := (World.holding Tryd.prog default ⟨#[], #[], []⟩).heap.size
noncomputable def laidWorld (os : Os) : World :=
  let w0 := World.holding Tryd.prog os ⟨#[.cells #[.string ⟨#[115, 104, 111, 114, 116, 32, 119, 114, 105, 116, 101]⟩] 114], #[], []⟩
  { w0 with heap := w0.heap.modify 0 fun
      | .cells _ t frozen => .cells #[.iface 96 (.pointer (some ⟨low, 0, none⟩))] t frozen
      | o => o }
def conf0 : Value := .agg #[.int .i64 0, .int .i64 0, .int .i64 0, .int .u8 0, .int .i64 0]
theorem laid_met (os : Os) : laidMet Tryd.prog Rows.fnExactFlushUptoRow.laid ((laidWorld os).forCall (fun _ _ => 0) ⟨#[], #[conf0, .slice none 0 0], []⟩).memory :=
  laidMet_of_run (ps := [.cell 0 0, .cell low 0]) 8 (by kernel_rfl) (by kernel_rfl) (by kernel_rfl)
theorem reads (os : Os) {H : Type} (enc : TypeId × Value → H) : ∃ places, DataW.whole enc Tryd.prog ((laidWorld os).forCall (fun _ _ => 0) ⟨#[], #[conf0, .slice none 0 0], []⟩).memory Tryd.f6.params.toList Rows.fnExactFlushSpec.vars false (#[conf0, .slice none 0 0] : Array Value).toList 8 = some ([.agg [.lit (.int .i64 0), .lit (.int .i64 0), .lit (.int .i64 0), .lit (.int .u8 0), .lit (.int .i64 0)], .nil], [], places) :=
  ⟨[], by kernel_rfl⟩

set_option maxRecDepth 100000 in
theorem lifted (os : Os) (started : os.Started) (H : Type) (enc : TypeId × Value → H) (F : Stop.Interp) :
    ReturnsInHanded {} Tryd.checked os 6 .any ((Rows.OpenSpec.upto Rows.fnExactFlushSpec).preRow enc Tryd.prog Tryd.f6 Rows.fnExactFlushUptoRow.domain false Rows.fnExactFlushUptoRow.laid) (((Rows.OpenSpec.upto Rows.fnExactFlushSpec).at F).post enc Tryd.prog Tryd.f6 false true false false) := by
  obtain ⟨places, hx⟩ := reads os enc
  refine returnsInHanded_of_row (C := Tryd.checked) (s := Rows.OpenSpec.upto Rows.fnExactFlushSpec) own started (by kernel_rfl) Tryd.func6
    (witness_row_at (enc := enc) (C := Tryd.checked) false (laidWorld os) #[conf0, .slice none 0 0] rfl (by kernel_rfl) (by kernel_rfl) (by kernel_rfl)
      (OpenSpec.preRow_of_cond 8 hx (by kernel_rfl) (fun k hk => by cases hk; kernel_rfl) (by kernel_rfl) (laid_met os))) ?_
  intro W base args ds gs before hval hW _ hcond _ hL _ _
  exact contract H enc W base args ds gs before hval hW (of_decide_eq_true (hcond _ rfl))

theorem said : Rows.FnExactFlushUptoSaid :=
  OpenClaim.holds_of_cond 6 Tryd.f6 rfl rfl rfl rfl rfl rfl rfl ⟨rfl, rfl, rfl, rfl, rfl⟩ rfl rfl rfl rfl rfl (by kernel_rfl) Tryd.func6 (by kernel_rfl)
    (of_decide_eq_true (by kernel_rfl)) (by unfold Func.isWrapper; first | (rw [if_pos (by decide +kernel)]; kernel_rfl) | (rw [if_neg (by decide +kernel)]; exact ⟨rfl, rfl⟩))
    (fun os started H enc _ F => by rw [OpenClaim.pre_eq_preRow]; exact lifted os started H enc F)

theorem plain (f : FuncId) (fn : Func) (hf : Tryd.pinned.checked.prog.funcNamed "loop.example/pub-tabcolumns/laws.FnExactFlush" = some f) (hfn : Tryd.pinned.checked.prog.funcs[f]? = some fn) :
    true = Tryd.pinned.checked.prog.looks [] ∧ ∀ (j : Nat) t, fn.params[j]? = some t → Tryd.pinned.checked.prog.wantsStandIn t = false := by
  obtain rfl : f = 6 := Option.some.inj ((show Tryd.prog.funcNamed "loop.example/pub-tabcolumns/laws.FnExactFlush" = some 6 by kernel_rfl).symm.trans hf) |>.symm
  obtain rfl : fn = Tryd.f6 := (Option.some.inj (Tryd.func6.symm.trans hfn)).symm
  refine ⟨by kernel_rfl, fun j t ht => ?_⟩
  rw [Tryd.params6] at ht
  have hm := Array.mem_of_getElem? ht
  simp at hm
  rcases hm with rfl | rfl
  · exact (show Tryd.prog.wantsStandIn 23 = false by kernel_rfl)
  · exact (show Tryd.prog.wantsStandIn 24 = false by kernel_rfl)

theorem card : Rows.FnExactFlushUptoCardSaid :=
  Claim7.holds_tied_plain_at .later [] _ _ _ _ said (fun _ h => by cases h) (by kernel_rfl) (fun _ h => by cases h) fnExactFlushUpto_row_tie rfl ⟨rfl, rfl⟩ (by kernel_rfl) rfl plain (by kernel_rfl)
end Go.Proofs.YtbagbfmklpklmaaDoor.fnExactFlush

namespace Go.Proofs.YtbagbfmklpklmaaDoor
theorem fnExactFlushUpto_card : Rows.FnExactFlushUptoCardSaid := fnExactFlush.card
#print axioms fnExactFlushUpto_card
end Go.Proofs.YtbagbfmklpklmaaDoor
