/- 'FnIndent': tabs for indentation change nothing where no line begins with an empty cell. -/
import Derived.Test.YtinkhkhacaehkaaDoorCards
import Derived.Test.YtinkhkhacaehkaaDoorTie
import Derived.Test.YtinkhkhacaehkaaDoorVe
import Derived.Test.YtinkhkhacaehkaaDoorQt
import Derived.Test.YtinkhkhacaehkaaDoorQe
import Derived.WalkKit
import Derived.ProofKit
import Derived.OpenShut
import Derived.Deep.DeepHandedRow
import Derived.Deep.DeepWitnessRowRef
namespace Go.Proofs.YtinkhkhacaehkaaDoor
open Go.RowKit Go.Tw Go.Sort
set_option maxRecDepth 100000

def Begs (LL : List (List SC)) : Prop := ∀ m ∈ LL, ¬ (1 < m.length ∧ (m.head?.map (·.text)).getD [] = [])
def BegPost (w : World) (LL : List (List SC)) (e : Ending) (w' : World) : Prop := ∃ b : Bool, e = .returned (.bool b) ∧ Below w.heap.size w w' ∧ (b = false → Begs LL)

set_option maxHeartbeats 4000000 in
theorem begins_calls (w : World) (m t p f : Nat) (hf : f < 64) (ch : UInt8) {v : Value} {s : List UInt8} (h : Rd w v s) (hl : s.length ≤ 1000000) :
    Calls Tryd.prog 25 #[.agg #[.int .i64 m, .int .i64 t, .int .i64 p, .int .u8 ch.toNat, .int .i64 f], v] w (BegPost w (linesGo [] (cellsGo (cfgOf m t p f ch) ⟨[], 0, 0⟩ [] s))) := by
  obtain ⟨w1, hw1⟩ : ∃ w1, w1 = w.alloc (.cells #[.int .i64 m, .int .i64 t, .int .i64 p, .int .u8 ch.toNat, .int .i64 f] 23) := ⟨_, rfl⟩
  have hb0 : Below w.heap.size w w1 := hw1 ▸ (Below.refl _ w).alloc (Nat.le_refl _) _
  have hc0 : w1.heap[w.heap.size]? = some (.cells #[.int .i64 m, .int .i64 t, .int .i64 p, .int .u8 ch.toNat, .int .i64 f] 23 (0, 0)) := hw1 ▸ heap_alloc_new w _
  have hLI := lines_calls w1 m t p f hf ch (.inl (h.below hb0)) hl
  have hln := linesGo_len (cellsGo (cfgOf m t p f ch) ⟨[], 0, 0⟩ [] s) []
  have hcl := cellsGo_len (cfgOf m t p f ch) s.length s ⟨[], 0, 0⟩ [] (Nat.le_refl _)
  obtain ⟨LL, hLL⟩ : ∃ LL, LL = linesGo [] (cellsGo (cfgOf m t p f ch) ⟨[], 0, 0⟩ [] s) := ⟨_, rfl⟩
  rw [← hLL] at hLI hln ⊢
  have hlen : LL.length ≤ 2000000 := by omega
  obtain ⟨d0, d1, d2, d3, d4⟩ := conf_at hc0
  have HLI := Lib.hid hLI
  have HB0 := Lib.hid hb0
  rw [hw1] at d0 d1 d2 d3 d4 HLI HB0
  obtain ⟨ao, cp, rfl, -⟩ := h.val
  clear hb0 hc0 hLI hLL hw1 h hln hcl
  go_enter Tryd.func25, Tryd.ntmps25
  go_wp2_with fail
  refine HLI.out.mono ?_
  rintro e w2 ⟨v2, rfl, hlw, hb2⟩
  have HB2 := Lib.hid (HB0.out.trans (hb2.mono HB0.out.size))
  obtain ⟨a2, cp2, rfl, q1, q2, q3, q4⟩ := hlw.lz.val
  have HQ := Lib.hid q4
  have HS := Lib.hid q3
  clear hlw hb2 HLI HB0 q3 q4 d0 d1 d2 d3 d4
  go_wp2_with fail
  go_loopw [11] (fun t11 wr => ∃ j : Nat, j ≤ LL.length ∧ t11 = .int .i64 j ∧ Begs (LL.take j) ∧ wr = w2) (fun t11 _ => LL.length - (intOf t11).toNat)
  case atStart => exact ⟨0, Nat.zero_le _, rfl, fun m hm => by simp at hm, rfl⟩
  case round =>
    obtain ⟨j, hj, rfl, hbg, rfl⟩ := hrel
    have HBG := Lib.hid hbg
    clear hbg
    by_cases hlt : j < LL.length
    · obtain ⟨ad, lv, rfl, hc, hce⟩ := HQ.out j hlt
      have hsp := HS.out ad rfl
      obtain ⟨k0, o0, sp0⟩ := ad
      simp only at hsp hc
      subst hsp
      have HTK := Lib.hid (show LL.take (j + 1) = LL.take j ++ [LL[j]] from List.take_succ_eq_append_getElem hlt)
      generalize LL[j] = l at hce HTK
      have HN := Lib.hid (show ∀ (_ : ¬ (1 < l.length ∧ (l.head?.map (·.text)).getD [] = [])), Begs (LL.take (j + 1)) from fun hh m hm => by
        rw [HTK.out] at hm
        rcases List.mem_append.1 hm with h | h
        · exact HBG.out m h
        · rw [List.mem_singleton.1 h]; exact hh)
      obtain ⟨al, cl, rfl, r1, r2, r3, r4⟩ := hce.val
      unfold maxLen at r2
      by_cases h1 : 1 < l.length
      · have h1z : (1 : Int) < (l.length : Int) := by omega
        obtain ⟨ad2, tv, rfl, c0, -, -, hrd⟩ := r4 0 (by omega)
        have hsp2 := r3 ad2 rfl
        obtain ⟨k3, o3, sp3⟩ := ad2
        simp only at hsp2 c0
        subst hsp2
        have c0b : wr.cell? ⟨k3, o3, none⟩ = some tv := c0
        obtain ⟨at3, ct3, rfl, -⟩ := hrd.val
        have hhead : (l.head?.map (·.text)).getD [] = l[0].text := by
          cases l with
          | nil => simp at h1
          | cons x r => rfl
        have h0z : (0 : Int) < (l.length : Int) := by omega
        rw [hhead] at HN
        generalize l[0].text = tx at hrd HN c0b
        clear c0 r3 r4 hrd hhead
        by_cases hx : tx.length = 0
        · have hxz : ((tx.length : Int) == 0) = true := by simp [hx]
          go_wp2_with fail
          go_ret
          exact ⟨_, rfl, HB2.out, fun h => by cases h⟩
        · have hxz : ((tx.length : Int) == 0) = false := by simp; intro h; apply hx; rw [h]; rfl
          have HBJ := Lib.hid (HN.out (fun hh => hx (by rw [hh.2]; rfl)))
          clear hx
          go_wp2_with fail
          go_roundw
          case rel => exact ⟨j + 1, by omega, by go_num, HBJ.out, by first | trivial | rfl⟩
          case measure => simp [intOf]; omega
      · have h1z : ¬ ((1 : Int) < (l.length : Int)) := by omega
        have HBJ := Lib.hid (HN.out (fun hh => h1 hh.1))
        clear r3 r4
        go_wp2_with fail
        go_roundw
        case rel => exact ⟨j + 1, by omega, by go_num, HBJ.out, by first | trivial | rfl⟩
        case measure => simp [intOf]; omega
    · obtain rfl : j = LL.length := by omega
      have hb := HBG.out
      rw [List.take_length] at hb
      have HBB := Lib.hid hb
      clear hb
      go_wp2_with fail
      go_ret
      exact ⟨_, rfl, HB2.out, fun _ => HBB.out⟩

theorem cell_int2 {r : Reach} {b0 : Nat} {W : World} {v : Value} (h : Cell.okWide Tryd.prog W r b0 3 v) : ∃ n : Int, v = .int .i64 n ∧ -9223372036854775808 ≤ n ∧ n ≤ 9223372036854775807 := by
  obtain ⟨n, rfl⟩ := cell_int h
  unfold Cell.okWide at h
  rw [Tryd.underlying3] at h
  simp only [Cell.ok, Tryd.underlying3] at h
  have hb : (-9223372036854775808 : Int) ≤ n ∧ n ≤ 9223372036854775807 := h.2
  exact ⟨n, rfl, hb.1, hb.2⟩
/-- A set-up that came in, its flags within an int. -/
theorem open_conf2 {r : Reach} {b0 : Nat} {W : World} {v : Value} (hv : Value.okWide Tryd.prog W r b0 23 v) : ∃ (mn tb pd fl : Int) (ch : UInt8), v = .agg #[.int .i64 mn, .int .i64 tb, .int .i64 pd, .int .u8 ch.toNat, .int .i64 fl] ∧ -9223372036854775808 ≤ fl ∧ fl ≤ 9223372036854775807 := by
  obtain ⟨mn, tb, pd, fl, ch, rfl⟩ := open_conf hv
  refine ⟨mn, tb, pd, fl, ch, rfl, ?_⟩
  unfold Value.okWide at hv
  rw [Tryd.underlying23] at hv
  simp only at hv
  obtain ⟨cs, e, hsz, ts, hts, _, hcell⟩ := hv
  rw [conf_cellTypes] at hts
  simp only [Option.some.injEq] at hts
  subst hts
  cases e
  obtain ⟨u4, e4, k4⟩ := hcell 4 (.int .i64 fl) rfl
  simp at e4
  subst e4
  obtain ⟨n, e, h1, h2⟩ := cell_int2 k4
  cases e
  exact ⟨h1, h2⟩
/-- Flags that without one are flags were flags. -/
theorem fl_nat (fl : Int) (h1 : -9223372036854775808 ≤ fl) (h2 : fl ≤ 9223372036854775807) (k : Int) (hk : k ∈ flagsL) (g : Nat) (hg : g < 64) (h : wfl fl k false = g) : ∃ f : Nat, f < 64 ∧ fl = f := by
  have e : bits BinOp.andNot IntKind.i64 fl k = IntKind.i64.wrap ((BitVec.ofInt 64 fl &&& ~~~ BitVec.ofInt 64 k).toNat : Int) := rfl
  have hw : bits BinOp.andNot IntKind.i64 fl k = (g : Int) := h
  have hn := (BitVec.ofInt 64 fl &&& ~~~ BitVec.ofInt 64 k).isLt
  have hv : (BitVec.ofInt 64 fl &&& ~~~ BitVec.ofInt 64 k).toNat = g := by
    rw [e, wrap64_eq'] at hw
    split at hw <;> omega
  have hk6 : ∀ i, 6 ≤ i → i < 64 → (BitVec.ofInt 64 k).getLsbD i = false := by
    have : ∀ k ∈ flagsL, ∀ i : Fin 64, 6 ≤ i.val → (BitVec.ofInt 64 k).getLsbD i.val = false := by decide +kernel
    exact fun i a b => this k hk ⟨i, b⟩ a
  have hx : (BitVec.ofInt 64 fl).toNat < 2 ^ 6 := by
    refine Nat.lt_pow_two_of_testBit _ (fun i hi => ?_)
    rw [BitVec.testBit_toNat]
    by_cases h64 : i < 64
    · have hb : (BitVec.ofInt 64 fl &&& ~~~ BitVec.ofInt 64 k).getLsbD i = false := by
        rw [← BitVec.testBit_toNat, hv]
        exact Nat.testBit_lt_two_pow (Nat.lt_of_lt_of_le hg (Nat.pow_le_pow_right (n := 2) (by omega) hi))
      rw [BitVec.getLsbD_and, BitVec.getLsbD_not, hk6 i hi h64] at hb
      simpa [h64] using hb
    · exact BitVec.getLsbD_of_ge _ _ (by omega)
  rw [BitVec.toNat_ofInt] at hx
  refine ⟨fl.toNat, ?_, ?_⟩ <;> omega

set_option maxHeartbeats 8000000 in
theorem indent_calls (w : World) (mn tb pd fl : Int) (ch : UInt8) {v : Value} {s : List UInt8} (hf1 : -9223372036854775808 ≤ fl) (hf2 : fl ≤ 9223372036854775807) (h : Rd w v s) (hT : Lib.Utf8Tabs 0 1 w) :
    Calls Tryd.prog 8 #[.agg #[.int .i64 mn, .int .i64 tb, .int .i64 pd, .int .u8 ch.toNat, .int .i64 fl], v] w fun e w' => e = .returned (.bool true) ∧ Below w.heap.size w w' := by
  have L0 := Lib.hid (LS.start (mn := mn) (tb := tb) (pd := pd) (ch := ch) (fl := fl) h)
  have HT := Lib.hid hT
  obtain ⟨ao, cp, rfl, g1, g2⟩ := L0.out.shape
  obtain ⟨d0, d1, d2, d3, d4⟩ := L0.out.cells
  clear h hT
  by_cases hl : s.length ≤ 2147483647
  rotate_left
  · go_enter Tryd.func8, Tryd.ntmps8
    go_wp2_with fail
    go_ret
    exact ⟨rfl, L0.out.bel⟩
  have HWI := Lib.hid (with_calls' (w.alloc (.cells #[.int .i64 mn, .int .i64 tb, .int .i64 pd, .int .u8 ch.toNat, .int .i64 fl] 23)) mn tb pd fl ch 16 false)
  obtain ⟨g, hg⟩ : ∃ g, g = wfl fl 16 false := ⟨_, rfl⟩
  rw [← hg] at HWI
  have HG := Lib.hid hg
  clear hg
  go_enter Tryd.func8, Tryd.ntmps8
  go_wp2_with fail
  refine HWI.out.mono ?_
  rintro e w0 ⟨rfl, hb0⟩
  have LA := Lib.hid (L0.out.step hb0)
  clear hb0 HWI L0 d0 d1 d2 d3 d4
  go_wp2_with fail
  refine (spaces_calls w0 mn tb pd g ch LA.out.rd (Utf8Tabs_below HT.out LA.out.bel)).mono ?_
  rintro e w1 ⟨b, rfl, hb1, hfact⟩
  have L1 := Lib.hid (LA.out.step hb1)
  have HFA := Lib.hid hfact
  clear hb1 LA hfact
  cases b
  · go_wp2_with fail
    go_ret
    exact ⟨rfl, L1.out.bel⟩
  obtain ⟨m, t, p, gn, rfl, rfl, rfl, rfl, l1, l2, l3, l4g, hs, -⟩ := HFA.out rfl
  obtain ⟨f, l4, rfl⟩ := fl_nat fl hf1 hf2 16 (by simp [flagsL]) gn l4g HG.out.symm
  clear HFA hf1 hf2
  obtain ⟨gT, ht64, hgT, hTT⟩ := cfg_with f l4 16 (by simp [flagsL]) true
  obtain ⟨gF, hf64, hgF, hFF⟩ := cfg_with f l4 16 (by simp [flagsL]) false
  have HGT := Lib.hid hgT
  have HGF := Lib.hid hgF
  clear hgT hgF HG
  obtain ⟨d0, d1, d2, d3, d4⟩ := L1.out.cells
  go_wp2_with fail
  refine (begins_calls w1 m t p f l4 ch L1.out.rd (by omega)).mono ?_
  rintro e wb ⟨b, rfl, hbb, hbeg⟩
  have L2 := Lib.hid (L1.out.step hbb)
  have HBE := Lib.hid hbeg
  clear hbb L1 hbeg d0 d1 d2 d3 d4
  cases b
  rotate_left
  · go_wp2_with fail
    go_ret
    exact ⟨rfl, L2.out.bel⟩
  have HBEG := Lib.hid (show ∀ m' ∈ linesGo [] (cellsGo (cfgOf m t p f ch) ⟨[], 0, 0⟩ [] s), ¬ (1 < m'.length ∧ (m'.head?.map (·.text)).getD [] = []) from HBE.out rfl)
  have HET := Lib.hid (show formatO (cfgOf m t p gT ch) s = formatO (cfgOf m t p f ch) s from format_indent (hTT m t p ch).1 ((hTT m t p ch).2 1 (by simp [flagsL]) (by decide)) ((hTT m t p ch).2 2 (by simp [flagsL]) (by decide)) ((hTT m t p ch).2 4 (by simp [flagsL]) (by decide)) ((hTT m t p ch).2 8 (by simp [flagsL]) (by decide)) ((hTT m t p ch).2 32 (by simp [flagsL]) (by decide)) s HBEG.out)
  have HEF := Lib.hid (show formatO (cfgOf m t p gF ch) s = formatO (cfgOf m t p f ch) s from format_indent (hFF m t p ch).1 ((hFF m t p ch).2 1 (by simp [flagsL]) (by decide)) ((hFF m t p ch).2 2 (by simp [flagsL]) (by decide)) ((hFF m t p ch).2 4 (by simp [flagsL]) (by decide)) ((hFF m t p ch).2 8 (by simp [flagsL]) (by decide)) ((hFF m t p ch).2 32 (by simp [flagsL]) (by decide)) s HBEG.out)
  obtain ⟨fo, hfo⟩ : ∃ fo, fo = formatO (cfgOf m t p f ch) s := ⟨_, rfl⟩
  rw [← hfo] at HET HEF
  clear hfo hTT hFF HBE HBEG
  obtain ⟨d0, d1, d2, d3, d4⟩ := L2.out.cells
  go_wp2_with fail
  refine (with_nat wb m t p f gT ch 16 true HGT.out).mono ?_
  rintro e w3 ⟨rfl, hb3⟩
  have L3 := Lib.hid (L2.out.step hb3)
  clear hb3 L2 d0 d1 d2 d3 d4
  have HW := Lib.hid (write_one w3 m t p gT ht64 ch L3.out.rd (by omega) l1 l2 l3)
  go_wp2_with fail
  refine HW.out.mono ?_
  rintro e w4 ⟨v4, rfl, hr4, hb4⟩
  rw [HET.out] at hr4
  have L4 := Lib.hid (L3.out.step hb4)
  have HX := Lib.hid hr4
  obtain ⟨a4, c4, rfl, -, q4, -⟩ := hr4.val
  unfold maxLen at q4
  clear hb4 hr4 L3 HW
  obtain ⟨d0, d1, d2, d3, d4⟩ := L4.out.cells
  go_wp2_with fail
  refine (with_nat w4 m t p f gF ch 16 false HGF.out).mono ?_
  rintro e w5 ⟨rfl, hb5⟩
  have L5 := Lib.hid (L4.out.step hb5)
  have HX5 := Lib.hid (HX.out.below hb5)
  clear hb5 L4 d0 d1 d2 d3 d4 HX
  have HW := Lib.hid (write_one w5 m t p gF hf64 ch L5.out.rd (by omega) l1 l2 l3)
  go_wp2_with fail
  refine HW.out.mono ?_
  rintro e w6 ⟨v6, rfl, hr6, hb6⟩
  rw [HEF.out] at hr6
  have L6 := Lib.hid (L5.out.step hb6)
  have hSm := same_calls w6 (HX5.out.below hb6) hr6
  rw [decide_eq_true rfl] at hSm
  have HSM := Lib.hid hSm
  clear hb6 hr6 L5 HW hSm HX5
  go_wp2_with fail
  refine HSM.out.mono ?_
  rintro e w7 ⟨rfl, rfl⟩
  clear HSM
  obtain ⟨d0, d1, d2, d3, d4⟩ := L6.out.cells
  go_wp2_with fail
  refine (with_nat w6 m t p f gF ch 16 false HGF.out).mono ?_
  rintro e w8 ⟨rfl, hb8⟩
  have L8 := Lib.hid (L6.out.step hb8)
  clear hb8 L6 d0 d1 d2 d3 d4
  go_wp2_with fail
  refine (format_calls w8 m t p gF hf64 ch L8.out.rd hs l1 l2 l3).mono ?_
  rintro e w9 ⟨v9, rfl, hr9, hb9⟩
  rw [HEF.out] at hr9
  have L9 := Lib.hid (L8.out.step hb9)
  obtain ⟨a9, c9, rfl, -⟩ := hr9.val
  clear hb9 hr9
  go_wp2_with fail
  go_ret
  exact ⟨rfl, L9.out.bel⟩
end Go.Proofs.YtinkhkhacaehkaaDoor

namespace Go.Proofs.YtinkhkhacaehkaaDoor.fnIndent
open Go.ChangeShapes Go.WideShapes Go.ChangeAt Go.RowKit
set_option maxRecDepth 100000

theorem own : ownKnob Tryd.prog.godebug = none := by kernel_rfl

theorem contract (H : Type) (enc : TypeId × Value → H) (W : World) (base : Nat) (args : Array Value) (ds gs : List (DataW H)) (before : List MemPlace)
    (hval : ∀ (j : Nat) t v, Tryd.f8.params[j]? = some t → args[j]? = some v → Value.okWide Tryd.prog W .any base t v)
    (hW : DataW.Whole enc Tryd.prog Tryd.f8.params.toList Rows.fnIndentSpec.vars false W args.toList ds gs before)
    (hL : laidMetH Tryd.prog Rows.fnIndentRow.laid W) :
    Calls Tryd.prog 8 args W fun e W' => ∃ v, e = .returned v ∧ Rows.fnIndentSpec.post enc Tryd.prog Tryd.f8 false true false false W args v W' := by
  have hW' := hW
  obtain ⟨p, q, hA0, hV, rfl, hfz, hnd⟩ := hW
  have hA : DataW.TrodAll enc Tryd.prog W 0 (fun _ => true) true Tryd.f8.params.toList args.toList ds p := hA0
  rw [Tryd.params8] at hA hval
  obtain ⟨v0, vs0, d0, ds0, p0, q0, hargs, rfl, rfl, h0, r0⟩ := trodAll_cons hA
  obtain ⟨v1, vs1, d1, ds1, p1, q1, rfl, rfl, rfl, h1, r1⟩ := trodAll_cons r0
  obtain ⟨rfl, rfl, rfl⟩ := trodAll_nil r1
  obtain rfl : args = #[v0, v1] := by cases args; simp_all
  obtain ⟨mn0, tb0, pd0, fl0, ch0, rfl, hfa0, hfb0⟩ := open_conf2 (hval 0 _ _ rfl rfl)
  obtain ⟨bs1, hrd1⟩ := open_rd (hval 1 _ _ rfl rfl) h1
  refine (indent_calls W mn0 tb0 pd0 fl0 ch0 hfa0 hfb0 hrd1 (tabs_of hL)).mono fun e W' ⟨he, hb⟩ => ?_
  subst he
  refine ⟨_, rfl, law_post rfl ?_ (by kernel_rfl) ?_ hW' hb⟩
  · intro ds hds
    match ds, hds with
    | [a, b], _ => rfl
  · rw [Tryd.params8]
    intro t ht
    simp at ht
    rcases ht with rfl | rfl <;> exact of_decide_eq_true (by kernel_rfl)

theorem laid_met (os : Os) : laidMet Tryd.prog Rows.fnIndentRow.laid ((laidWorld os).forCall (fun _ _ => 0) ⟨#[], #[conf0, .slice none 0 0], []⟩).memory :=
  laidMet_of_run' 8 (by kernel_rfl) (by kernel_rfl)
theorem reads (os : Os) {H : Type} (enc : TypeId × Value → H) : ∃ places, DataW.whole enc Tryd.prog ((laidWorld os).forCall (fun _ _ => 0) ⟨#[], #[conf0, .slice none 0 0], []⟩).memory Tryd.f8.params.toList Rows.fnIndentSpec.vars false (#[conf0, .slice none 0 0] : Array Value).toList 8 = some ([.agg [.lit (.int .i64 0), .lit (.int .i64 0), .lit (.int .i64 0), .lit (.int .u8 0), .lit (.int .i64 0)], .nil], [], places) :=
  ⟨[], by kernel_rfl⟩

set_option maxRecDepth 100000 in
theorem lifted (os : Os) (started : os.Started) (H : Type) (enc : TypeId × Value → H) (F : Stop.Interp) :
    ReturnsInHanded {} Tryd.checked os 8 .any ((OpenSpec.ofChange Rows.fnIndentSpec).preRow enc Tryd.prog Tryd.f8 Rows.fnIndentRow.domain false Rows.fnIndentRow.laid) (((OpenSpec.ofChange Rows.fnIndentSpec).at F).post enc Tryd.prog Tryd.f8 false true false false) := by
  obtain ⟨places, hx⟩ := reads os enc
  refine returnsInHanded_of_row (C := Tryd.checked) (s := OpenSpec.ofChange Rows.fnIndentSpec) own started (by kernel_rfl) Tryd.func8
    (witness_row_at (enc := enc) (C := Tryd.checked) false (laidWorld os) #[conf0, .slice none 0 0] rfl (by kernel_rfl) (by kernel_rfl) (by kernel_rfl)
      (OpenSpec.preRow_of_cond 8 hx (by kernel_rfl) (fun k hk => by cases hk) (by kernel_rfl) (laid_met os))) ?_
  intro W base args ds gs before hval hW _ _ _ hL _ _
  exact contract H enc W base args ds gs before hval hW hL

theorem said : Rows.FnIndentSaid :=
  OpenClaim.holds_of_cond 8 Tryd.f8 rfl rfl rfl rfl rfl rfl rfl ⟨rfl, rfl, rfl, rfl, rfl⟩ rfl rfl rfl rfl rfl (by kernel_rfl) Tryd.func8 (by kernel_rfl)
    (of_decide_eq_true (by kernel_rfl)) (by unfold Func.isWrapper; first | (rw [if_pos (by decide +kernel)]; kernel_rfl) | (rw [if_neg (by decide +kernel)]; exact ⟨rfl, rfl⟩))
    (fun os started H enc _ F => by rw [OpenClaim.pre_eq_preRow]; exact lifted os started H enc F)

theorem plain (f : FuncId) (fn : Func) (hf : Tryd.pinned.checked.prog.funcNamed "loop.example/pub-tabcolumns/laws.FnIndent" = some f) (hfn : Tryd.pinned.checked.prog.funcs[f]? = some fn) :
    true = Tryd.pinned.checked.prog.looks [] ∧ ∀ (j : Nat) t, fn.params[j]? = some t → Tryd.pinned.checked.prog.wantsStandIn t = false := by
  obtain rfl : f = 8 := Option.some.inj ((show Tryd.prog.funcNamed "loop.example/pub-tabcolumns/laws.FnIndent" = some 8 by kernel_rfl).symm.trans hf) |>.symm
  obtain rfl : fn = Tryd.f8 := (Option.some.inj (Tryd.func8.symm.trans hfn)).symm
  refine ⟨by kernel_rfl, fun j t ht => ?_⟩
  rw [Tryd.params8] at ht
  have hm := Array.mem_of_getElem? ht
  simp at hm
  rcases hm with rfl | rfl
  · exact (show Tryd.prog.wantsStandIn 23 = false by kernel_rfl)
  · exact (show Tryd.prog.wantsStandIn 24 = false by kernel_rfl)

theorem card : Rows.FnIndentCardSaid :=
  Claim7.holds_tied_plain_at .later [] _ _ _ _ said (fun _ h => by cases h) (by kernel_rfl) (fun _ h => by cases h) fnIndent_row_tie rfl ⟨rfl, rfl⟩ (by kernel_rfl) rfl plain (by kernel_rfl)
end Go.Proofs.YtinkhkhacaehkaaDoor.fnIndent

namespace Go.Proofs.YtinkhkhacaehkaaDoor
theorem fnIndent_card : Rows.FnIndentCardSaid := fnIndent.card
#print axioms fnIndent_card
end Go.Proofs.YtinkhkhacaehkaaDoor
