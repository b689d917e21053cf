/- 'FnBarsAlign': bars between the same columns of lines that follow each other stand below each other. -/
import Derived.Test.YthcjaegnnfiboaaDoorCards
import Derived.Test.YthcjaegnnfiboaaDoorTie
import Derived.Test.YthcjaegnnfiboaaDoorVe
import Derived.Test.YthcjaegnnfiboaaDoorQe
import Derived.Test.YthcjaegnnfiboaaDoorLs
import Derived.Test.YthcjaegnnfiboaaDoorLd
import Derived.Test.YthcjaegnnfiboaaDoorOrx
import Derived.WalkKit
import Derived.ProofKit
import Derived.OpenShut
import Derived.Deep.DeepHandedRow
import Derived.Deep.DeepWitnessRowRef
namespace Go.Proofs.YthcjaegnnfiboaaDoor
open Go.RowKit Go.Tw Go.Sort
set_option maxRecDepth 100000

theorem lines_pos : ∀ (l cur : List SC), ∀ m ∈ linesGo cur l, m ≠ [] := by
  intro l
  induction l with
  | nil => intro cur m hm; simp [linesGo] at hm
  | cons x l ih =>
    intro cur m hm
    simp only [linesGo] at hm
    split at hm
    · exact ih _ m hm
    · rcases List.mem_cons.1 hm with rfl | hm
      · simp
      · exact ih _ m hm
theorem bars_shape {c : Cfg} (h9 : c.ch ≠ 9) (hch : c.ch.toNat < 128) (hc2 : c.ch ≠ 124) (h32 : c.flag 32 = true) (h16 : c.flag 16 = false) {s : List UInt8} (hs : ∀ b ∈ s, b ≠ 124) (hn : noShut s) :
    (∀ (i : Nat) x, (linesO c (Wd c ((linesT s).map view)) 0 ((linesT s).map view))[i]? = some x → ∃ n, ((linesT s).map List.length)[i]? = some n ∧ (barsG [] x).length + 1 = n) ∧
    (∀ (i : Nat) x y, (linesO c (Wd c ((linesT s).map view)) 0 ((linesT s).map view))[i]? = some x → (linesO c (Wd c ((linesT s).map view)) 0 ((linesT s).map view))[i + 1]? = some y → ∀ (j a b : Nat), (barsG [] x)[j]? = some a → (barsG [] y)[j]? = some b → a = b) := by
  have hM : ∀ l ∈ (linesT s).map view, (∀ x ∈ l.cells, x.width = rc x.text ∧ ∀ b ∈ x.text, b ≠ 124) ∧ (∀ b ∈ l.last, b ≠ 124) ∧ l.shut = false := fun l hl => by
    obtain ⟨h1, h2⟩ := view_text hl
    exact ⟨fun x hx => ⟨(h1 x hx).1, fun b hb => hs b ((h1 x hx).2 b hb).1⟩, fun b hb => hs b (h2 b hb).1, view_shut hn hl⟩
  refine ⟨fun i x hx => ?_, fun i x y hx hy => (bars_agree h9 hch hc2 h32 h16 hM hx).2 y hy⟩
  obtain ⟨⟨l, hl, e⟩, _⟩ := bars_agree h9 hch hc2 h32 h16 hM hx
  rw [List.getElem?_map] at hl
  cases hm : (linesT s)[i]? with
  | none => rw [hm] at hl; simp at hl
  | some m =>
    rw [hm] at hl
    simp only [Option.map_some, Option.some.injEq] at hl
    subst hl
    have hp := List.length_pos_iff.2 (lines_pos _ _ m (List.mem_of_getElem? hm))
    refine ⟨m.length, by rw [List.getElem?_map, hm]; rfl, ?_⟩
    rw [e]
    unfold view
    simp only [List.length_dropLast]
    omega

set_option maxHeartbeats 8000000 in
theorem barsAlign_calls (w : World) (mn tb pd fl : Int) (ch : UInt8) {v : Value} {s0 : List UInt8} (h : Rd w v s0) (hT : Lib.Utf8Tabs 0 1 w) :
    Calls Tryd.prog 5 #[.agg #[.int .i64 mn, .int .i64 tb, .int .i64 pd, .int .u8 ch.toNat, .int .i64 fl], v] w fun e w' => e = .returned (.bool true) ∧ Below w.heap.size w w' := by
  have L0 := Lib.hid (LS.start (mn := mn) (tb := tb) (pd := pd) (ch := ch) (fl := fl) h)
  have HT := Lib.hid hT
  obtain ⟨ao, cp, rfl, g1, g2⟩ := L0.out.shape
  obtain ⟨d0, d1, d2, d3, d4⟩ := L0.out.cells
  have HRR := Lib.hid h
  clear h hT
  by_cases hl : s0.length ≤ 2147483647
  rotate_left
  · go_enter Tryd.func5, Tryd.ntmps5
    go_wp2_with fail
    go_ret
    exact ⟨rfl, L0.out.bel⟩
  obtain ⟨g, hg⟩ : ∃ g, g = wfl fl 32 true := ⟨_, rfl⟩
  have HWI := Lib.hid (with_calls' (w.alloc (.cells #[.int .i64 mn, .int .i64 tb, .int .i64 pd, .int .u8 ch.toNat, .int .i64 fl] 23)) mn tb pd fl ch 32 true)
  rw [← hg] at HWI
  have HG := Lib.hid hg
  clear hg
  go_enter Tryd.func5, Tryd.ntmps5
  go_wp2_with fail
  refine HWI.out.mono ?_
  rintro e w0 ⟨rfl, hbw⟩
  have hL1 := L0.out.step hbw
  have hL2 : LS w mn tb pd ch g (.slice ao s0.length cp) s0 (((((w0.setCell ⟨w.heap.size, 0, none⟩ (.int .i64 mn)).setCell ⟨w.heap.size, 1, none⟩ (.int .i64 tb)).setCell ⟨w.heap.size, 2, none⟩ (.int .i64 pd)).setCell ⟨w.heap.size, 3, none⟩ (.int .u8 ch.toNat)).setCell ⟨w.heap.size, 4, none⟩ (.int .i64 g)) := hL1.setFl HRR.out g
  obtain ⟨c0, c1, c2, c3, c4⟩ := hL1.cells
  have f0 := frozen_of_blk hL1.conf 0
  have f1 := frozen_of_blk hL1.conf 1
  have f2 := frozen_of_blk hL1.conf 2
  have f3 := frozen_of_blk hL1.conf 3
  have f4 := frozen_of_blk hL1.conf 4
  obtain ⟨y0, y1, y2, y3, y4⟩ := hL2.cells
  have HL2 := Lib.hid hL2
  clear hL1 hL2 hbw HWI L0 d0 d1 d2 d3 d4
  go_wp2_with fail
  clear c0 c1 c2 c3 c4 f0 f1 f2 f3 f4 y0 y1 y2 y3 y4
  revert HL2
  generalize (((((w0.setCell ⟨w.heap.size, 0, none⟩ (.int .i64 mn)).setCell ⟨w.heap.size, 1, none⟩ (.int .i64 tb)).setCell ⟨w.heap.size, 2, none⟩ (.int .i64 pd)).setCell ⟨w.heap.size, 3, none⟩ (.int .u8 ch.toNat)).setCell ⟨w.heap.size, 4, none⟩ (.int .i64 g)) = wx
  intro LX
  refine (without_calls _ LX.out.rd 124 (by omega)).mono ?_
  rintro e w1 ⟨v1, rfl, hr1, hb1⟩
  obtain ⟨s, hs0⟩ : ∃ s, s = s0.filter (· != 124) := ⟨_, rfl⟩
  rw [← hs0] at hr1
  have HNO := Lib.hid (show ∀ b ∈ s, b ≠ 124 from fun b hb => by rw [hs0] at hb; simpa using (List.mem_filter.1 hb).2)
  have hsl : s.length ≤ s0.length := by rw [hs0]; exact List.length_filter_le _ _
  have L1 := Lib.hid ((LX.out.step hb1).text hr1)
  clear hs0 hr1 hb1 LX
  obtain ⟨a1, c1, rfl, -, -⟩ := L1.out.shape
  have HWI := Lib.hid (with_calls' w1 mn tb pd g ch 32 false)
  obtain ⟨g2, hg2⟩ : ∃ x, x = wfl g 32 false := ⟨_, rfl⟩
  rw [← hg2] at HWI
  have HG2 := Lib.hid hg2
  clear hg2
  obtain ⟨d0, d1, d2, d3, d4⟩ := L1.out.cells
  go_wp2_with fail
  refine HWI.out.mono ?_
  rintro e wa ⟨rfl, hba⟩
  have LA := Lib.hid (L1.out.step hba)
  clear hba HWI L1 d0 d1 d2 d3 d4
  go_wp2_with fail
  refine (spaces_calls _ mn tb pd g2 ch LA.out.rd (Utf8Tabs_below HT.out LA.out.bel)).mono ?_
  rintro e w2 ⟨b, rfl, hb2, hfact⟩
  have L2 := Lib.hid (LA.out.step hb2)
  have HFA := Lib.hid hfact
  clear hb2 LA  hfact
  cases b
  · go_wp2_with fail
    go_ret
    exact ⟨rfl, L2.out.bel⟩
  obtain ⟨m, t, p, f, rfl, rfl, rfl, rfl, l1, l2, l3, l4, hs, h9, h128, h16, h32, ho⟩ := HFA.out rfl
  have H9 := Lib.hid h9
  have H128 := Lib.hid h128
  have H16 := Lib.hid h16
  have H32 := Lib.hid h32
  have HO := Lib.hid ho
  clear HFA h9 h128 h16 h32 ho
  have hrg := wfl_range fl 32 true
  rw [← HG.out] at hrg
  obtain ⟨gn, l4g, rfl⟩ := fl_nat g hrg.1 hrg.2 32 (by simp [flagsL]) f l4 HG2.out.symm
  obtain ⟨gF, hf64, hgF, hFF⟩ := cfg_with gn l4g 32 (by simp [flagsL]) false
  obtain rfl : f = gF := by have := HG2.out; rw [hgF] at this; omega
  have H32g := Lib.hid (show (cfgOf m t p gn ch).flag 32 = true by rw [flag_cfg ⟨gn, l4g⟩ m t p ch 32 (by simp)]; exact or_flag32 fl ⟨gn, l4g⟩ HG.out.symm)
  have H16g := Lib.hid (show (cfgOf m t p gn ch).flag 16 = false from ((hFF m t p ch).2 16 (by simp [flagsL]) (by decide)).symm.trans H16.out)
  clear hrg hgF hFF HG HG2
  obtain ⟨d0, d1, d2, d3, d4⟩ := L2.out.cells
  go_wp2_with fail
  refine (feeds_calls w2 m t p gn l4g ch L2.out.rd (by omega)).mono ?_
  rintro e w3 ⟨b, rfl, hb3, hfd⟩
  have L3 := Lib.hid (L2.out.step hb3)
  have HFD := Lib.hid hfd
  clear hb3 L2 hfd d0 d1 d2 d3 d4
  cases b
  rotate_left
  · go_wp2_with fail
    go_ret
    exact ⟨rfl, L3.out.bel⟩
  have HFE := Lib.hid (HFD.out rfl)
  clear HFD
  obtain ⟨d0, d1, d2, d3, d4⟩ := L3.out.cells
  have e124 := u8_eq (b := ch) (c := 124) (n := 124) rfl
  by_cases h124 : ch = 124
  · rw [decide_eq_true h124] at e124
    clear h124
    go_wp2_with fail
    go_ret
    exact ⟨rfl, L3.out.bel⟩
  rw [decide_eq_false h124] at e124
  have H124 := Lib.hid h124
  clear h124
  have e10 := u8_eq (b := ch) (c := 10) (n := 10) rfl
  by_cases h10 : ch = 10
  · rw [decide_eq_true h10] at e10
    clear h10
    go_wp2_with fail
    go_ret
    exact ⟨rfl, L3.out.bel⟩
  rw [decide_eq_false h10] at e10
  have H10 := Lib.hid h10
  clear h10
  have h127 : ¬ ((127 : Int) < (ch.toNat : Int)) := by have := H128.out; omega
  have h127b : decide ((127 : Int) < (ch.toNat : Int)) = false := decide_eq_false h127
  have h127c : ¬ (127 < ch.toNat) := by have := H128.out; omega
  have HTM := Lib.hid (tame_calls w3 L3.out.rd (by omega))
  obtain ⟨xt, hxt⟩ : ∃ x, x = tame s := ⟨_, rfl⟩
  rw [← hxt] at HTM
  have HXT := Lib.hid hxt
  clear hxt
  go_wp2_with fail
  refine HTM.out.mono ?_
  rintro e wt ⟨rfl, rfl⟩
  clear HTM
  cases xt
  · go_wp2_with fail
    go_ret
    exact ⟨rfl, L3.out.bel⟩
  have HTm := Lib.hid (tame_Tm HXT.out.symm)
  clear HXT
  have HNS := Lib.hid (show noShut s from by have := HFE.out; rwa [cellsGo_tame s [] HTm.out] at this)
  clear HFE h127 h127b h127c d0 d1 d2 d3 d4
  obtain ⟨hfa1, hfa2⟩ := bars_shape (c := cfgOf m t p gn ch) H9.out H128.out H124.out H32g.out H16g.out HNO.out HNS.out
  obtain ⟨M, hM⟩ : ∃ M, M = (linesT s).map view := ⟨_, rfl⟩
  rw [← hM] at hfa1 hfa2
  obtain ⟨N, hN⟩ : ∃ n, n = M.length := ⟨_, rfl⟩
  obtain ⟨SH, hSH⟩ : ∃ x, x = (linesGo [] (cellsGo (cfgOf m t p gn ch) ⟨[], 0, 0⟩ [] s)).map List.length := ⟨_, rfl⟩
  have e1 : SH = (linesT s).map List.length := by rw [hSH, cellsGo_tame s [] HTm.out]; rfl
  rw [← e1] at hfa1
  have HSHL := Lib.hid (show SH.length = N by rw [e1, hN, hM]; simp)
  obtain ⟨LL, hLL⟩ : ∃ x, x = linesO (cfgOf m t p gn ch) (Wd (cfgOf m t p gn ch) M) 0 M := ⟨_, rfl⟩
  rw [← hLL] at hfa1 hfa2
  have HL1 := Lib.hid (show LL.length = N by rw [hLL, linesO_len, hN])
  have HF1 := Lib.hid hfa1
  have HF2 := Lib.hid hfa2
  have HSX := Lib.hid (show splitG [] (formatO (cfgOf m t p gn ch) s) = LL from by
    rw [hLL, hM]
    exact split_format HTm.out (by rw [cellsGo_tame s [] HTm.out]; have := HO.out; rwa [cellsGo_tame s [] HTm.out] at this) H10.out (fun _ => HNS.out))
  have HSHE := Lib.hid hSH
  clear hfa1 hfa2 hLL hSH hN hM e1
  obtain ⟨d0, d1, d2, d3, d4⟩ := L3.out.cells
  have HW := Lib.hid (write_one w3 m t p gn l4g ch L3.out.rd (by omega) l1 l2 l3)
  go_wp2_with fail
  refine HW.out.mono ?_
  rintro e w4 ⟨v4, rfl, hr4, hb4⟩
  have L4 := Lib.hid (L3.out.step hb4)
  obtain ⟨fo, hfo⟩ : ∃ x, x = formatO (cfgOf m t p gn ch) s := ⟨_, rfl⟩
  rw [← hfo] at hr4
  have HFfo := Lib.hid hfo
  clear hfo
  have HX4 := Lib.hid hr4
  obtain ⟨a4, c4, rfl, -, q4, -⟩ := hr4.val
  unfold maxLen at q4
  clear HW L3 hb4 hr4 d0 d1 d2 d3 d4
  have hfl5 : fo.length ≤ 100000000000 := by rw [HFfo.out]; exact format_bound m t p gn ch l1 l2 l3 s hs
  have HSP := Lib.hid (split_calls w4 HX4.out (by omega))
  rw [show splitG [] fo = LL from by rw [HFfo.out]; exact HSX.out] at HSP
  go_wp2_with fail
  refine HSP.out.mono ?_
  rintro e w5 ⟨v5, rfl, hr5, hb5⟩
  have L5 := Lib.hid (L4.out.step hb5)
  obtain ⟨a5, c5, e5, q5, -⟩ := hr5.val
  rw [HL1.out] at e5 q5
  subst e5
  have HS5 := Lib.hid hr5
  have HLE5 := Lib.hid (show ∀ x ∈ LL, x.length ≤ 100000000000 from fun x hx => by
    have e : LL = splitG [] fo := (show splitG [] fo = LL from by rw [HFfo.out]; exact HSX.out).symm
    rw [e] at hx
    have := splitG_le _ _ x hx
    simp only [List.length_nil] at this
    omega)
  clear HSP L4 hb5 hr5 HX4 hfl5
  obtain ⟨d0, d1, d2, d3, d4⟩ := L5.out.cells
  go_wp2_with fail
  have hsc := shape_calls w5 m t p gn l4g ch L5.out.rd (by omega)
  rw [← HSHE.out] at hsc
  refine hsc.mono ?_
  rintro e w6 ⟨v6, rfl, hr6, hb6⟩
  obtain ⟨a6, c6, e6, q6, -⟩ := hr6.val
  rw [HSHL.out] at e6 q6
  subst e6
  have HN6 := Lib.hid hr6
  have L6 := Lib.hid (L5.out.step hb6)
  have HS6 := Lib.hid (HS5.out.below hb6)
  clear hb6 hr6 hsc L5 HS5 HSX HSHE d0 d1 d2 d3 d4
  go_wp2_with fail
  go_loopw [64] (fun t64 wr => ∃ j : Nat, j ≤ N ∧ t64 = .int .i64 j ∧ Below w6.heap.size w6 wr) (fun t64 _ => N - (intOf t64).toNat)
  case atStart => exact ⟨0, Nat.zero_le _, rfl, Below.refl _ _⟩
  case round =>
    obtain ⟨j, hj, rfl, hb⟩ := hrel
    by_cases hlt : j < N
    · have hj1 : j < LL.length := by rw [HL1.out]; exact hlt
      obtain ⟨k0, o0, au, cu, rfl, cF, rdF⟩ := (HS6.out.below hb).at hj1
      obtain ⟨nn, hn1, hn2⟩ := HF1.out j LL[j] (List.getElem?_eq_getElem hj1)
      obtain ⟨k1, o1, rfl, cN⟩ := (HN6.out.below hb).at' hn1
      have hxl := HLE5.out LL[j] (List.getElem_mem hj1)
      generalize LL[j] = x at cF rdF hn2 hxl
      obtain ⟨nb, hnb⟩ : ∃ nb, nb = (barsG [] x).length := ⟨_, rfl⟩
      rw [← hnb] at hn2
      subst hn2
      have hbl : nb ≤ 1000000000000 := by rw [hnb]; have := barsG_le x []; omega
      have HNB := Lib.hid hnb
      have RF := Lib.hid rdF
      have HB := Lib.hid hb
      clear hnb rdF hn1
      have kF : ∀ (p' : Regrown), (grow (redrawn wr p'.d) p'.os).cell? ⟨k0, o0 + j, none⟩ = some (.slice au x.length cu) := fun p' => cell_regrown cF p'.d p'.os
      have kN : ∀ (p' : Regrown), (grow (redrawn wr p'.d) p'.os).cell? ⟨k1, o1 + j, none⟩ = some (.int .i64 ((nb : Int) + 1)) := fun p' => cell_regrown cN p'.d p'.os
      have hjN : (j : Int) < (N : Int) := by omega
      have hj0 : (0 : Int) ≤ (j : Int) := by omega
      have hjt : (j : Int).toNat = j := by omega
      have hwr : IntKind.i64.wrap (nb : Int) = (nb : Int) := by rw [wrap64_eq']; split <;> omega
      go_wp2_with fail
      refine wp_region_stages [([0, 1, 2, 3, 6, 7, 8, 9, 10], [4, 5, 11])] (by kernel_rfl) (by kernel_rfl) (by kernel_rfl) (fun _ _ d _ _ h => by cases d <;> exact h) ?_
      refine ⟨(fun w' => ∃ p' : Regrown, w' = grow (redrawn wr p'.d) p'.os), ⟨⟨wr.drawn + 1, #[]⟩, by rw [grow_empty]; rfl⟩, ?_⟩
      refine wpR_of (lr := [_, _, _, _, _, _, _, _, _]) rfl ?_
      iterate 9 (refine wpR_step rfl (fun K hK => ?_); go_simp; refine hK _ ?_; clear hK K)
      refine wpR_nil ?_
      clear kF kN cF cN hjt hj0
      refine wpX_one 4 _ (by kernel_rfl) rfl rfl (fun K hK => ?_)
      go_simp
      refine (bars_calls wr.drew RF.out.drew (by omega)).mono ?_
      rintro e w7 ⟨v7, rfl, hr7, hb7⟩
      have hba := below_drawn hb7
      obtain ⟨a7, c7, e7, q7, -⟩ := hr7.val
      rw [← HNB.out] at e7 q7
      subst e7
      refine hK _ _ (regrown_of_below hba) ?_
      clear hK K
      refine wpX_one 5 _ (by kernel_rfl) rfl rfl (fun K hK => ?_)
      go_simp
      refine hK _ _ (regrown_of_below hba) ?_
      clear hK K
      refine wpX_one 11 _ (by kernel_rfl) rfl rfl (fun K hK => ?_)
      go_simp
      refine hK _ _ (regrown_of_below hba) ?_
      clear hK K
      refine wpX_end (stg_nil ?_)
      have HB2 := Lib.hid (HB.out.trans (hba.mono HB.out.size))
      clear hba hb7 hr7 hwr
      go_wp2_with fail
      go_roundw
      case rel => exact ⟨j + 1, by omega, by go_num, HB2.out⟩
      case measure => simp [intOf]; omega
    · obtain rfl : j = N := by omega
      obtain ⟨wo, hwo⟩ : ∃ x, x = wr := ⟨_, rfl⟩
      subst hwo
      have LB := Lib.hid (L6.out.step hb)
      have HSB := Lib.hid (HS6.out.below hb)
      have HNB := Lib.hid (HN6.out.below hb)
      clear hb L6 HS6 HN6 hlt
      go_wp2_with fail
      go_loopw [8] (fun t8 wq => ∃ i : Nat, (i + 1 ≤ j ∨ i = 0) ∧ t8 = .int .i64 ((i : Int) + 1) ∧ Below wo.heap.size wo wq) (fun t8 _ => j - (intOf t8).toNat)
      case atStart => exact ⟨0, .inr rfl, rfl, Below.refl _ _⟩
      case round =>
        obtain ⟨wq, hwq⟩ : ∃ x, x = wr := ⟨_, rfl⟩
        subst hwq
        obtain ⟨i, hi, rfl, hb⟩ := hrel
        by_cases hlt : i + 1 < j
        · have hj1 : i < LL.length := by rw [HL1.out]; omega
          have hj2 : i + 1 < LL.length := by rw [HL1.out]; omega
          obtain ⟨k0, o0, au, cu, rfl, cX, rdX⟩ := (HSB.out.below hb).at hj1
          obtain ⟨k2, o2, bu, du, e2, cY, rdY⟩ := (HSB.out.below hb).at hj2
          simp only [Option.some.injEq, Addr.mk.injEq] at e2
          obtain ⟨rfl, rfl, -⟩ := e2
          have hfx := HF2.out i LL[i] LL[i + 1] (List.getElem?_eq_getElem hj1) (List.getElem?_eq_getElem hj2)
          obtain ⟨nn, hn1, hn2⟩ := HF1.out i LL[i] (List.getElem?_eq_getElem hj1)
          obtain ⟨k1, o1, rfl, cN⟩ := (HNB.out.below hb).at' hn1
          obtain ⟨nn', hn1', hn2'⟩ := HF1.out (i + 1) LL[i + 1] (List.getElem?_eq_getElem hj2)
          obtain ⟨k3, o3, e3, cN'⟩ := (HNB.out.below hb).at' hn1'
          simp only [Option.some.injEq, Addr.mk.injEq] at e3
          obtain ⟨rfl, rfl, -⟩ := e3
          have hxl := HLE5.out LL[i] (List.getElem_mem hj1)
          have hyl := HLE5.out LL[i + 1] (List.getElem_mem hj2)
          generalize LL[i] = x at cX rdX hn2 hxl hfx
          generalize LL[i + 1] = y at cY rdY hn2' hyl hfx
          obtain ⟨nx, hnx⟩ : ∃ n, n = (barsG [] x).length := ⟨_, rfl⟩
          obtain ⟨ny, hny⟩ : ∃ n, n = (barsG [] y).length := ⟨_, rfl⟩
          rw [← hnx] at hn2
          rw [← hny] at hn2'
          subst hn2
          subst hn2'
          have hbx : nx ≤ 1000000000000 := by rw [hnx]; have := barsG_le x []; omega
          have hby : ny ≤ 1000000000000 := by rw [hny]; have := barsG_le y []; omega
          have HNX := Lib.hid hnx
          have HNY := Lib.hid hny
          have RX := Lib.hid rdX
          have RY := Lib.hid rdY
          have HFX := Lib.hid hfx
          have HB := Lib.hid hb
          have CN := Lib.hid cN
          have CN' := Lib.hid cN'
          clear hnx hny rdX rdY hfx hn1 hn1' hb cN cN'
          have kX : ∀ (p' : Regrown), (grow (redrawn wq p'.d) p'.os).cell? ⟨k0, o0 + i, none⟩ = some (.slice au x.length cu) := fun p' => cell_regrown cX p'.d p'.os
          have kY : ∀ (p' : Regrown), (grow (redrawn wq p'.d) p'.os).cell? ⟨k0, o0 + (i + 1), none⟩ = some (.slice bu y.length du) := fun p' => cell_regrown cY p'.d p'.os
          have hj0 : (0 : Int) ≤ (i : Int) := by omega
          have hj0' : (0 : Int) ≤ (i : Int) + 1 := by omega
          have hjN : (i : Int) < (j : Int) := by omega
          have hjN' : (i : Int) + 1 < (j : Int) := by omega
          have hjt : ((i : Int) + 1).toNat = i + 1 := by omega
          have hwi : IntKind.i64.wrap (i : Int) = (i : Int) := by rw [wrap64_eq']; have := HL1.out; split <;> omega
          go_wp2_with fail
          refine wp_region_stages [([0, 1, 2, 3, 4, 6, 7, 8, 9], [5, 10, 11, 12])] (by kernel_rfl) (by kernel_rfl) (by kernel_rfl) (fun _ _ d _ _ h => by cases d <;> exact h) ?_
          refine ⟨(fun w' => ∃ p' : Regrown, w' = grow (redrawn wq p'.d) p'.os), ⟨⟨wq.drawn + 1, #[]⟩, by rw [grow_empty]; rfl⟩, ?_⟩
          refine wpR_of (lr := [_, _, _, _, _, _, _, _, _]) rfl ?_
          iterate 9 (refine wpR_step rfl (fun K hK => ?_); go_simp; refine hK _ ?_; clear hK K)
          refine wpR_nil ?_
          clear kX kY cX cY
          refine wpX_one 5 _ (by kernel_rfl) rfl rfl (fun K hK => ?_)
          go_simp
          refine (bars_calls wq.drew RX.out.drew (by omega)).mono ?_
          rintro e w7 ⟨v7, rfl, hr7, hb7⟩
          have hba := below_drawn hb7
          obtain ⟨a7, c7, e7, q7, -⟩ := hr7.val
          rw [← HNX.out] at e7 q7
          subst e7
          refine hK _ _ (regrown_of_below hba) ?_
          clear hK K
          refine wpX_one 10 _ (by kernel_rfl) rfl rfl (fun K hK => ?_)
          go_simp
          refine (bars_calls w7 (RY.out.drew.below hb7) (by omega)).mono ?_
          rintro e w8 ⟨v8, rfl, hr8, hb8⟩
          have hbc := hba.trans (hb8.mono hba.size)
          obtain ⟨a8, c8, e8, q8, -⟩ := hr8.val
          rw [← HNY.out] at e8 q8
          subst e8
          refine hK _ _ (regrown_of_below hbc) ?_
          clear hK K
          refine wpX_one 11 _ (by kernel_rfl) rfl rfl (fun K hK => ?_)
          go_simp
          refine hK _ _ (regrown_of_below hbc) ?_
          clear hK K
          refine wpX_one 12 _ (by kernel_rfl) rfl rfl (fun K hK => ?_)
          go_simp
          refine hK _ _ (regrown_of_below hbc) ?_
          clear hK K
          refine wpX_end (stg_nil ?_)
          have HNA := Lib.hid (hr7.below hb8)
          have HNC := Lib.hid hr8
          have HB2 := Lib.hid (HB.out.trans (hbc.mono HB.out.size))
          have cN := (hbc.cell (block_lt_of_cell CN.out)).trans CN.out
          have cN' := (hbc.cell (block_lt_of_cell CN'.out)).trans CN'.out
          clear hbc hba hb7 hb8 hr7 hr8 CN CN' HB
          go_wp2_with fail
          clear cN cN'
          go_loopw [118] (fun t118 wi => ∃ q : Nat, q ≤ nx ∧ t118 = .int .i64 q ∧ Below w8.heap.size w8 wi) (fun t118 _ => nx - (intOf t118).toNat)
          case atStart => exact ⟨0, Nat.zero_le _, rfl, Below.refl _ _⟩
          case round =>
            obtain ⟨q, hq, rfl, hb⟩ := hrel
            have HB3 := Lib.hid (hb.trans (below_drawn (Below.refl _ wr.drew) |>.mono hb.size))
            by_cases hqx : q < nx
            · have hqb : q < (barsG [] x).length := by rw [← HNX.out]; exact hqx
              obtain ⟨k4, o4, rfl, cA⟩ := (HNA.out.below hb).at' (List.getElem?_eq_getElem hqb)
              have kA : ∀ (p' : Regrown), (grow (redrawn wr p'.d) p'.os).cell? ⟨k4, o4 + q, none⟩ = some (.int .i64 (((barsG [] x)[q] : Nat) : Int)) := fun p' => cell_regrown cA p'.d p'.os
              have hq0 : (0 : Int) ≤ (q : Int) := by omega
              have hqN : (q : Int) < (nx : Int) := by omega
              have hqt : (q : Int).toNat = q := by omega
              by_cases hqy : q < ny
              · have hqc : q < (barsG [] y).length := by rw [← HNY.out]; exact hqy
                obtain ⟨k5, o5, rfl, cB⟩ := (HNC.out.below hb).at' (List.getElem?_eq_getElem hqc)
                rw [← HFX.out q _ _ (List.getElem?_eq_getElem hqb) (List.getElem?_eq_getElem hqc)] at cB
                have kB : ∀ (p' : Regrown), (grow (redrawn wr p'.d) p'.os).cell? ⟨k5, o5 + q, none⟩ = some (.int .i64 (((barsG [] x)[q] : Nat) : Int)) := fun p' => cell_regrown cB p'.d p'.os
                generalize (barsG [] x)[q] = z at kA kB
                have hqM : (q : Int) < (ny : Int) := by omega
                clear hb cA cB hqb hqc
                go_wp2_with fail
                refine wp_region_stages [([0, 1, 2, 3, 4], []), ([5, 6, 7, 8, 9, 10, 11, 12, 13, 14], [])] (by kernel_rfl) (by kernel_rfl) (by kernel_rfl) (fun _ _ d _ _ h => by cases d <;> exact h) ?_
                refine ⟨(fun w' => ∃ p' : Regrown, w' = grow (redrawn wr p'.d) p'.os), ⟨⟨wr.drawn + 1, #[]⟩, by rw [grow_empty]; rfl⟩, ?_⟩
                refine wpR_of (lr := [_, _, _, _, _]) rfl ?_
                iterate 5 (refine wpR_step rfl (fun K hK => ?_); go_simp; refine hK _ ?_; clear hK K)
                refine wpR_nil ?_
                refine wpX_end ?_
                refine ⟨(fun w' => ∃ p' : Regrown, w' = grow (redrawn wr p'.d) p'.os), ⟨⟨wr.drawn + 1, #[]⟩, by rw [grow_empty]; rfl⟩, ?_⟩
                refine wpR_of (lr := [_, _, _, _, _, _, _, _, _, _]) rfl ?_
                iterate 9 (refine wpR_stepG (by kernel_rfl) (fun K hK => ?_); go_simp; refine hK _ ?_; clear hK K)
                refine wpR_step rfl (fun K hK => ?_)
                go_simp
                refine hK _ ?_
                clear hK K
                refine wpR_nil ?_
                refine wpX_end (stg_nil ?_)
                clear kA kB hqt hq0
                go_wp2_with fail
                go_roundw
                case rel => exact ⟨q + 1, by omega, by go_num, HB3.out⟩
                case measure => simp [intOf]; omega
              · have hqM : ¬ ((q : Int) < (ny : Int)) := by omega
                clear hb cA kA hqb
                go_wp2_with fail
                refine wp_region_stages [([0, 1, 2, 3, 4], []), ([5, 6, 7, 8, 9, 10, 11, 12, 13, 14], [])] (by kernel_rfl) (by kernel_rfl) (by kernel_rfl) (fun _ _ d _ _ h => by cases d <;> exact h) ?_
                refine ⟨(fun w' => ∃ p' : Regrown, w' = grow (redrawn wr p'.d) p'.os), ⟨⟨wr.drawn + 1, #[]⟩, by rw [grow_empty]; rfl⟩, ?_⟩
                refine wpR_of (lr := [_, _, _, _, _]) rfl ?_
                iterate 5 (refine wpR_step rfl (fun K hK => ?_); go_simp; refine hK _ ?_; clear hK K)
                refine wpR_nil ?_
                refine wpX_end ?_
                refine ⟨(fun w' => ∃ p' : Regrown, w' = grow (redrawn wr p'.d) p'.os), ⟨⟨wr.drawn + 1, #[]⟩, by rw [grow_empty]; rfl⟩, ?_⟩
                refine wpR_of (lr := [_, _, _, _, _, _, _, _, _, _]) rfl ?_
                iterate 9 (refine wpR_skip (by kernel_rfl) ?_)
                refine wpR_step rfl (fun K hK => ?_)
                go_simp
                refine hK _ ?_
                clear hK K
                refine wpR_nil ?_
                refine wpX_end (stg_nil ?_)
                clear hqt hq0
                go_wp2_with fail
                go_roundw
                case rel => exact ⟨q + 1, by omega, by go_num, HB3.out⟩
                case measure => simp [intOf]; omega
            · obtain rfl : q = nx := by omega
              clear hqx hq
              have HB4 := Lib.hid (HB2.out.trans (hb.mono HB2.out.size))
              clear hb HB3 HB2
              go_wp2_with fail
              go_roundw
              case rel => exact ⟨i + 1, .inl (by omega), by go_num, HB4.out⟩
              case measure => simp [intOf]; omega
        · have LC := Lib.hid (LB.out.step hb)
          clear hb
          go_wp2_with fail
          go_ret
          exact ⟨rfl, LC.out.bel⟩
end Go.Proofs.YthcjaegnnfiboaaDoor

namespace Go.Proofs.YthcjaegnnfiboaaDoor.fnBarsAlign
open Go.ChangeShapes Go.WideShapes Go.ChangeAt Go.RowKit
set_option maxRecDepth 100000

theorem own : ownKnob Tryd.prog.godebug = none := by kernel_rfl

theorem contract (H : Type) (enc : TypeId × Value → H) (W : World) (base : Nat) (args : Array Value) (ds gs : List (DataW H)) (before : List MemPlace)
    (hval : ∀ (j : Nat) t v, Tryd.f5.params[j]? = some t → args[j]? = some v → Value.okWide Tryd.prog W .any base t v)
    (hW : DataW.Whole enc Tryd.prog Tryd.f5.params.toList Rows.fnBarsAlignSpec.vars false W args.toList ds gs before)
    (hL : laidMetH Tryd.prog Rows.fnBarsAlignRow.laid W) :
    Calls Tryd.prog 5 args W fun e W' => ∃ v, e = .returned v ∧ Rows.fnBarsAlignSpec.post enc Tryd.prog Tryd.f5 false true false false W args v W' := by
  have hW' := hW
  obtain ⟨p, q, hA0, hV, rfl, hfz, hnd⟩ := hW
  have hA : DataW.TrodAll enc Tryd.prog W 0 (fun _ => true) true Tryd.f5.params.toList args.toList ds p := hA0
  rw [Tryd.params5] at hA hval
  obtain ⟨v0, vs0, d0, ds0, p0, q0, hargs, rfl, rfl, h0, r0⟩ := trodAll_cons hA
  obtain ⟨v1, vs1, d1, ds1, p1, q1, rfl, rfl, rfl, h1, r1⟩ := trodAll_cons r0
  obtain ⟨rfl, rfl, rfl⟩ := trodAll_nil r1
  obtain rfl : args = #[v0, v1] := by cases args; simp_all
  obtain ⟨mn0, tb0, pd0, fl0, ch0, rfl⟩ := open_conf (hval 0 _ _ rfl rfl)
  obtain ⟨bs1, hrd1⟩ := open_rd (hval 1 _ _ rfl rfl) h1
  refine (barsAlign_calls W mn0 tb0 pd0 fl0 ch0 hrd1 (tabs_of hL)).mono fun e W' ⟨he, hb⟩ => ?_
  subst he
  refine ⟨_, rfl, law_post rfl ?_ (by kernel_rfl) ?_ hW' hb⟩
  · intro ds hds
    match ds, hds with
    | [a, b], _ => rfl
  · rw [Tryd.params5]
    intro t ht
    simp at ht
    rcases ht with rfl | rfl <;> exact of_decide_eq_true (by kernel_rfl)

theorem laid_met (os : Os) : laidMet Tryd.prog Rows.fnBarsAlignRow.laid ((laidWorld os).forCall (fun _ _ => 0) ⟨#[], #[conf0, .slice none 0 0], []⟩).memory :=
  laidMet_of_run' 8 (by kernel_rfl) (by kernel_rfl)
theorem reads (os : Os) {H : Type} (enc : TypeId × Value → H) : ∃ places, DataW.whole enc Tryd.prog ((laidWorld os).forCall (fun _ _ => 0) ⟨#[], #[conf0, .slice none 0 0], []⟩).memory Tryd.f5.params.toList Rows.fnBarsAlignSpec.vars false (#[conf0, .slice none 0 0] : Array Value).toList 8 = some ([.agg [.lit (.int .i64 0), .lit (.int .i64 0), .lit (.int .i64 0), .lit (.int .u8 0), .lit (.int .i64 0)], .nil], [], places) :=
  ⟨[], by kernel_rfl⟩

set_option maxRecDepth 100000 in
theorem lifted (os : Os) (started : os.Started) (H : Type) (enc : TypeId × Value → H) (F : Stop.Interp) :
    ReturnsInHanded {} Tryd.checked os 5 .any ((OpenSpec.ofChange Rows.fnBarsAlignSpec).preRow enc Tryd.prog Tryd.f5 Rows.fnBarsAlignRow.domain false Rows.fnBarsAlignRow.laid) (((OpenSpec.ofChange Rows.fnBarsAlignSpec).at F).post enc Tryd.prog Tryd.f5 false true false false) := by
  obtain ⟨places, hx⟩ := reads os enc
  refine returnsInHanded_of_row (C := Tryd.checked) (s := OpenSpec.ofChange Rows.fnBarsAlignSpec) own started (by kernel_rfl) Tryd.func5
    (witness_row_at (enc := enc) (C := Tryd.checked) false (laidWorld os) #[conf0, .slice none 0 0] rfl (by kernel_rfl) (by kernel_rfl) (by kernel_rfl)
      (OpenSpec.preRow_of_cond 8 hx (by kernel_rfl) (fun k hk => by cases hk) (by kernel_rfl) (laid_met os))) ?_
  intro W base args ds gs before hval hW _ _ _ hL _ _
  exact contract H enc W base args ds gs before hval hW hL

theorem said : Rows.FnBarsAlignSaid :=
  OpenClaim.holds_of_cond 5 Tryd.f5 rfl rfl rfl rfl rfl rfl rfl ⟨rfl, rfl, rfl, rfl, rfl⟩ rfl rfl rfl rfl rfl (by kernel_rfl) Tryd.func5 (by kernel_rfl)
    (of_decide_eq_true (by kernel_rfl)) (by unfold Func.isWrapper; first | (rw [if_pos (by decide +kernel)]; kernel_rfl) | (rw [if_neg (by decide +kernel)]; exact ⟨rfl, rfl⟩))
    (fun os started H enc _ F => by rw [OpenClaim.pre_eq_preRow]; exact lifted os started H enc F)

theorem plain (f : FuncId) (fn : Func) (hf : Tryd.pinned.checked.prog.funcNamed "loop.example/pub-tabcolumns/laws.FnBarsAlign" = some f) (hfn : Tryd.pinned.checked.prog.funcs[f]? = some fn) :
    true = Tryd.pinned.checked.prog.looks [] ∧ ∀ (j : Nat) t, fn.params[j]? = some t → Tryd.pinned.checked.prog.wantsStandIn t = false := by
  obtain rfl : f = 5 := Option.some.inj ((show Tryd.prog.funcNamed "loop.example/pub-tabcolumns/laws.FnBarsAlign" = some 5 by kernel_rfl).symm.trans hf) |>.symm
  obtain rfl : fn = Tryd.f5 := (Option.some.inj (Tryd.func5.symm.trans hfn)).symm
  refine ⟨by kernel_rfl, fun j t ht => ?_⟩
  rw [Tryd.params5] at ht
  have hm := Array.mem_of_getElem? ht
  simp at hm
  rcases hm with rfl | rfl
  · exact (show Tryd.prog.wantsStandIn 23 = false by kernel_rfl)
  · exact (show Tryd.prog.wantsStandIn 24 = false by kernel_rfl)

theorem card : Rows.FnBarsAlignCardSaid :=
  Claim7.holds_tied_plain_at .later [] _ _ _ _ said (fun _ h => by cases h) (by kernel_rfl) (fun _ h => by cases h) fnBarsAlign_row_tie rfl ⟨rfl, rfl⟩ (by kernel_rfl) rfl plain (by kernel_rfl)
end Go.Proofs.YthcjaegnnfiboaaDoor.fnBarsAlign

namespace Go.Proofs.YthcjaegnnfiboaaDoor
theorem fnBarsAlign_card : Rows.FnBarsAlignCardSaid := fnBarsAlign.card
#print axioms fnBarsAlign_card
end Go.Proofs.YthcjaegnnfiboaaDoor
