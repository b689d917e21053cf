/- 'FnRightAsLong': aligned to the right each line is as long as to the left, with the same text. -/
import Derived.Test.YthcjaegnnfiboaaDoorCards
import Derived.Test.YthcjaegnnfiboaaDoorTie
import Derived.Test.YthcjaegnnfiboaaDoorVe
import Derived.Test.YthcjaegnnfiboaaDoorQe
import Derived.Test.YthcjaegnnfiboaaDoorLs
import Derived.Test.YthcjaegnnfiboaaDoorOrx
import Derived.WalkKit
import Derived.ProofKit
import Derived.OpenShut
import Derived.Deep.DeepHandedRow
import Derived.Deep.DeepWitnessRowRef
namespace Go.Proofs.YthcjaegnnfiboaaDoor
open Go.RowKit Go.Tw Go.Sort
set_option maxRecDepth 100000

set_option maxHeartbeats 8000000 in
theorem rightAsLong_calls (w : World) (mn tb pd fl : Int) (ch : UInt8) {v : Value} {s : List UInt8} (h : Rd w v s) (hT : Lib.Utf8Tabs 0 1 w) :
    Calls Tryd.prog 12 #[.agg #[.int .i64 mn, .int .i64 tb, .int .i64 pd, .int .u8 ch.toNat, .int .i64 fl], v] w fun e w' => e = .returned (.bool true) ∧ Below w.heap.size w w' := by
  have L0 := Lib.hid (LS.start (mn := mn) (tb := tb) (pd := pd) (ch := ch) (fl := fl) h)
  have HT := Lib.hid hT
  obtain ⟨ao, cp, rfl, g1, g2⟩ := L0.out.shape
  obtain ⟨d0, d1, d2, d3, d4⟩ := L0.out.cells
  clear h hT
  by_cases hl : s.length ≤ 2147483647
  rotate_left
  · go_enter Tryd.func12, Tryd.ntmps12
    go_wp2_with fail
    go_ret
    exact ⟨rfl, L0.out.bel⟩
  go_enter Tryd.func12, Tryd.ntmps12
  go_wp2_with fail
  refine (spaces_calls _ mn tb pd fl ch L0.out.rd (Utf8Tabs_below HT.out L0.out.bel)).mono ?_
  rintro e w1 ⟨b, rfl, hb1, hfact⟩
  have L1 := Lib.hid (L0.out.step hb1)
  have HFA := Lib.hid hfact
  clear hb1 L0 d0 d1 d2 d3 d4 hfact
  cases b
  · go_wp2_with fail
    go_ret
    exact ⟨rfl, L1.out.bel⟩
  obtain ⟨m, t, p, f, rfl, rfl, rfl, rfl, l1, l2, l3, l4, hs, h9, h128, h16, h32, ho⟩ := HFA.out rfl
  have H9 := Lib.hid h9
  have H128 := Lib.hid h128
  have H16 := Lib.hid h16
  have H32 := Lib.hid h32
  have HO := Lib.hid ho
  clear HFA h9 h128 h16 h32 ho
  have HTM := Lib.hid (tame_calls w1 L1.out.rd (by omega))
  obtain ⟨xt, hxt⟩ : ∃ x, x = tame s := ⟨_, rfl⟩
  rw [← hxt] at HTM
  have HXT := Lib.hid hxt
  clear hxt
  go_wp2_with fail
  refine HTM.out.mono ?_
  rintro e wt ⟨rfl, rfl⟩
  clear HTM
  cases xt
  · go_wp2_with fail
    go_ret
    exact ⟨rfl, L1.out.bel⟩
  have HTm := Lib.hid (tame_Tm HXT.out.symm)
  clear HXT
  obtain ⟨d0, d1, d2, d3, d4⟩ := L1.out.cells
  go_wp2_with fail
  refine (feeds_calls w1 m t p f l4 ch L1.out.rd (by omega)).mono ?_
  rintro e w2 ⟨b, rfl, hb2, hfd⟩
  have L2 := Lib.hid (L1.out.step hb2)
  have HFD := Lib.hid hfd
  clear hb2 L1 hfd d0 d1 d2 d3 d4
  cases b
  rotate_left
  · go_wp2_with fail
    go_ret
    exact ⟨rfl, L2.out.bel⟩
  have HNS := Lib.hid (show noShut s from by have := HFD.out rfl; rwa [cellsGo_tame s [] HTm.out] at this)
  clear HFD
  obtain ⟨d0, d1, d2, d3, d4⟩ := L2.out.cells
  have e10 := u8_eq (b := ch) (c := 10) (n := 10) rfl
  by_cases h10 : ch = 10
  · rw [decide_eq_true h10] at e10
    clear h10
    go_wp2_with fail
    go_ret
    exact ⟨rfl, L2.out.bel⟩
  rw [decide_eq_false h10] at e10
  have H10 := Lib.hid h10
  clear h10
  obtain ⟨gT, ht64, hgT, hTT⟩ := cfg_with f l4 4 (by simp [flagsL]) true
  obtain ⟨gF, hf64, hgF, hFF⟩ := cfg_with f l4 4 (by simp [flagsL]) false
  have HGT := Lib.hid hgT
  have HGF := Lib.hid hgF
  obtain ⟨M, hM⟩ : ∃ M, M = (linesT s).map view := ⟨_, rfl⟩
  obtain ⟨N, hN⟩ : ∃ n, n = M.length := ⟨_, rfl⟩
  have hsh : ((linesGo [] (cellsGo (cfgOf m t p f ch) ⟨[], 0, 0⟩ [] s)).map List.length).length = N := by
    rw [hN, hM, cellsGo_tame s [] HTm.out]
    simp [linesT]
  obtain ⟨LF, hLF⟩ : ∃ x, x = linesO (cfgOf m t p gF ch) (Wd (cfgOf m t p gF ch) M) 0 M := ⟨_, rfl⟩
  obtain ⟨LR, hLR⟩ : ∃ x, x = linesO (cfgOf m t p gT ch) (Wd (cfgOf m t p gT ch) M) 0 M := ⟨_, rfl⟩
  have HL1 := Lib.hid (show LF.length = N by rw [hLF, linesO_len, hN])
  have HL2 := Lib.hid (show LR.length = N by rw [hLR, linesO_len, hN])
  have HSH := Lib.hid hsh
  have HFA := Lib.hid (show ∀ (i : Nat) x y, LF[i]? = some x → LR[i]? = some y → x.length = y.length ∧ x.filter (· != ch) = y.filter (· != ch) from fun i x y hx hy => by
    rw [hLF] at hx
    rw [hLR] at hy
    exact lines_right (c := cfgOf m t p gF ch) (d := cfgOf m t p gT ch) ⟨rfl, rfl, rfl, rfl⟩ H9.out (((hFF m t p ch).2 8 (by simp [flagsL]) (by decide)).trans ((hTT m t p ch).2 8 (by simp [flagsL]) (by decide)).symm) (((hFF m t p ch).2 16 (by simp [flagsL]) (by decide)).trans H16.out) (((hTT m t p ch).2 16 (by simp [flagsL]) (by decide)).trans H16.out) (((hFF m t p ch).2 32 (by simp [flagsL]) (by decide)).trans H32.out) (((hTT m t p ch).2 32 (by simp [flagsL]) (by decide)).trans H32.out) M hx hy)
  have HSF := Lib.hid (show splitG [] (formatO (cfgOf m t p gF ch) s) = LF from by
    rw [hLF, hM]
    exact split_format HTm.out (by rw [cellsGo_tame s [] HTm.out]; have := HO.out; rwa [cellsGo_tame s [] HTm.out] at this) H10.out (fun h => by rw [((hFF m t p ch).2 32 (by simp [flagsL]) (by decide)).trans H32.out] at h; cases h))
  have HSR := Lib.hid (show splitG [] (formatO (cfgOf m t p gT ch) s) = LR from by
    rw [hLR, hM]
    exact split_format HTm.out (by rw [cellsGo_tame s [] HTm.out]; have := HO.out; rwa [cellsGo_tame s [] HTm.out] at this) H10.out (fun h => by rw [((hTT m t p ch).2 32 (by simp [flagsL]) (by decide)).trans H32.out] at h; cases h))
  clear hTT hFF hgT hgF hLF hLR hsh hN hM
  go_wp2_with fail
  refine (with_nat w2 m t p f gF ch 4 false HGF.out).mono ?_
  rintro e w3 ⟨rfl, hb3⟩
  have L3 := Lib.hid (L2.out.step hb3)
  clear hb3 L2 d0 d1 d2 d3 d4
  have HW := Lib.hid (write_one w3 m t p gF hf64 ch L3.out.rd (by omega) l1 l2 l3)
  go_wp2_with fail
  refine HW.out.mono ?_
  rintro e w4 ⟨v4, rfl, hr4, hb4⟩
  have L4 := Lib.hid (L3.out.step hb4)
  obtain ⟨fl, hfl⟩ : ∃ x, x = formatO (cfgOf m t p gF ch) s := ⟨_, rfl⟩
  rw [← hfl] at hr4
  have HFfl := Lib.hid hfl
  clear hfl
  have HX4 := Lib.hid hr4
  obtain ⟨a4, c4, rfl, -, q4, -⟩ := hr4.val
  unfold maxLen at q4
  clear HW L3 hb4 hr4
  have hfl5 : fl.length ≤ 100000000000 := by rw [HFfl.out]; exact format_bound m t p gF ch l1 l2 l3 s hs
  have HSP := Lib.hid (split_calls w4 HX4.out (by omega))
  rw [show splitG [] fl = LF from by rw [HFfl.out]; exact HSF.out] at HSP
  go_wp2_with fail
  refine HSP.out.mono ?_
  rintro e w5 ⟨v5, rfl, hr5, hb5⟩
  have L5 := Lib.hid (L4.out.step hb5)
  obtain ⟨a5, c5, e5, q5, -⟩ := hr5.val
  rw [HL1.out] at e5 q5
  subst e5
  have HS5 := Lib.hid hr5
  have HLE5 := Lib.hid (show ∀ x ∈ LF, x.length ≤ 100000000000 from fun x hx => by
    have e : LF = splitG [] fl := (show splitG [] fl = LF from by rw [HFfl.out]; exact HSF.out).symm
    rw [e] at hx
    have := splitG_le _ _ x hx
    simp only [List.length_nil] at this
    omega)
  clear HSP L4 hb5 hr5 HX4 hfl5
  obtain ⟨d0, d1, d2, d3, d4⟩ := L5.out.cells
  go_wp2_with fail
  refine (with_nat w5 m t p f gT ch 4 true HGT.out).mono ?_
  rintro e w6 ⟨rfl, hb6⟩
  have L6 := Lib.hid (L5.out.step hb6)
  have HS6 := Lib.hid (HS5.out.below hb6)
  clear hb6 L5 HS5 d0 d1 d2 d3 d4
  have HW := Lib.hid (write_one w6 m t p gT ht64 ch L6.out.rd (by omega) l1 l2 l3)
  go_wp2_with fail
  refine HW.out.mono ?_
  rintro e w7 ⟨v7, rfl, hr7, hb7⟩
  have L7 := Lib.hid (L6.out.step hb7)
  have HS7 := Lib.hid (HS6.out.below hb7)
  clear HS6
  obtain ⟨fr, hfr⟩ : ∃ x, x = formatO (cfgOf m t p gT ch) s := ⟨_, rfl⟩
  rw [← hfr] at hr7
  have HFfr := Lib.hid hfr
  clear hfr
  have HX7 := Lib.hid hr7
  obtain ⟨a7, c7, rfl, -, q7, -⟩ := hr7.val
  unfold maxLen at q7
  clear HW L6 hb7 hr7
  have hfl8 : fr.length ≤ 100000000000 := by rw [HFfr.out]; exact format_bound m t p gT ch l1 l2 l3 s hs
  have HSP := Lib.hid (split_calls w7 HX7.out (by omega))
  rw [show splitG [] fr = LR from by rw [HFfr.out]; exact HSR.out] at HSP
  go_wp2_with fail
  refine HSP.out.mono ?_
  rintro e w8 ⟨v8, rfl, hr8, hb8⟩
  have L8 := Lib.hid (L7.out.step hb8)
  have HS8 := Lib.hid (HS7.out.below hb8)
  clear HS7
  obtain ⟨a8, c8, e8, q8, -⟩ := hr8.val
  rw [HL2.out] at e8 q8
  subst e8
  have HR8 := Lib.hid hr8
  have HLE8 := Lib.hid (show ∀ x ∈ LR, x.length ≤ 100000000000 from fun x hx => by
    have e : LR = splitG [] fr := (show splitG [] fr = LR from by rw [HFfr.out]; exact HSR.out).symm
    rw [e] at hx
    have := splitG_le _ _ x hx
    simp only [List.length_nil] at this
    omega)
  clear HSP L7 hb8 hr8 HX7 hfl8
  obtain ⟨d0, d1, d2, d3, d4⟩ := L8.out.cells
  go_wp2_with fail
  refine (shape_calls w8 m t p f l4 ch L8.out.rd (by omega)).mono ?_
  rintro e w9 ⟨v9, rfl, hr9, hb9⟩
  obtain ⟨a9, c9, e9, q9, -⟩ := hr9.val
  rw [HSH.out] at e9 q9
  subst e9
  have L9 := Lib.hid (L8.out.step hb9)
  have HS9 := Lib.hid (HS8.out.below hb9)
  have HR9 := Lib.hid (HR8.out.below hb9)
  clear hb9 hr9 L8 HS8 HR8 HSF HSR HSH d0 d1 d2 d3 d4
  go_wp2_with fail
  go_loopw [58] (fun t58 wr => ∃ j : Nat, j ≤ N ∧ t58 = .int .i64 j ∧ Below w9.heap.size w9 wr) (fun t58 _ => N - (intOf t58).toNat)
  case atStart => exact ⟨0, Nat.zero_le _, rfl, Below.refl _ _⟩
  case round =>
    obtain ⟨j, hj, rfl, hb⟩ := hrel
    by_cases hlt : j < N
    · have hj1 : j < LF.length := by rw [HL1.out]; exact hlt
      have hj2 : j < LR.length := by rw [HL2.out]; exact hlt
      obtain ⟨k0, o0, au, cu, rfl, cF, rdF⟩ := (HS9.out.below hb).at hj1
      obtain ⟨k1, o1, bu, du, rfl, cR, rdR⟩ := (HR9.out.below hb).at hj2
      obtain ⟨hee, hff⟩ := HFA.out j LF[j] LR[j] (List.getElem?_eq_getElem hj1) (List.getElem?_eq_getElem hj2)
      have hxl := HLE5.out LF[j] (List.getElem_mem hj1)
      rw [← hee] at cR rdR
      generalize hxg : LF[j] = x at cF rdF hee hff hxl cR rdR
      generalize hyg : LR[j] = y at rdR hee hff
      have HXG := Lib.hid hxg
      have HYG := Lib.hid hyg
      have HEE := Lib.hid hee
      have HFF := Lib.hid hff
      have RF := Lib.hid rdF
      have RR := Lib.hid rdR
      have LB := Lib.hid (L9.out.step hb)
      have HB := Lib.hid hb
      clear hxg hyg hee hff rdF rdR hb
      obtain ⟨d0, d1, d2, d3, d4⟩ := LB.out.cells
      have kF : ∀ (p' : Regrown), (grow (redrawn wr p'.d) p'.os).cell? ⟨k0, o0 + j, none⟩ = some (.slice au x.length cu) := fun p' => cell_regrown cF p'.d p'.os
      have kR : ∀ (p' : Regrown), (grow (redrawn wr p'.d) p'.os).cell? ⟨k1, o1 + j, none⟩ = some (.slice bu x.length du) := fun p' => cell_regrown cR p'.d p'.os
      have k0 : ∀ (p' : Regrown), (grow (redrawn wr p'.d) p'.os).cell? ⟨w.heap.size, 0, none⟩ = some (.int .i64 m) := fun p' => cell_regrown d0 p'.d p'.os
      have k1 : ∀ (p' : Regrown), (grow (redrawn wr p'.d) p'.os).cell? ⟨w.heap.size, 1, none⟩ = some (.int .i64 t) := fun p' => cell_regrown d1 p'.d p'.os
      have k2 : ∀ (p' : Regrown), (grow (redrawn wr p'.d) p'.os).cell? ⟨w.heap.size, 2, none⟩ = some (.int .i64 p) := fun p' => cell_regrown d2 p'.d p'.os
      have k3 : ∀ (p' : Regrown), (grow (redrawn wr p'.d) p'.os).cell? ⟨w.heap.size, 3, none⟩ = some (.int .u8 ch.toNat) := fun p' => cell_regrown d3 p'.d p'.os
      have k4 : ∀ (p' : Regrown), (grow (redrawn wr p'.d) p'.os).cell? ⟨w.heap.size, 4, none⟩ = some (.int .i64 f) := fun p' => cell_regrown d4 p'.d p'.os
      have hjN : (j : Int) < (N : Int) := by omega
      have hj0 : (0 : Int) ≤ (j : Int) := by omega
      have hjt : (j : Int).toNat = j := by omega
      go_wp2_with fail
      refine wp_region_stages [([0, 1, 2, 3, 4, 5, 6, 7, 8, 9, 10, 11], []), ([12, 13, 14, 15, 16, 17, 19, 20, 21, 22, 23, 24], [18, 25, 26, 27, 28])] (by kernel_rfl) (by kernel_rfl) (by kernel_rfl) (fun _ _ d _ _ h => by cases d <;> exact h) ?_
      refine ⟨(fun w' => ∃ p' : Regrown, w' = grow (redrawn wr p'.d) p'.os), ⟨⟨wr.drawn + 1, #[]⟩, by rw [grow_empty]; rfl⟩, ?_⟩
      refine wpR_of (lr := [_, _, _, _, _, _, _, _, _, _, _, _]) rfl ?_
      iterate 12 (refine wpR_step rfl (fun K hK => ?_); go_simp; refine hK _ ?_; clear hK K)
      refine wpR_nil ?_
      refine wpX_end ?_
      refine ⟨(fun w' => ∃ p' : Regrown, w' = grow (redrawn wr p'.d) p'.os), ⟨⟨wr.drawn + 1, #[]⟩, by rw [grow_empty]; rfl⟩, ?_⟩
      refine wpR_of (lr := [_, _, _, _, _, _, _, _, _, _, _, _]) rfl ?_
      iterate 12 (refine wpR_stepG (by kernel_rfl) (fun K hK => ?_); go_simp; refine hK _ ?_; clear hK K)
      refine wpR_nil ?_
      clear k0 k1 k2 k3 k4 kF kR cF cR d0 d1 d2 d3 d4
      refine wpX_one 18 _ (by kernel_rfl) rfl (by kernel_rfl) (fun K hK => ?_)
      go_simp
      refine (without_calls wr.drew RF.out.drew ch (by omega)).mono ?_
      rintro e w10 ⟨v10, rfl, hr10, hb10⟩
      have hba := below_drawn hb10
      refine hK _ _ (regrown_of_below hba) ?_
      clear hK K
      refine wpX_one 25 _ (by kernel_rfl) rfl (by kernel_rfl) (fun K hK => ?_)
      go_simp
      refine (without_calls w10 (RR.out.drew.below hb10) ch (by have := HEE.out; omega)).mono ?_
      rintro e w11 ⟨v11, rfl, hr11, hb11⟩
      have hbc := hba.trans (hb11.mono hba.size)
      refine hK _ _ (regrown_of_below hbc) ?_
      clear hK K
      have hSm := same_calls w11 (hr10.below hb11) hr11
      rw [decide_eq_true HFF.out] at hSm
      refine wpX_one 26 _ (by kernel_rfl) rfl (by kernel_rfl) (fun K hK => ?_)
      go_simp
      refine hSm.mono ?_
      rintro e w12 ⟨rfl, rfl⟩
      refine hK _ _ (regrown_of_below hbc) ?_
      clear hK K
      refine wpX_one 27 _ (by kernel_rfl) rfl (by kernel_rfl) (fun K hK => ?_)
      go_simp
      refine hK _ _ (regrown_of_below hbc) ?_
      clear hK K
      refine wpX_one 28 _ (by kernel_rfl) rfl (by kernel_rfl) (fun K hK => ?_)
      go_simp
      refine hK _ _ (regrown_of_below hbc) ?_
      clear hK K
      refine wpX_end (stg_nil ?_)
      have HB2 := Lib.hid (HB.out.trans (hbc.mono HB.out.size))
      clear hbc hba hb10 hb11 hr10 hr11 hSm hjt hj0
      go_wp2_with fail
      go_roundw
      case rel => exact ⟨j + 1, by omega, by go_num, HB2.out⟩
      case measure => simp [intOf]; omega
    · obtain rfl : j = N := by omega
      have LB := Lib.hid (L9.out.step hb)
      clear hb
      go_wp2_with fail
      go_ret
      exact ⟨rfl, LB.out.bel⟩
end Go.Proofs.YthcjaegnnfiboaaDoor

namespace Go.Proofs.YthcjaegnnfiboaaDoor.fnRightAsLong
open Go.ChangeShapes Go.WideShapes Go.ChangeAt Go.RowKit
set_option maxRecDepth 100000

theorem own : ownKnob Tryd.prog.godebug = none := by kernel_rfl

theorem contract (H : Type) (enc : TypeId × Value → H) (W : World) (base : Nat) (args : Array Value) (ds gs : List (DataW H)) (before : List MemPlace)
    (hval : ∀ (j : Nat) t v, Tryd.f12.params[j]? = some t → args[j]? = some v → Value.okWide Tryd.prog W .any base t v)
    (hW : DataW.Whole enc Tryd.prog Tryd.f12.params.toList Rows.fnRightAsLongSpec.vars false W args.toList ds gs before)
    (hL : laidMetH Tryd.prog Rows.fnRightAsLongRow.laid W) :
    Calls Tryd.prog 12 args W fun e W' => ∃ v, e = .returned v ∧ Rows.fnRightAsLongSpec.post enc Tryd.prog Tryd.f12 false true false false W args v W' := by
  have hW' := hW
  obtain ⟨p, q, hA0, hV, rfl, hfz, hnd⟩ := hW
  have hA : DataW.TrodAll enc Tryd.prog W 0 (fun _ => true) true Tryd.f12.params.toList args.toList ds p := hA0
  rw [Tryd.params12] at hA hval
  obtain ⟨v0, vs0, d0, ds0, p0, q0, hargs, rfl, rfl, h0, r0⟩ := trodAll_cons hA
  obtain ⟨v1, vs1, d1, ds1, p1, q1, rfl, rfl, rfl, h1, r1⟩ := trodAll_cons r0
  obtain ⟨rfl, rfl, rfl⟩ := trodAll_nil r1
  obtain rfl : args = #[v0, v1] := by cases args; simp_all
  obtain ⟨mn0, tb0, pd0, fl0, ch0, rfl⟩ := open_conf (hval 0 _ _ rfl rfl)
  obtain ⟨bs1, hrd1⟩ := open_rd (hval 1 _ _ rfl rfl) h1
  refine (rightAsLong_calls W mn0 tb0 pd0 fl0 ch0 hrd1 (tabs_of hL)).mono fun e W' ⟨he, hb⟩ => ?_
  subst he
  refine ⟨_, rfl, law_post rfl ?_ (by kernel_rfl) ?_ hW' hb⟩
  · intro ds hds
    match ds, hds with
    | [a, b], _ => rfl
  · rw [Tryd.params12]
    intro t ht
    simp at ht
    rcases ht with rfl | rfl <;> exact of_decide_eq_true (by kernel_rfl)

theorem laid_met (os : Os) : laidMet Tryd.prog Rows.fnRightAsLongRow.laid ((laidWorld os).forCall (fun _ _ => 0) ⟨#[], #[conf0, .slice none 0 0], []⟩).memory :=
  laidMet_of_run' 8 (by kernel_rfl) (by kernel_rfl)
theorem reads (os : Os) {H : Type} (enc : TypeId × Value → H) : ∃ places, DataW.whole enc Tryd.prog ((laidWorld os).forCall (fun _ _ => 0) ⟨#[], #[conf0, .slice none 0 0], []⟩).memory Tryd.f12.params.toList Rows.fnRightAsLongSpec.vars false (#[conf0, .slice none 0 0] : Array Value).toList 8 = some ([.agg [.lit (.int .i64 0), .lit (.int .i64 0), .lit (.int .i64 0), .lit (.int .u8 0), .lit (.int .i64 0)], .nil], [], places) :=
  ⟨[], by kernel_rfl⟩

set_option maxRecDepth 100000 in
theorem lifted (os : Os) (started : os.Started) (H : Type) (enc : TypeId × Value → H) (F : Stop.Interp) :
    ReturnsInHanded {} Tryd.checked os 12 .any ((OpenSpec.ofChange Rows.fnRightAsLongSpec).preRow enc Tryd.prog Tryd.f12 Rows.fnRightAsLongRow.domain false Rows.fnRightAsLongRow.laid) (((OpenSpec.ofChange Rows.fnRightAsLongSpec).at F).post enc Tryd.prog Tryd.f12 false true false false) := by
  obtain ⟨places, hx⟩ := reads os enc
  refine returnsInHanded_of_row (C := Tryd.checked) (s := OpenSpec.ofChange Rows.fnRightAsLongSpec) own started (by kernel_rfl) Tryd.func12
    (witness_row_at (enc := enc) (C := Tryd.checked) false (laidWorld os) #[conf0, .slice none 0 0] rfl (by kernel_rfl) (by kernel_rfl) (by kernel_rfl)
      (OpenSpec.preRow_of_cond 8 hx (by kernel_rfl) (fun k hk => by cases hk) (by kernel_rfl) (laid_met os))) ?_
  intro W base args ds gs before hval hW _ _ _ hL _ _
  exact contract H enc W base args ds gs before hval hW hL

theorem said : Rows.FnRightAsLongSaid :=
  OpenClaim.holds_of_cond 12 Tryd.f12 rfl rfl rfl rfl rfl rfl rfl ⟨rfl, rfl, rfl, rfl, rfl⟩ rfl rfl rfl rfl rfl (by kernel_rfl) Tryd.func12 (by kernel_rfl)
    (of_decide_eq_true (by kernel_rfl)) (by unfold Func.isWrapper; first | (rw [if_pos (by decide +kernel)]; kernel_rfl) | (rw [if_neg (by decide +kernel)]; exact ⟨rfl, rfl⟩))
    (fun os started H enc _ F => by rw [OpenClaim.pre_eq_preRow]; exact lifted os started H enc F)

theorem plain (f : FuncId) (fn : Func) (hf : Tryd.pinned.checked.prog.funcNamed "loop.example/pub-tabcolumns/laws.FnRightAsLong" = some f) (hfn : Tryd.pinned.checked.prog.funcs[f]? = some fn) :
    true = Tryd.pinned.checked.prog.looks [] ∧ ∀ (j : Nat) t, fn.params[j]? = some t → Tryd.pinned.checked.prog.wantsStandIn t = false := by
  obtain rfl : f = 12 := Option.some.inj ((show Tryd.prog.funcNamed "loop.example/pub-tabcolumns/laws.FnRightAsLong" = some 12 by kernel_rfl).symm.trans hf) |>.symm
  obtain rfl : fn = Tryd.f12 := (Option.some.inj (Tryd.func12.symm.trans hfn)).symm
  refine ⟨by kernel_rfl, fun j t ht => ?_⟩
  rw [Tryd.params12] at ht
  have hm := Array.mem_of_getElem? ht
  simp at hm
  rcases hm with rfl | rfl
  · exact (show Tryd.prog.wantsStandIn 23 = false by kernel_rfl)
  · exact (show Tryd.prog.wantsStandIn 24 = false by kernel_rfl)

theorem card : Rows.FnRightAsLongCardSaid :=
  Claim7.holds_tied_plain_at .later [] _ _ _ _ said (fun _ h => by cases h) (by kernel_rfl) (fun _ h => by cases h) fnRightAsLong_row_tie rfl ⟨rfl, rfl⟩ (by kernel_rfl) rfl plain (by kernel_rfl)
end Go.Proofs.YthcjaegnnfiboaaDoor.fnRightAsLong

namespace Go.Proofs.YthcjaegnnfiboaaDoor
theorem fnRightAsLong_card : Rows.FnRightAsLongCardSaid := fnRightAsLong.card
#print axioms fnRightAsLong_card
end Go.Proofs.YthcjaegnnfiboaaDoor
