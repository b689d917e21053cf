/- 'FnMorePad': with more padding no line is shorter. -/
import Derived.Test.YthcjaegnnfiboaaDoorCards
import Derived.Test.YthcjaegnnfiboaaDoorTie
import Derived.Test.YthcjaegnnfiboaaDoorVe
import Derived.Test.YthcjaegnnfiboaaDoorQe
import Derived.Test.YthcjaegnnfiboaaDoorLs
import Derived.Test.YthcjaegnnfiboaaDoorOrx
import Derived.WalkKit
import Derived.ProofKit
import Derived.OpenShut
import Derived.Deep.DeepHandedRow
import Derived.Deep.DeepWitnessRowRef
namespace Go.Proofs.YthcjaegnnfiboaaDoor
open Go.RowKit Go.Tw Go.Sort
set_option maxRecDepth 100000

set_option maxHeartbeats 8000000 in
theorem morePad_calls (w : World) (mn tb pd fl : Int) (ch : UInt8) {v : Value} {s : List UInt8} (h : Rd w v s) (hT : Lib.Utf8Tabs 0 1 w) :
    Calls Tryd.prog 10 #[.agg #[.int .i64 mn, .int .i64 tb, .int .i64 pd, .int .u8 ch.toNat, .int .i64 fl], v] w fun e w' => e = .returned (.bool true) ∧ Below w.heap.size w w' := by
  have L0 := Lib.hid (LS.start (mn := mn) (tb := tb) (pd := pd) (ch := ch) (fl := fl) h)
  have HT := Lib.hid hT
  obtain ⟨ao, cp, rfl, g1, g2⟩ := L0.out.shape
  obtain ⟨d0, d1, d2, d3, d4⟩ := L0.out.cells
  clear h hT
  by_cases hl : s.length ≤ 2147483647
  rotate_left
  · go_enter Tryd.func10, Tryd.ntmps10
    go_wp2_with fail
    go_ret
    exact ⟨rfl, L0.out.bel⟩
  go_enter Tryd.func10, Tryd.ntmps10
  go_wp2_with fail
  refine (spaces_calls _ mn tb pd fl ch L0.out.rd (Utf8Tabs_below HT.out L0.out.bel)).mono ?_
  rintro e w1 ⟨b, rfl, hb1, hfact⟩
  have L1 := Lib.hid (L0.out.step hb1)
  have HFA := Lib.hid hfact
  clear hb1 L0 d0 d1 d2 d3 d4 hfact
  cases b
  · go_wp2_with fail
    go_ret
    exact ⟨rfl, L1.out.bel⟩
  obtain ⟨m, t, p, f, rfl, rfl, rfl, rfl, l1, l2, l3, l4, hs, h9, h128, h16, h32, ho⟩ := HFA.out rfl
  have H9 := Lib.hid h9
  have H128 := Lib.hid h128
  have H16 := Lib.hid h16
  have H32 := Lib.hid h32
  have HO := Lib.hid ho
  clear HFA h9 h128 h16 h32 ho
  have HTM := Lib.hid (tame_calls w1 L1.out.rd (by omega))
  obtain ⟨xt, hxt⟩ : ∃ x, x = tame s := ⟨_, rfl⟩
  rw [← hxt] at HTM
  have HXT := Lib.hid hxt
  clear hxt
  go_wp2_with fail
  refine HTM.out.mono ?_
  rintro e wt ⟨rfl, rfl⟩
  clear HTM
  cases xt
  · go_wp2_with fail
    go_ret
    exact ⟨rfl, L1.out.bel⟩
  have HTm := Lib.hid (tame_Tm HXT.out.symm)
  clear HXT
  obtain ⟨d0, d1, d2, d3, d4⟩ := L1.out.cells
  go_wp2_with fail
  refine (feeds_calls w1 m t p f l4 ch L1.out.rd (by omega)).mono ?_
  rintro e w2 ⟨b, rfl, hb2, hfd⟩
  have L2 := Lib.hid (L1.out.step hb2)
  have HFD := Lib.hid hfd
  clear hb2 L1 hfd d0 d1 d2 d3 d4
  cases b
  rotate_left
  · go_wp2_with fail
    go_ret
    exact ⟨rfl, L2.out.bel⟩
  have HNS := Lib.hid (show noShut s from by have := HFD.out rfl; rwa [cellsGo_tame s [] HTm.out] at this)
  clear HFD
  obtain ⟨d0, d1, d2, d3, d4⟩ := L2.out.cells
  have e10 := u8_eq (b := ch) (c := 10) (n := 10) rfl
  by_cases h10 : ch = 10
  · rw [decide_eq_true h10] at e10
    clear h10
    go_wp2_with fail
    go_ret
    exact ⟨rfl, L2.out.bel⟩
  rw [decide_eq_false h10] at e10
  have H10 := Lib.hid h10
  clear h10
  obtain ⟨z, hz0, hz⟩ : ∃ z : Nat, z = p + 1 ∧ ((p : Int) + 1) = (z : Int) := ⟨_, rfl, by omega⟩
  have hV := valid_calls (w2.alloc (.cells #[.int .i64 m, .int .i64 t, .int .i64 ((p : Int) + 1), .int .u8 ch.toNat, .int .i64 f] 23)) m t ((p : Int) + 1) f ch
  have hba : Below w2.heap.size w2 (w2.alloc (.cells #[.int .i64 m, .int .i64 t, .int .i64 ((p : Int) + 1), .int .u8 ch.toNat, .int .i64 f] 23)) := (Below.refl _ w2).alloc (Nat.le_refl _) _
  have hD := heap_alloc_new w2 (.cells #[.int .i64 m, .int .i64 t, .int .i64 ((p : Int) + 1), .int .u8 ch.toNat, .int .i64 f] 23)
  by_cases hv : Vld m t ((p : Int) + 1) f
  rotate_left
  · rw [decide_eq_false hv] at hV
    have HV := Lib.hid hV
    have HBA := Lib.hid hba
    clear hV hv hba hD hz
    go_wp2_with fail
    refine HV.out.mono ?_
    rintro e w3 ⟨rfl, hb3⟩
    have L3 := Lib.hid ((L2.out.step HBA.out).step hb3)
    clear hb3
    go_wp2_with fail
    go_ret
    exact ⟨rfl, L3.out.bel⟩
  rw [decide_eq_true hv] at hV
  have hz1 : z ≤ 1000 := by unfold Vld at hv; omega
  have HV := Lib.hid hV
  have HBA := Lib.hid hba
  have HD := Lib.hid hD
  have HZ := Lib.hid hz
  have HZ0 := Lib.hid hz0
  clear hV hv hba hD hz hz0
  go_wp2_with fail
  refine HV.out.mono ?_
  rintro e w3 ⟨rfl, hb3⟩
  have L3 := Lib.hid ((L2.out.step HBA.out).step hb3)
  have hD3 := (Tch.of_below (F := fun _ => False) hb3).heap HD.out id
  rw [HZ.out] at hD3
  have HD3 := Lib.hid hD3
  clear hb3 L2 HV HBA HD hD3 d0 d1 d2 d3 d4
  obtain ⟨M, hM⟩ : ∃ M, M = (linesT s).map view := ⟨_, rfl⟩
  obtain ⟨N, hN⟩ : ∃ n, n = M.length := ⟨_, rfl⟩
  have HSH := Lib.hid (show ((linesGo [] (cellsGo (cfgOf m t p f ch) ⟨[], 0, 0⟩ [] s)).map List.length).length = N by
    rw [hN, hM, cellsGo_tame s [] HTm.out]
    simp [linesT])
  obtain ⟨LX, hLX⟩ : ∃ x, x = linesO (cfgOf m t p f ch) (Wd (cfgOf m t p f ch) M) 0 M := ⟨_, rfl⟩
  obtain ⟨LY, hLY⟩ : ∃ x, x = linesO (cfgOf m t z f ch) (Wd (cfgOf m t z f ch) M) 0 M := ⟨_, rfl⟩
  have HL1 := Lib.hid (show LX.length = N by rw [hLX, linesO_len, hN])
  have HL2 := Lib.hid (show LY.length = N by rw [hLY, linesO_len, hN])
  have HFA := Lib.hid (show ∀ (i : Nat) x y, LX[i]? = some x → LY[i]? = some y → x.length ≤ y.length from fun i x y hx hy => by
    rw [hLX] at hx
    rw [hLY] at hy
    exact lines_longer (c := cfgOf m t p f ch) (d := cfgOf m t z f ch) (by have := HZ0.out; show _ ≤ _; simp only [cfgOf]; omega) (by have := HZ0.out; show _ ≤ _; simp only [cfgOf]; omega) H9.out rfl rfl H16.out H16.out rfl M hx hy)
  have HSX := Lib.hid (show splitG [] (formatO (cfgOf m t p f ch) s) = LX from by
    rw [hLX, hM]
    exact split_format HTm.out HO.out H10.out (fun h => by rw [H32.out] at h; cases h))
  have HSY := Lib.hid (show splitG [] (formatO (cfgOf m t z f ch) s) = LY from by
    rw [hLY, hM]
    exact split_format HTm.out (by rw [cellsGo_tame s [] HTm.out]; have := HO.out; rwa [cellsGo_tame s [] HTm.out] at this) H10.out (fun h => by have h2 : (cfgOf m t z f ch).flag 32 = false := H32.out; rw [h2] at h; cases h))
  clear hLX hLY hN hM
  have HWC := Lib.hid (show ∀ wz v, Wrs wz v [s] → Calls Tryd.prog 19 #[.agg #[.int .i64 m, .int .i64 t, .int .i64 p, .int .u8 ch.toNat, .int .i64 f], v] wz fun e w' => ∃ v', e = .returned v' ∧ Rd w' v' (formatO (cfgOf m t p f ch) s) ∧ Below wz.heap.size wz w' from fun wz v hv => write_many wz m t p f l4 ch (s := s) (by simp) hv (by omega) l1 l2 l3)
  have HWD := Lib.hid (show ∀ wz v, Wrs wz v [s] → Calls Tryd.prog 19 #[.agg #[.int .i64 m, .int .i64 t, .int .i64 z, .int .u8 ch.toNat, .int .i64 f], v] wz fun e w' => ∃ v', e = .returned v' ∧ Rd w' v' (formatO (cfgOf m t z f ch) s) ∧ Below wz.heap.size wz w' from fun wz v hv => write_many wz m t z f l4 ch (s := s) (by simp) hv (by omega) l1 l2 hz1)
  have HPX := Lib.hid (show ∀ wz v, Rd wz v (formatO (cfgOf m t p f ch) s) → Calls Tryd.prog 24 #[v] wz fun e w' => ∃ a c, e = .returned (.slice a N c) ∧ Ts w' (.slice a N c) LX ∧ Below wz.heap.size wz w' from fun wz v hv => by
    have hl := format_bound m t p f ch l1 l2 l3 s hs
    refine (split_calls wz hv (by omega)).mono ?_
    rintro e w' ⟨v', rfl, ht, hb⟩
    rw [HSX.out] at ht
    obtain ⟨a, c, e, _⟩ := ht.val
    rw [HL1.out] at e
    subst e
    exact ⟨a, c, rfl, ht, hb⟩)
  have HPY := Lib.hid (show ∀ wz v, Rd wz v (formatO (cfgOf m t z f ch) s) → Calls Tryd.prog 24 #[v] wz fun e w' => ∃ a c, e = .returned (.slice a N c) ∧ Ts w' (.slice a N c) LY ∧ Below wz.heap.size wz w' from fun wz v hv => by
    have hl := format_bound m t z f ch l1 l2 hz1 s hs
    refine (split_calls wz hv (by omega)).mono ?_
    rintro e w' ⟨v', rfl, ht, hb⟩
    rw [HSY.out] at ht
    obtain ⟨a, c, e, _⟩ := ht.val
    rw [HL2.out] at e
    subst e
    exact ⟨a, c, rfl, ht, hb⟩)
  clear HSX HSY
  obtain ⟨d0, d1, d2, d3, d4⟩ := L3.out.cells
  have k0 : ∀ (p' : Regrown), (grow (redrawn w3 p'.d) p'.os).cell? ⟨w.heap.size, 0, none⟩ = some (.int .i64 m) := fun p' => cell_regrown d0 p'.d p'.os
  have k1 : ∀ (p' : Regrown), (grow (redrawn w3 p'.d) p'.os).cell? ⟨w.heap.size, 1, none⟩ = some (.int .i64 t) := fun p' => cell_regrown d1 p'.d p'.os
  have k2 : ∀ (p' : Regrown), (grow (redrawn w3 p'.d) p'.os).cell? ⟨w.heap.size, 2, none⟩ = some (.int .i64 p) := fun p' => cell_regrown d2 p'.d p'.os
  have k3 : ∀ (p' : Regrown), (grow (redrawn w3 p'.d) p'.os).cell? ⟨w.heap.size, 3, none⟩ = some (.int .u8 ch.toNat) := fun p' => cell_regrown d3 p'.d p'.os
  have k4 : ∀ (p' : Regrown), (grow (redrawn w3 p'.d) p'.os).cell? ⟨w.heap.size, 4, none⟩ = some (.int .i64 f) := fun p' => cell_regrown d4 p'.d p'.os
  obtain ⟨b0, b1, b2, b3, b4⟩ := conf_at HD3.out
  have kd0 : ∀ (p' : Regrown), (grow (redrawn w3 p'.d) p'.os).cell? ⟨w2.heap.size, 0, none⟩ = some (.int .i64 m) := fun p' => cell_regrown b0 p'.d p'.os
  have kd1 : ∀ (p' : Regrown), (grow (redrawn w3 p'.d) p'.os).cell? ⟨w2.heap.size, 1, none⟩ = some (.int .i64 t) := fun p' => cell_regrown b1 p'.d p'.os
  have kd2 : ∀ (p' : Regrown), (grow (redrawn w3 p'.d) p'.os).cell? ⟨w2.heap.size, 2, none⟩ = some (.int .i64 z) := fun p' => cell_regrown b2 p'.d p'.os
  have kd3 : ∀ (p' : Regrown), (grow (redrawn w3 p'.d) p'.os).cell? ⟨w2.heap.size, 3, none⟩ = some (.int .u8 ch.toNat) := fun p' => cell_regrown b3 p'.d p'.os
  have kd4 : ∀ (p' : Regrown), (grow (redrawn w3 p'.d) p'.os).cell? ⟨w2.heap.size, 4, none⟩ = some (.int .i64 f) := fun p' => cell_regrown b4 p'.d p'.os
  go_wp2_with fail
  refine wp_region_stages [([0, 1, 5, 6], [2, 3, 4, 7, 8, 9, 10, 11])] (by kernel_rfl) (by kernel_rfl) (by kernel_rfl) (fun _ _ d _ _ h => by cases d <;> exact h) ?_
  refine ⟨(fun w' => ∃ p' : Regrown, w' = grow (redrawn w3 p'.d) p'.os), ⟨⟨w3.drawn + 1, #[]⟩, by rw [grow_empty]; rfl⟩, ?_⟩
  refine wpR_of (lr := [_, _, _, _]) rfl ?_
  iterate 4 (refine wpR_step rfl (fun K hK => ?_); go_simp; refine hK _ ?_; clear hK K)
  refine wpR_nil ?_
  clear k0 k1 k2 k3 k4 kd0 kd1 kd2 kd3 kd4 d0 d1 d2 d3 d4 b0 b1 b2 b3 b4
  have HR := Lib.hid L3.out.rd
  have hb : Below w3.heap.size w3 w3.drew := below_drawn (Below.refl _ _)
  generalize w3.drew = wd at hb ⊢
  refine wpX_two 2 7 _ _ (by kernel_rfl) rfl rfl rfl rfl (fun K hK => ?_) (fun K hK => ?_)
  · go_simp
    have hA := Wrs.one wd (HR.out.below hb)
    have hb' := hb.alloc hb.size (.cells #[.slice ao s.length cp] 24)
    refine hK _ _ (regrown_of_below hb') ?_
    clear hK K
    clear hb
    generalize World.alloc wd (.cells #[.slice ao s.length cp] 24) = wz1 at hA hb'  ⊢
    have hb := hb'
    clear hb'
    refine wpX_two 3 7 _ _ (by kernel_rfl) rfl rfl rfl rfl (fun K hK => ?_) (fun K hK => ?_)
    · go_simp
      refine (HWC.out _ _ hA).mono ?_
      rintro e wz2x ⟨vx, rfl, hX, hbx⟩
      have hb' := hb.trans (hbx.mono hb.size)
      refine hK _ _ (regrown_of_below hb') ?_
      clear hK K hA hbx
      replace hb := hb'
      refine wpX_two 4 7 _ _ (by kernel_rfl) rfl rfl rfl rfl (fun K hK => ?_) (fun K hK => ?_)
      · go_simp
        refine (HPX.out _ _ hX).mono ?_
        rintro e wz3x ⟨ax, cx, rfl, hL, hbx⟩
        have hb' := hb.trans (hbx.mono hb.size)
        refine hK _ _ (regrown_of_below hb') ?_
        clear hK K hX hbx
        replace hb := hb'
        refine wpX_one 7 _ (by kernel_rfl) rfl rfl (fun K hK => ?_)
        go_simp
        have hE := Wrs.one wz3x (HR.out.below hb)
        have hb' := hb.alloc hb.size (.cells #[.slice ao s.length cp] 24)
        have hL' := hL.below ((Below.refl _ _).alloc (Nat.le_refl _) (.cells #[.slice ao s.length cp] 24))
        refine hK _ _ (regrown_of_below hb') ?_
        clear hK K
        clear hb
        generalize World.alloc wz3x (.cells #[.slice ao s.length cp] 24) = wz4 at hE hb' hL' ⊢
        have hb := hb'
        clear hb'
        replace hL := hL'
        refine wpX_one 8 _ (by kernel_rfl) rfl rfl (fun K hK => ?_)
        go_simp
        refine (HWD.out _ _ hE).mono ?_
        rintro e w8 ⟨v8, rfl, hr8, hb8⟩
        have hb8' := hb.trans (hb8.mono hb.size)
        refine hK _ _ (regrown_of_below hb8') ?_
        clear hK K
        refine wpX_one 9 _ (by kernel_rfl) rfl rfl (fun K hK => ?_)
        go_simp
        refine (HPY.out _ _ hr8).mono ?_
        rintro e w9 ⟨ay, cy, rfl, hLy, hb9⟩
        have hb9' := hb8'.trans (hb9.mono hb8'.size)
        refine hK _ _ (regrown_of_below hb9') ?_
        clear hK K
        refine wpX_one 10 _ (by kernel_rfl) rfl rfl (fun K hK => ?_)
        go_simp
        refine hK _ _ (regrown_of_below hb9') ?_
        clear hK K
        refine wpX_one 11 _ (by kernel_rfl) rfl rfl (fun K hK => ?_)
        go_simp
        refine hK _ _ (regrown_of_below hb9') ?_
        clear hK K
        refine wpX_end (stg_nil ?_)
        have L9 := Lib.hid (L3.out.step hb9')
        have HX9 := Lib.hid ((hL.below hb8).below hb9)
        have HY9 := Lib.hid hLy
        clear hb9' hb8' hb9 hb8 hr8 hLy hL hE hb HR L3 HD3 HWC HWD HPX HPY
        obtain ⟨d0, d1, d2, d3, d4⟩ := L9.out.cells
        go_wp2_with fail
        refine (shape_calls w9 m t p f l4 ch L9.out.rd (by omega)).mono ?_
        rintro e w10 ⟨v10, rfl, hr10, hb10⟩
        obtain ⟨a10, c10, e10, q10, -⟩ := hr10.val
        rw [HSH.out] at e10 q10
        subst e10
        have LA := Lib.hid (L9.out.step hb10)
        have HXA := Lib.hid (HX9.out.below hb10)
        have HYA := Lib.hid (HY9.out.below hb10)
        clear hb10 hr10 L9 HX9 HY9 HSH d0 d1 d2 d3 d4
        go_wp2_with fail
        go_loopw [65] (fun t65 wr => ∃ j : Nat, j ≤ N ∧ t65 = .int .i64 j ∧ Below w10.heap.size w10 wr) (fun t65 _ => N - (intOf t65).toNat)
        case atStart => exact ⟨0, Nat.zero_le _, rfl, Below.refl _ _⟩
        case round =>
          obtain ⟨j, hj, rfl, hb⟩ := hrel
          by_cases hlt : j < N
          · have hj1 : j < LX.length := by rw [HL1.out]; exact hlt
            have hj2 : j < LY.length := by rw [HL2.out]; exact hlt
            obtain ⟨k0, o0, au, cu, rfl, cF, rdF⟩ := (HXA.out.below hb).at hj1
            obtain ⟨k1, o1, bu, du, rfl, cR, rdR⟩ := (HYA.out.below hb).at hj2
            have hee := HFA.out j LX[j] LY[j] (List.getElem?_eq_getElem hj1) (List.getElem?_eq_getElem hj2)
            generalize LX[j].length = x at cF hee
            generalize LY[j].length = y at cR hee
            have hyx : ¬ ((y : Int) < (x : Int)) := by omega
            have HB := Lib.hid (hb.trans (below_drawn (Below.refl _ wr.drew) |>.mono hb.size))
            clear rdF rdR hb hee
            have kF : ∀ (p' : Regrown), (grow (redrawn wr p'.d) p'.os).cell? ⟨k0, o0 + j, none⟩ = some (.slice au x cu) := fun p' => cell_regrown cF p'.d p'.os
            have kR : ∀ (p' : Regrown), (grow (redrawn wr p'.d) p'.os).cell? ⟨k1, o1 + j, none⟩ = some (.slice bu y du) := fun p' => cell_regrown cR p'.d p'.os
            have hjN : (j : Int) < (N : Int) := by omega
            have hj0 : (0 : Int) ≤ (j : Int) := by omega
            have hjt : (j : Int).toNat = j := by omega
            go_wp2_with fail
            refine wp_region_stages [([0, 1, 2, 3, 4, 5, 6, 7, 8, 9, 10], [])] (by kernel_rfl) (by kernel_rfl) (by kernel_rfl) (fun _ _ d _ _ h => by cases d <;> exact h) ?_
            refine ⟨(fun w' => ∃ p' : Regrown, w' = grow (redrawn wr p'.d) p'.os), ⟨⟨wr.drawn + 1, #[]⟩, by rw [grow_empty]; rfl⟩, ?_⟩
            refine wpR_of (lr := [_, _, _, _, _, _, _, _, _, _, _]) rfl ?_
            iterate 11 (refine wpR_step rfl (fun K hK => ?_); go_simp; refine hK _ ?_; clear hK K)
            refine wpR_nil ?_
            refine wpX_end (stg_nil ?_)
            clear kF kR cF cR hjt hj0
            go_wp2_with fail
            go_roundw
            case rel => exact ⟨j + 1, by omega, by go_num, HB.out⟩
            case measure => simp [intOf]; omega
          · obtain rfl : j = N := by omega
            have LB := Lib.hid (LA.out.step hb)
            clear hb
            go_wp2_with fail
            go_ret
            exact ⟨rfl, LB.out.bel⟩
      · go_simp
        have hE := Wrs.one wz2x (HR.out.below hb)
        have hb' := hb.alloc hb.size (.cells #[.slice ao s.length cp] 24)
        have hX' := hX.below ((Below.refl _ _).alloc (Nat.le_refl _) (.cells #[.slice ao s.length cp] 24))
        refine hK _ _ (regrown_of_below hb') ?_
        clear hK K
        clear hb
        generalize World.alloc wz2x (.cells #[.slice ao s.length cp] 24) = wz5 at hE hb' hX' ⊢
        have hb := hb'
        clear hb'
        replace hX := hX'
        refine wpX_one 4 _ (by kernel_rfl) rfl rfl (fun K hK => ?_)
        go_simp
        refine (HPX.out _ _ hX).mono ?_
        rintro e wz6x ⟨ax, cx, rfl, hL, hbx⟩
        have hb' := hb.trans (hbx.mono hb.size)
        have hE' := hE.kept1 hbx
        refine hK _ _ (regrown_of_below hb') ?_
        clear hK K hX hbx
        replace hb := hb'
        replace hE := hE'
        refine wpX_one 8 _ (by kernel_rfl) rfl rfl (fun K hK => ?_)
        go_simp
        refine (HWD.out _ _ hE).mono ?_
        rintro e w8 ⟨v8, rfl, hr8, hb8⟩
        have hb8' := hb.trans (hb8.mono hb.size)
        refine hK _ _ (regrown_of_below hb8') ?_
        clear hK K
        refine wpX_one 9 _ (by kernel_rfl) rfl rfl (fun K hK => ?_)
        go_simp
        refine (HPY.out _ _ hr8).mono ?_
        rintro e w9 ⟨ay, cy, rfl, hLy, hb9⟩
        have hb9' := hb8'.trans (hb9.mono hb8'.size)
        refine hK _ _ (regrown_of_below hb9') ?_
        clear hK K
        refine wpX_one 10 _ (by kernel_rfl) rfl rfl (fun K hK => ?_)
        go_simp
        refine hK _ _ (regrown_of_below hb9') ?_
        clear hK K
        refine wpX_one 11 _ (by kernel_rfl) rfl rfl (fun K hK => ?_)
        go_simp
        refine hK _ _ (regrown_of_below hb9') ?_
        clear hK K
        refine wpX_end (stg_nil ?_)
        have L9 := Lib.hid (L3.out.step hb9')
        have HX9 := Lib.hid ((hL.below hb8).below hb9)
        have HY9 := Lib.hid hLy
        clear hb9' hb8' hb9 hb8 hr8 hLy hL hE hb HR L3 HD3 HWC HWD HPX HPY
        obtain ⟨d0, d1, d2, d3, d4⟩ := L9.out.cells
        go_wp2_with fail
        refine (shape_calls w9 m t p f l4 ch L9.out.rd (by omega)).mono ?_
        rintro e w10 ⟨v10, rfl, hr10, hb10⟩
        obtain ⟨a10, c10, e10, q10, -⟩ := hr10.val
        rw [HSH.out] at e10 q10
        subst e10
        have LA := Lib.hid (L9.out.step hb10)
        have HXA := Lib.hid (HX9.out.below hb10)
        have HYA := Lib.hid (HY9.out.below hb10)
        clear hb10 hr10 L9 HX9 HY9 HSH d0 d1 d2 d3 d4
        go_wp2_with fail
        go_loopw [65] (fun t65 wr => ∃ j : Nat, j ≤ N ∧ t65 = .int .i64 j ∧ Below w10.heap.size w10 wr) (fun t65 _ => N - (intOf t65).toNat)
        case atStart => exact ⟨0, Nat.zero_le _, rfl, Below.refl _ _⟩
        case round =>
          obtain ⟨j, hj, rfl, hb⟩ := hrel
          by_cases hlt : j < N
          · have hj1 : j < LX.length := by rw [HL1.out]; exact hlt
            have hj2 : j < LY.length := by rw [HL2.out]; exact hlt
            obtain ⟨k0, o0, au, cu, rfl, cF, rdF⟩ := (HXA.out.below hb).at hj1
            obtain ⟨k1, o1, bu, du, rfl, cR, rdR⟩ := (HYA.out.below hb).at hj2
            have hee := HFA.out j LX[j] LY[j] (List.getElem?_eq_getElem hj1) (List.getElem?_eq_getElem hj2)
            generalize LX[j].length = x at cF hee
            generalize LY[j].length = y at cR hee
            have hyx : ¬ ((y : Int) < (x : Int)) := by omega
            have HB := Lib.hid (hb.trans (below_drawn (Below.refl _ wr.drew) |>.mono hb.size))
            clear rdF rdR hb hee
            have kF : ∀ (p' : Regrown), (grow (redrawn wr p'.d) p'.os).cell? ⟨k0, o0 + j, none⟩ = some (.slice au x cu) := fun p' => cell_regrown cF p'.d p'.os
            have kR : ∀ (p' : Regrown), (grow (redrawn wr p'.d) p'.os).cell? ⟨k1, o1 + j, none⟩ = some (.slice bu y du) := fun p' => cell_regrown cR p'.d p'.os
            have hjN : (j : Int) < (N : Int) := by omega
            have hj0 : (0 : Int) ≤ (j : Int) := by omega
            have hjt : (j : Int).toNat = j := by omega
            go_wp2_with fail
            refine wp_region_stages [([0, 1, 2, 3, 4, 5, 6, 7, 8, 9, 10], [])] (by kernel_rfl) (by kernel_rfl) (by kernel_rfl) (fun _ _ d _ _ h => by cases d <;> exact h) ?_
            refine ⟨(fun w' => ∃ p' : Regrown, w' = grow (redrawn wr p'.d) p'.os), ⟨⟨wr.drawn + 1, #[]⟩, by rw [grow_empty]; rfl⟩, ?_⟩
            refine wpR_of (lr := [_, _, _, _, _, _, _, _, _, _, _]) rfl ?_
            iterate 11 (refine wpR_step rfl (fun K hK => ?_); go_simp; refine hK _ ?_; clear hK K)
            refine wpR_nil ?_
            refine wpX_end (stg_nil ?_)
            clear kF kR cF cR hjt hj0
            go_wp2_with fail
            go_roundw
            case rel => exact ⟨j + 1, by omega, by go_num, HB.out⟩
            case measure => simp [intOf]; omega
          · obtain rfl : j = N := by omega
            have LB := Lib.hid (LA.out.step hb)
            clear hb
            go_wp2_with fail
            go_ret
            exact ⟨rfl, LB.out.bel⟩
    · go_simp
      have hE := Wrs.one wz1 (HR.out.below hb)
      have hb' := hb.alloc hb.size (.cells #[.slice ao s.length cp] 24)
      have hA' := hA.kept1 ((Below.refl _ _).alloc (Nat.le_refl _) (.cells #[.slice ao s.length cp] 24))
      refine hK _ _ (regrown_of_below hb') ?_
      clear hK K
      clear hb
      generalize World.alloc wz1 (.cells #[.slice ao s.length cp] 24) = wz7 at hE hb' hA' ⊢
      have hb := hb'
      clear hb'
      replace hA := hA'
      refine wpX_one 3 _ (by kernel_rfl) rfl rfl (fun K hK => ?_)
      go_simp
      refine (HWC.out _ _ hA).mono ?_
      rintro e wz8x ⟨vx, rfl, hX, hbx⟩
      have hb' := hb.trans (hbx.mono hb.size)
      have hE' := hE.kept1 hbx
      refine hK _ _ (regrown_of_below hb') ?_
      clear hK K hA hbx
      replace hb := hb'
      replace hE := hE'
      refine wpX_one 4 _ (by kernel_rfl) rfl rfl (fun K hK => ?_)
      go_simp
      refine (HPX.out _ _ hX).mono ?_
      rintro e wz9x ⟨ax, cx, rfl, hL, hbx⟩
      have hb' := hb.trans (hbx.mono hb.size)
      have hE' := hE.kept1 hbx
      refine hK _ _ (regrown_of_below hb') ?_
      clear hK K hX hbx
      replace hb := hb'
      replace hE := hE'
      refine wpX_one 8 _ (by kernel_rfl) rfl rfl (fun K hK => ?_)
      go_simp
      refine (HWD.out _ _ hE).mono ?_
      rintro e w8 ⟨v8, rfl, hr8, hb8⟩
      have hb8' := hb.trans (hb8.mono hb.size)
      refine hK _ _ (regrown_of_below hb8') ?_
      clear hK K
      refine wpX_one 9 _ (by kernel_rfl) rfl rfl (fun K hK => ?_)
      go_simp
      refine (HPY.out _ _ hr8).mono ?_
      rintro e w9 ⟨ay, cy, rfl, hLy, hb9⟩
      have hb9' := hb8'.trans (hb9.mono hb8'.size)
      refine hK _ _ (regrown_of_below hb9') ?_
      clear hK K
      refine wpX_one 10 _ (by kernel_rfl) rfl rfl (fun K hK => ?_)
      go_simp
      refine hK _ _ (regrown_of_below hb9') ?_
      clear hK K
      refine wpX_one 11 _ (by kernel_rfl) rfl rfl (fun K hK => ?_)
      go_simp
      refine hK _ _ (regrown_of_below hb9') ?_
      clear hK K
      refine wpX_end (stg_nil ?_)
      have L9 := Lib.hid (L3.out.step hb9')
      have HX9 := Lib.hid ((hL.below hb8).below hb9)
      have HY9 := Lib.hid hLy
      clear hb9' hb8' hb9 hb8 hr8 hLy hL hE hb HR L3 HD3 HWC HWD HPX HPY
      obtain ⟨d0, d1, d2, d3, d4⟩ := L9.out.cells
      go_wp2_with fail
      refine (shape_calls w9 m t p f l4 ch L9.out.rd (by omega)).mono ?_
      rintro e w10 ⟨v10, rfl, hr10, hb10⟩
      obtain ⟨a10, c10, e10, q10, -⟩ := hr10.val
      rw [HSH.out] at e10 q10
      subst e10
      have LA := Lib.hid (L9.out.step hb10)
      have HXA := Lib.hid (HX9.out.below hb10)
      have HYA := Lib.hid (HY9.out.below hb10)
      clear hb10 hr10 L9 HX9 HY9 HSH d0 d1 d2 d3 d4
      go_wp2_with fail
      go_loopw [65] (fun t65 wr => ∃ j : Nat, j ≤ N ∧ t65 = .int .i64 j ∧ Below w10.heap.size w10 wr) (fun t65 _ => N - (intOf t65).toNat)
      case atStart => exact ⟨0, Nat.zero_le _, rfl, Below.refl _ _⟩
      case round =>
        obtain ⟨j, hj, rfl, hb⟩ := hrel
        by_cases hlt : j < N
        · have hj1 : j < LX.length := by rw [HL1.out]; exact hlt
          have hj2 : j < LY.length := by rw [HL2.out]; exact hlt
          obtain ⟨k0, o0, au, cu, rfl, cF, rdF⟩ := (HXA.out.below hb).at hj1
          obtain ⟨k1, o1, bu, du, rfl, cR, rdR⟩ := (HYA.out.below hb).at hj2
          have hee := HFA.out j LX[j] LY[j] (List.getElem?_eq_getElem hj1) (List.getElem?_eq_getElem hj2)
          generalize LX[j].length = x at cF hee
          generalize LY[j].length = y at cR hee
          have hyx : ¬ ((y : Int) < (x : Int)) := by omega
          have HB := Lib.hid (hb.trans (below_drawn (Below.refl _ wr.drew) |>.mono hb.size))
          clear rdF rdR hb hee
          have kF : ∀ (p' : Regrown), (grow (redrawn wr p'.d) p'.os).cell? ⟨k0, o0 + j, none⟩ = some (.slice au x cu) := fun p' => cell_regrown cF p'.d p'.os
          have kR : ∀ (p' : Regrown), (grow (redrawn wr p'.d) p'.os).cell? ⟨k1, o1 + j, none⟩ = some (.slice bu y du) := fun p' => cell_regrown cR p'.d p'.os
          have hjN : (j : Int) < (N : Int) := by omega
          have hj0 : (0 : Int) ≤ (j : Int) := by omega
          have hjt : (j : Int).toNat = j := by omega
          go_wp2_with fail
          refine wp_region_stages [([0, 1, 2, 3, 4, 5, 6, 7, 8, 9, 10], [])] (by kernel_rfl) (by kernel_rfl) (by kernel_rfl) (fun _ _ d _ _ h => by cases d <;> exact h) ?_
          refine ⟨(fun w' => ∃ p' : Regrown, w' = grow (redrawn wr p'.d) p'.os), ⟨⟨wr.drawn + 1, #[]⟩, by rw [grow_empty]; rfl⟩, ?_⟩
          refine wpR_of (lr := [_, _, _, _, _, _, _, _, _, _, _]) rfl ?_
          iterate 11 (refine wpR_step rfl (fun K hK => ?_); go_simp; refine hK _ ?_; clear hK K)
          refine wpR_nil ?_
          refine wpX_end (stg_nil ?_)
          clear kF kR cF cR hjt hj0
          go_wp2_with fail
          go_roundw
          case rel => exact ⟨j + 1, by omega, by go_num, HB.out⟩
          case measure => simp [intOf]; omega
        · obtain rfl : j = N := by omega
          have LB := Lib.hid (LA.out.step hb)
          clear hb
          go_wp2_with fail
          go_ret
          exact ⟨rfl, LB.out.bel⟩
  · go_simp
    have hE := Wrs.one wd (HR.out.below hb)
    have hb' := hb.alloc hb.size (.cells #[.slice ao s.length cp] 24)
    refine hK _ _ (regrown_of_below hb') ?_
    clear hK K
    clear hb
    generalize World.alloc wd (.cells #[.slice ao s.length cp] 24) = wz10 at hE hb'  ⊢
    have hb := hb'
    clear hb'
    refine wpX_one 2 _ (by kernel_rfl) rfl rfl (fun K hK => ?_)
    go_simp
    have hA := Wrs.one wz10 (HR.out.below hb)
    have hb' := hb.alloc hb.size (.cells #[.slice ao s.length cp] 24)
    have hE' := hE.kept1 ((Below.refl _ _).alloc (Nat.le_refl _) (.cells #[.slice ao s.length cp] 24))
    refine hK _ _ (regrown_of_below hb') ?_
    clear hK K
    clear hb
    generalize World.alloc wz10 (.cells #[.slice ao s.length cp] 24) = wz11 at hA hb' hE' ⊢
    have hb := hb'
    clear hb'
    replace hE := hE'
    refine wpX_one 3 _ (by kernel_rfl) rfl rfl (fun K hK => ?_)
    go_simp
    refine (HWC.out _ _ hA).mono ?_
    rintro e wz12x ⟨vx, rfl, hX, hbx⟩
    have hb' := hb.trans (hbx.mono hb.size)
    have hE' := hE.kept1 hbx
    refine hK _ _ (regrown_of_below hb') ?_
    clear hK K hA hbx
    replace hb := hb'
    replace hE := hE'
    refine wpX_one 4 _ (by kernel_rfl) rfl rfl (fun K hK => ?_)
    go_simp
    refine (HPX.out _ _ hX).mono ?_
    rintro e wz13x ⟨ax, cx, rfl, hL, hbx⟩
    have hb' := hb.trans (hbx.mono hb.size)
    have hE' := hE.kept1 hbx
    refine hK _ _ (regrown_of_below hb') ?_
    clear hK K hX hbx
    replace hb := hb'
    replace hE := hE'
    refine wpX_one 8 _ (by kernel_rfl) rfl rfl (fun K hK => ?_)
    go_simp
    refine (HWD.out _ _ hE).mono ?_
    rintro e w8 ⟨v8, rfl, hr8, hb8⟩
    have hb8' := hb.trans (hb8.mono hb.size)
    refine hK _ _ (regrown_of_below hb8') ?_
    clear hK K
    refine wpX_one 9 _ (by kernel_rfl) rfl rfl (fun K hK => ?_)
    go_simp
    refine (HPY.out _ _ hr8).mono ?_
    rintro e w9 ⟨ay, cy, rfl, hLy, hb9⟩
    have hb9' := hb8'.trans (hb9.mono hb8'.size)
    refine hK _ _ (regrown_of_below hb9') ?_
    clear hK K
    refine wpX_one 10 _ (by kernel_rfl) rfl rfl (fun K hK => ?_)
    go_simp
    refine hK _ _ (regrown_of_below hb9') ?_
    clear hK K
    refine wpX_one 11 _ (by kernel_rfl) rfl rfl (fun K hK => ?_)
    go_simp
    refine hK _ _ (regrown_of_below hb9') ?_
    clear hK K
    refine wpX_end (stg_nil ?_)
    have L9 := Lib.hid (L3.out.step hb9')
    have HX9 := Lib.hid ((hL.below hb8).below hb9)
    have HY9 := Lib.hid hLy
    clear hb9' hb8' hb9 hb8 hr8 hLy hL hE hb HR L3 HD3 HWC HWD HPX HPY
    obtain ⟨d0, d1, d2, d3, d4⟩ := L9.out.cells
    go_wp2_with fail
    refine (shape_calls w9 m t p f l4 ch L9.out.rd (by omega)).mono ?_
    rintro e w10 ⟨v10, rfl, hr10, hb10⟩
    obtain ⟨a10, c10, e10, q10, -⟩ := hr10.val
    rw [HSH.out] at e10 q10
    subst e10
    have LA := Lib.hid (L9.out.step hb10)
    have HXA := Lib.hid (HX9.out.below hb10)
    have HYA := Lib.hid (HY9.out.below hb10)
    clear hb10 hr10 L9 HX9 HY9 HSH d0 d1 d2 d3 d4
    go_wp2_with fail
    go_loopw [65] (fun t65 wr => ∃ j : Nat, j ≤ N ∧ t65 = .int .i64 j ∧ Below w10.heap.size w10 wr) (fun t65 _ => N - (intOf t65).toNat)
    case atStart => exact ⟨0, Nat.zero_le _, rfl, Below.refl _ _⟩
    case round =>
      obtain ⟨j, hj, rfl, hb⟩ := hrel
      by_cases hlt : j < N
      · have hj1 : j < LX.length := by rw [HL1.out]; exact hlt
        have hj2 : j < LY.length := by rw [HL2.out]; exact hlt
        obtain ⟨k0, o0, au, cu, rfl, cF, rdF⟩ := (HXA.out.below hb).at hj1
        obtain ⟨k1, o1, bu, du, rfl, cR, rdR⟩ := (HYA.out.below hb).at hj2
        have hee := HFA.out j LX[j] LY[j] (List.getElem?_eq_getElem hj1) (List.getElem?_eq_getElem hj2)
        generalize LX[j].length = x at cF hee
        generalize LY[j].length = y at cR hee
        have hyx : ¬ ((y : Int) < (x : Int)) := by omega
        have HB := Lib.hid (hb.trans (below_drawn (Below.refl _ wr.drew) |>.mono hb.size))
        clear rdF rdR hb hee
        have kF : ∀ (p' : Regrown), (grow (redrawn wr p'.d) p'.os).cell? ⟨k0, o0 + j, none⟩ = some (.slice au x cu) := fun p' => cell_regrown cF p'.d p'.os
        have kR : ∀ (p' : Regrown), (grow (redrawn wr p'.d) p'.os).cell? ⟨k1, o1 + j, none⟩ = some (.slice bu y du) := fun p' => cell_regrown cR p'.d p'.os
        have hjN : (j : Int) < (N : Int) := by omega
        have hj0 : (0 : Int) ≤ (j : Int) := by omega
        have hjt : (j : Int).toNat = j := by omega
        go_wp2_with fail
        refine wp_region_stages [([0, 1, 2, 3, 4, 5, 6, 7, 8, 9, 10], [])] (by kernel_rfl) (by kernel_rfl) (by kernel_rfl) (fun _ _ d _ _ h => by cases d <;> exact h) ?_
        refine ⟨(fun w' => ∃ p' : Regrown, w' = grow (redrawn wr p'.d) p'.os), ⟨⟨wr.drawn + 1, #[]⟩, by rw [grow_empty]; rfl⟩, ?_⟩
        refine wpR_of (lr := [_, _, _, _, _, _, _, _, _, _, _]) rfl ?_
        iterate 11 (refine wpR_step rfl (fun K hK => ?_); go_simp; refine hK _ ?_; clear hK K)
        refine wpR_nil ?_
        refine wpX_end (stg_nil ?_)
        clear kF kR cF cR hjt hj0
        go_wp2_with fail
        go_roundw
        case rel => exact ⟨j + 1, by omega, by go_num, HB.out⟩
        case measure => simp [intOf]; omega
      · obtain rfl : j = N := by omega
        have LB := Lib.hid (LA.out.step hb)
        clear hb
        go_wp2_with fail
        go_ret
        exact ⟨rfl, LB.out.bel⟩
end Go.Proofs.YthcjaegnnfiboaaDoor

namespace Go.Proofs.YthcjaegnnfiboaaDoor.fnMorePad
open Go.ChangeShapes Go.WideShapes Go.ChangeAt Go.RowKit
set_option maxRecDepth 100000

theorem own : ownKnob Tryd.prog.godebug = none := by kernel_rfl

theorem contract (H : Type) (enc : TypeId × Value → H) (W : World) (base : Nat) (args : Array Value) (ds gs : List (DataW H)) (before : List MemPlace)
    (hval : ∀ (j : Nat) t v, Tryd.f10.params[j]? = some t → args[j]? = some v → Value.okWide Tryd.prog W .any base t v)
    (hW : DataW.Whole enc Tryd.prog Tryd.f10.params.toList Rows.fnMorePadSpec.vars false W args.toList ds gs before)
    (hL : laidMetH Tryd.prog Rows.fnMorePadRow.laid W) :
    Calls Tryd.prog 10 args W fun e W' => ∃ v, e = .returned v ∧ Rows.fnMorePadSpec.post enc Tryd.prog Tryd.f10 false true false false W args v W' := by
  have hW' := hW
  obtain ⟨p, q, hA0, hV, rfl, hfz, hnd⟩ := hW
  have hA : DataW.TrodAll enc Tryd.prog W 0 (fun _ => true) true Tryd.f10.params.toList args.toList ds p := hA0
  rw [Tryd.params10] at hA hval
  obtain ⟨v0, vs0, d0, ds0, p0, q0, hargs, rfl, rfl, h0, r0⟩ := trodAll_cons hA
  obtain ⟨v1, vs1, d1, ds1, p1, q1, rfl, rfl, rfl, h1, r1⟩ := trodAll_cons r0
  obtain ⟨rfl, rfl, rfl⟩ := trodAll_nil r1
  obtain rfl : args = #[v0, v1] := by cases args; simp_all
  obtain ⟨mn0, tb0, pd0, fl0, ch0, rfl⟩ := open_conf (hval 0 _ _ rfl rfl)
  obtain ⟨bs1, hrd1⟩ := open_rd (hval 1 _ _ rfl rfl) h1
  refine (morePad_calls W mn0 tb0 pd0 fl0 ch0 hrd1 (tabs_of hL)).mono fun e W' ⟨he, hb⟩ => ?_
  subst he
  refine ⟨_, rfl, law_post rfl ?_ (by kernel_rfl) ?_ hW' hb⟩
  · intro ds hds
    match ds, hds with
    | [a, b], _ => rfl
  · rw [Tryd.params10]
    intro t ht
    simp at ht
    rcases ht with rfl | rfl <;> exact of_decide_eq_true (by kernel_rfl)

theorem laid_met (os : Os) : laidMet Tryd.prog Rows.fnMorePadRow.laid ((laidWorld os).forCall (fun _ _ => 0) ⟨#[], #[conf0, .slice none 0 0], []⟩).memory :=
  laidMet_of_run' 8 (by kernel_rfl) (by kernel_rfl)
theorem reads (os : Os) {H : Type} (enc : TypeId × Value → H) : ∃ places, DataW.whole enc Tryd.prog ((laidWorld os).forCall (fun _ _ => 0) ⟨#[], #[conf0, .slice none 0 0], []⟩).memory Tryd.f10.params.toList Rows.fnMorePadSpec.vars false (#[conf0, .slice none 0 0] : Array Value).toList 8 = some ([.agg [.lit (.int .i64 0), .lit (.int .i64 0), .lit (.int .i64 0), .lit (.int .u8 0), .lit (.int .i64 0)], .nil], [], places) :=
  ⟨[], by kernel_rfl⟩

set_option maxRecDepth 100000 in
theorem lifted (os : Os) (started : os.Started) (H : Type) (enc : TypeId × Value → H) (F : Stop.Interp) :
    ReturnsInHanded {} Tryd.checked os 10 .any ((OpenSpec.ofChange Rows.fnMorePadSpec).preRow enc Tryd.prog Tryd.f10 Rows.fnMorePadRow.domain false Rows.fnMorePadRow.laid) (((OpenSpec.ofChange Rows.fnMorePadSpec).at F).post enc Tryd.prog Tryd.f10 false true false false) := by
  obtain ⟨places, hx⟩ := reads os enc
  refine returnsInHanded_of_row (C := Tryd.checked) (s := OpenSpec.ofChange Rows.fnMorePadSpec) own started (by kernel_rfl) Tryd.func10
    (witness_row_at (enc := enc) (C := Tryd.checked) false (laidWorld os) #[conf0, .slice none 0 0] rfl (by kernel_rfl) (by kernel_rfl) (by kernel_rfl)
      (OpenSpec.preRow_of_cond 8 hx (by kernel_rfl) (fun k hk => by cases hk) (by kernel_rfl) (laid_met os))) ?_
  intro W base args ds gs before hval hW _ _ _ hL _ _
  exact contract H enc W base args ds gs before hval hW hL

theorem said : Rows.FnMorePadSaid :=
  OpenClaim.holds_of_cond 10 Tryd.f10 rfl rfl rfl rfl rfl rfl rfl ⟨rfl, rfl, rfl, rfl, rfl⟩ rfl rfl rfl rfl rfl (by kernel_rfl) Tryd.func10 (by kernel_rfl)
    (of_decide_eq_true (by kernel_rfl)) (by unfold Func.isWrapper; first | (rw [if_pos (by decide +kernel)]; kernel_rfl) | (rw [if_neg (by decide +kernel)]; exact ⟨rfl, rfl⟩))
    (fun os started H enc _ F => by rw [OpenClaim.pre_eq_preRow]; exact lifted os started H enc F)

theorem plain (f : FuncId) (fn : Func) (hf : Tryd.pinned.checked.prog.funcNamed "loop.example/pub-tabcolumns/laws.FnMorePad" = some f) (hfn : Tryd.pinned.checked.prog.funcs[f]? = some fn) :
    true = Tryd.pinned.checked.prog.looks [] ∧ ∀ (j : Nat) t, fn.params[j]? = some t → Tryd.pinned.checked.prog.wantsStandIn t = false := by
  obtain rfl : f = 10 := Option.some.inj ((show Tryd.prog.funcNamed "loop.example/pub-tabcolumns/laws.FnMorePad" = some 10 by kernel_rfl).symm.trans hf) |>.symm
  obtain rfl : fn = Tryd.f10 := (Option.some.inj (Tryd.func10.symm.trans hfn)).symm
  refine ⟨by kernel_rfl, fun j t ht => ?_⟩
  rw [Tryd.params10] at ht
  have hm := Array.mem_of_getElem? ht
  simp at hm
  rcases hm with rfl | rfl
  · exact (show Tryd.prog.wantsStandIn 23 = false by kernel_rfl)
  · exact (show Tryd.prog.wantsStandIn 24 = false by kernel_rfl)

theorem card : Rows.FnMorePadCardSaid :=
  Claim7.holds_tied_plain_at .later [] _ _ _ _ said (fun _ h => by cases h) (by kernel_rfl) (fun _ h => by cases h) fnMorePad_row_tie rfl ⟨rfl, rfl⟩ (by kernel_rfl) rfl plain (by kernel_rfl)
end Go.Proofs.YthcjaegnnfiboaaDoor.fnMorePad

namespace Go.Proofs.YthcjaegnnfiboaaDoor
theorem fnMorePad_card : Rows.FnMorePadCardSaid := fnMorePad.card
#print axioms fnMorePad_card
end Go.Proofs.YthcjaegnnfiboaaDoor
