/- 'FnTabsLeft': with tabs as padding text is aligned to the left, whatever is asked. -/
import Derived.Test.YthcjaegnnfiboaaDoorCards
import Derived.Test.YthcjaegnnfiboaaDoorTie
import Derived.Test.YthcjaegnnfiboaaDoorVe
import Derived.Test.YthcjaegnnfiboaaDoorLs
import Derived.Test.YthcjaegnnfiboaaDoorOrx
import Derived.Test.YthcjaegnnfiboaaDoorQe
import Derived.WalkKit
import Derived.ProofKit
import Derived.OpenShut
import Derived.Deep.DeepHandedRow
import Derived.Deep.DeepWitnessRowRef
namespace Go.Proofs.YthcjaegnnfiboaaDoor
open Go.RowKit Go.Tw Go.Sort
set_option maxRecDepth 100000

theorem Wrs.kept1 {w w' : World} {v : Value} {bss : List (List UInt8)} (h : Wrs w v bss) (t : Below w.heap.size w w') : Wrs w' v bss := by
  obtain ⟨ao, cp, rfl, h1, h2⟩ := h.val
  refine ⟨ao, cp, rfl, h1, fun j hj => ?_⟩
  obtain ⟨ad, u, e, hs, hc, hr⟩ := h2 j hj
  exact ⟨ad, u, e, hs, (t.cell (p := ⟨ad.block, ad.off + j, none⟩) (block_lt_of_cell hc)).trans hc, hr.below t⟩
theorem keep9 : ∀ (f : Fin 64) (yes : Bool), ∃ g : Fin 64, wfl ((f.val : Nat) : Int) 4 yes = ((g.val : Nat) : Int) ∧ keepFl 9 g.val = keepFl 9 f.val := by
  decide +kernel
theorem cfg9 (f : Nat) (hf : f < 64) (yes : Bool) : ∃ g : Nat, g < 64 ∧ wfl f 4 yes = g ∧ ∀ m t p, cfgOf m t p g 9 = cfgOf m t p f 9 := by
  obtain ⟨g, h1, h2⟩ := keep9 ⟨f, hf⟩ yes
  exact ⟨g.val, g.isLt, h1, fun m t p => by unfold cfgOf; rw [h2]⟩

set_option maxHeartbeats 4000000 in
theorem tabsLeft_calls (w : World) (mn tb pd fl : Int) (ch : UInt8) {v : Value} {s : List UInt8} (h : Rd w v s) (hT : Lib.Utf8Tabs 0 1 w) :
    Calls Tryd.prog 14 #[.agg #[.int .i64 mn, .int .i64 tb, .int .i64 pd, .int .u8 ch.toNat, .int .i64 fl], v] w fun e w' => e = .returned (.bool true) ∧ Below w.heap.size w w' := by
  have L0 := Lib.hid (LS.start (mn := mn) (tb := tb) (pd := pd) (ch := ch) (fl := fl) h)
  have HT := Lib.hid hT
  obtain ⟨ao, cp, rfl, g1, g2⟩ := L0.out.shape
  obtain ⟨d0, d1, d2, d3, d4⟩ := L0.out.cells
  have HRR := Lib.hid h
  clear h hT
  by_cases hl : s.length ≤ 2147483647
  rotate_left
  · go_enter Tryd.func14, Tryd.ntmps14
    go_wp2_with fail
    go_ret
    exact ⟨rfl, L0.out.bel⟩
  obtain ⟨g, hg⟩ : ∃ g, g = wfl fl 32 false := ⟨_, rfl⟩
  have HWI := Lib.hid (with_calls' (w.alloc (.cells #[.int .i64 mn, .int .i64 tb, .int .i64 pd, .int .u8 ch.toNat, .int .i64 fl] 23)) mn tb pd fl ch 32 false)
  rw [← hg] at HWI
  have HG := Lib.hid (show bits BinOp.andNot IntKind.i64 fl 32 = g by rw [hg]; rfl)
  clear hg
  go_enter Tryd.func14, Tryd.ntmps14
  go_wp2_with fail
  refine HWI.out.mono ?_
  rintro e w0 ⟨rfl, hbw⟩
  have hL1 := L0.out.step hbw
  have hL2 : LS w mn tb pd ch g (.slice ao s.length cp) s (((((w0.setCell ⟨w.heap.size, 0, none⟩ (.int .i64 mn)).setCell ⟨w.heap.size, 1, none⟩ (.int .i64 tb)).setCell ⟨w.heap.size, 2, none⟩ (.int .i64 pd)).setCell ⟨w.heap.size, 3, none⟩ (.int .u8 ch.toNat)).setCell ⟨w.heap.size, 4, none⟩ (.int .i64 g)) := hL1.setFl HRR.out g
  have hL3 : LS w mn tb pd 9 g (.slice ao s.length cp) s ((((((w0.setCell ⟨w.heap.size, 0, none⟩ (.int .i64 mn)).setCell ⟨w.heap.size, 1, none⟩ (.int .i64 tb)).setCell ⟨w.heap.size, 2, none⟩ (.int .i64 pd)).setCell ⟨w.heap.size, 3, none⟩ (.int .u8 ch.toNat)).setCell ⟨w.heap.size, 4, none⟩ (.int .i64 g)).setCell ⟨w.heap.size, 3, none⟩ (.int .u8 9)) := hL2.setCh HRR.out 9
  obtain ⟨c0, c1, c2, c3, c4⟩ := hL1.cells
  have f0 := frozen_of_blk hL1.conf 0
  have f1 := frozen_of_blk hL1.conf 1
  have f2 := frozen_of_blk hL1.conf 2
  have f3 := frozen_of_blk hL1.conf 3
  have f4 := frozen_of_blk hL1.conf 4
  have g3 := frozen_of_blk hL2.conf 3
  have k5 := hL2.cells.2.2.2.1
  obtain ⟨y0, y1, y2, y3, y4⟩ := hL3.cells
  have y3b : (((((((w0.setCell ⟨w.heap.size, 0, none⟩ (.int .i64 mn)).setCell ⟨w.heap.size, 1, none⟩ (.int .i64 tb)).setCell ⟨w.heap.size, 2, none⟩ (.int .i64 pd)).setCell ⟨w.heap.size, 3, none⟩ (.int .u8 ch.toNat)).setCell ⟨w.heap.size, 4, none⟩ (.int .i64 g)).setCell ⟨w.heap.size, 3, none⟩ (.int .u8 9)) : World).cell? ⟨w.heap.size, 3, none⟩ = some (.int .u8 9) := y3
  have HL3 := Lib.hid hL3
  clear hL1 hL2 hL3 hbw HWI L0 d0 d1 d2 d3 d4 y3
  go_wp2_with fail
  clear c0 c1 c2 c3 c4 f0 f1 f2 f3 f4 g3 k5 y0 y1 y2 y3b y4
  revert HL3
  generalize ((((((w0.setCell ⟨w.heap.size, 0, none⟩ (.int .i64 mn)).setCell ⟨w.heap.size, 1, none⟩ (.int .i64 tb)).setCell ⟨w.heap.size, 2, none⟩ (.int .i64 pd)).setCell ⟨w.heap.size, 3, none⟩ (.int .u8 ch.toNat)).setCell ⟨w.heap.size, 4, none⟩ (.int .i64 g)).setCell ⟨w.heap.size, 3, none⟩ (.int .u8 9)) = wx
  intro LX
  have hV : Calls Tryd.prog 27 #[.agg #[.int .i64 mn, .int .i64 tb, .int .i64 pd, .int .u8 9, .int .i64 g]] wx fun e w' => e = .returned (.bool (decide (Vld mn tb pd g))) ∧ Below wx.heap.size wx w' := valid_calls wx mn tb pd g 9
  by_cases hv : Vld mn tb pd g
  rotate_left
  · rw [decide_eq_false hv] at hV
    clear hv
    refine hV.mono ?_
    rintro e w4 ⟨rfl, hb4⟩
    have L4 := Lib.hid (LX.out.step hb4)
    clear hb4
    go_wp2_with fail
    go_ret
    exact ⟨rfl, L4.out.bel⟩
  rw [decide_eq_true hv] at hV
  obtain ⟨m, t, p, f, rfl, rfl, rfl, rfl, l1, l2, l3, l4⟩ := vld_nat hv
  have H32 := Lib.hid (show (cfgOf m t p f 9).flag 32 = false by rw [flag_cfg ⟨f, l4⟩ m t p 9 32 (by simp)]; exact andNot_flag fl 32 (by simp [flagsL]) ⟨f, l4⟩ HG.out)
  refine hV.mono ?_
  rintro e w4 ⟨rfl, hb4⟩
  have L4 := Lib.hid (LX.out.step hb4)
  clear hb4 hV LX hv
  have hS := small_calls w4 L4.out.rd
  by_cases hs : s.length ≤ 3000
  rotate_left
  · rw [decide_eq_false hs] at hS
    have HS := Lib.hid hS
    clear hS hs
    go_wp2_with fail
    refine HS.out.mono ?_
    rintro e w5 ⟨rfl, rfl⟩
    go_wp2_with fail
    go_ret
    exact ⟨rfl, L4.out.bel⟩
  rw [decide_eq_true hs] at hS
  have HS := Lib.hid hS
  clear hS
  obtain ⟨d0, d1, d2, d3', d4⟩ := L4.out.cells
  have d3 : w4.cell? ⟨w.heap.size, 3, none⟩ = some (.int .u8 9) := d3'
  clear d3'
  go_wp2_with fail
  refine HS.out.mono ?_
  rintro e w5 ⟨rfl, rfl⟩
  have HW := Lib.hid (show Calls Tryd.prog 30 #[.agg #[.int .i64 m, .int .i64 t, .int .i64 p, .int .u8 9, .int .i64 f], .slice ao s.length cp] w4 (VPost w4) from whole_calls w4 m t p f l4 9 L4.out.rd (Utf8Tabs_below HT.out L4.out.bel) (by omega))
  go_wp2_with fail
  refine HW.out.mono ?_
  rintro e w1 ⟨⟨xw, rfl⟩, hb6⟩
  have L1 := Lib.hid (L4.out.step hb6)
  clear hb6 L4 HW HS d0 d1 d2 d3 d4
  cases xw
  · go_wp2_with fail
    go_ret
    exact ⟨rfl, L1.out.bel⟩
  obtain ⟨d0, d1, d2, d3', d4⟩ := L1.out.cells
  have d3 : w1.cell? ⟨w.heap.size, 3, none⟩ = some (.int .u8 9) := d3'
  clear d3'
  obtain ⟨gT, ht64, hgT, hTT⟩ := cfg9 f l4 true
  obtain ⟨gF, hf64, hgF, hFF⟩ := cfg9 f l4 false
  have HGT := Lib.hid hgT
  have HGF := Lib.hid hgF
  have HTT := Lib.hid (hTT m t p)
  have HFF := Lib.hid (hFF m t p)
  clear hgT hgF hTT hFF
  go_wp2_with fail
  refine (with_nat w1 m t p f gT 9 4 true HGT.out).mono ?_
  rintro e w2 ⟨rfl, hb2⟩
  have L2 := Lib.hid (L1.out.step hb2)
  clear hb2 L1 d0 d1 d2 d3 d4
  have HW := Lib.hid (show Calls Tryd.prog 19 #[.agg #[.int .i64 m, .int .i64 t, .int .i64 p, .int .u8 9, .int .i64 gT], .slice (some ⟨w2.heap.size, 0, none⟩) 1 1] (w2.alloc (.cells #[.slice ao s.length cp] 24)) _ from write_one w2 m t p gT ht64 9 L2.out.rd (by omega) l1 l2 l3)
  go_wp2_with fail
  refine HW.out.mono ?_
  rintro e w3 ⟨v3, rfl, hr3, hb3⟩
  have L3 := Lib.hid (L2.out.step hb3)
  rw [HTT.out] at hr3
  obtain ⟨fo, hfo⟩ : ∃ x, x = formatO (cfgOf m t p f 9) s := ⟨_, rfl⟩
  rw [← hfo] at hr3
  have HFfo := Lib.hid hfo
  have HX3 := Lib.hid hr3
  have hfl : fo.length ≤ 100000000000 := by rw [hfo]; exact format_bound m t p f 9 l1 l2 l3 s hs
  obtain ⟨a3, c3, rfl, -, q3, -⟩ := hr3.val
  unfold maxLen at q3
  clear HW L2 hb3 hr3 hfo
  obtain ⟨d0, d1, d2, d3', d4⟩ := L3.out.cells
  have d3 : w3.cell? ⟨w.heap.size, 3, none⟩ = some (.int .u8 9) := d3'
  clear d3'
  have k0 : ∀ (p' : Regrown), (grow (redrawn w3 p'.d) p'.os).cell? ⟨w.heap.size, 0, none⟩ = some (.int .i64 m) := fun p' => cell_regrown d0 p'.d p'.os
  have k1 : ∀ (p' : Regrown), (grow (redrawn w3 p'.d) p'.os).cell? ⟨w.heap.size, 1, none⟩ = some (.int .i64 t) := fun p' => cell_regrown d1 p'.d p'.os
  have k2 : ∀ (p' : Regrown), (grow (redrawn w3 p'.d) p'.os).cell? ⟨w.heap.size, 2, none⟩ = some (.int .i64 p) := fun p' => cell_regrown d2 p'.d p'.os
  have k3 : ∀ (p' : Regrown), (grow (redrawn w3 p'.d) p'.os).cell? ⟨w.heap.size, 3, none⟩ = some (.int .u8 9) := fun p' => cell_regrown d3 p'.d p'.os
  have k4 : ∀ (p' : Regrown), (grow (redrawn w3 p'.d) p'.os).cell? ⟨w.heap.size, 4, none⟩ = some (.int .i64 f) := fun p' => cell_regrown d4 p'.d p'.os
  go_wp2_with fail
  refine wp_region_stages [([0, 1, 3], [2, 4, 5, 6, 7]), ([8, 10, 11], [9, 12, 13, 14, 15, 16])] (by kernel_rfl) (by kernel_rfl) (by kernel_rfl) (fun _ _ d _ _ h => by cases d <;> exact h) ?_
  refine ⟨(fun w' => ∃ p' : Regrown, w' = grow (redrawn w3 p'.d) p'.os), ⟨⟨w3.drawn + 1, #[]⟩, by rw [grow_empty]; rfl⟩, ?_⟩
  refine wpR_of (lr := [_, _, _]) rfl ?_
  iterate 3 (refine wpR_step rfl (fun K hK => ?_); go_simp; refine hK _ ?_; clear hK K)
  refine wpR_nil ?_
  clear k0 k1 k2 k3 k4 d0 d1 d2 d3 d4
  have hrd := L3.out.drew.rd
  have HWN : ∀ wz, Calls Tryd.prog 15 #[.agg #[.int .i64 m, .int .i64 t, .int .i64 p, .int .u8 9, .int .i64 f], .int .i64 4, .bool false] wz fun e w' => e = .returned (.agg #[.int .i64 m, .int .i64 t, .int .i64 p, .int .u8 9, .int .i64 gF]) ∧ Below wz.heap.size wz w' := fun wz => with_nat wz m t p f gF 9 4 false HGF.out
  have HWW : ∀ wz v, Wrs wz v [s] → Calls Tryd.prog 19 #[.agg #[.int .i64 m, .int .i64 t, .int .i64 p, .int .u8 9, .int .i64 gF], v] wz fun e w' => ∃ v', e = .returned v' ∧ Rd w' v' fo ∧ Below wz.heap.size wz w' := fun wz v hv => by
    have := write_many wz m t p gF hf64 9 (s := s) (by simp) hv (by omega) l1 l2 l3
    rw [HFF.out, ← HFfo.out] at this
    exact this
  refine wpX_two 2 4 _ _ (by kernel_rfl) rfl rfl rfl rfl (fun K hK => ?_) (fun K hK => ?_)
  · go_simp
    refine (HWN w3.drew).mono ?_
    rintro e w4 ⟨rfl, hb4⟩
    have hb14 := below_drawn hb4
    refine hK _ _ (regrown_of_below hb14) ?_
    clear hK K
    refine wpX_one 4 _ (by kernel_rfl) rfl rfl (fun K hK => ?_)
    go_simp
    refine hK _ _ (regrown_of_below (hb14.alloc hb14.size _)) ?_
    clear hK K
    refine wpX_one 5 _ (by kernel_rfl) rfl rfl (fun K hK => ?_)
    go_simp
    refine (HWW _ _ (Wrs.one w4 (hrd.below hb4))).mono ?_
    rintro e w5 ⟨v5, rfl, hr5, hb5⟩
    have hb15 := (hb14.alloc hb14.size (.cells #[.slice ao s.length cp] 24)).trans (hb5.mono (hb14.alloc hb14.size (.cells #[.slice ao s.length cp] 24)).size)
    refine hK _ _ (regrown_of_below hb15) ?_
    clear hK K hb5 hb14 hb4
    have L5 := Lib.hid (L3.out.step hb15)
    have hx5 := HX3.out.below hb15
    have hSm := same_calls w5 hx5 hr5
    rw [decide_eq_true rfl] at hSm
    refine wpX_one 6 _ (by kernel_rfl) rfl rfl (fun K hK => ?_)
    go_simp
    refine hSm.mono ?_
    rintro e w6 ⟨rfl, rfl⟩
    refine hK _ _ (regrown_of_below hb15) ?_
    clear hK K
    refine wpX_one 7 _ (by kernel_rfl) rfl rfl (fun K hK => ?_)
    go_simp
    refine hK _ _ (regrown_of_below hb15) ?_
    clear hK K
    refine wpX_end ?_
    clear hSm hr5 hb15 HX3 L3 HWN HWW hrd
    obtain ⟨d0, d1, d2, d3', d4⟩ := L5.out.cells
    have d3 : w5.cell? ⟨w.heap.size, 3, none⟩ = some (.int .u8 9) := d3'
    clear d3'
    have k0 : ∀ (p' : Regrown), (grow (redrawn w5 p'.d) p'.os).cell? ⟨w.heap.size, 0, none⟩ = some (.int .i64 m) := fun p' => cell_regrown d0 p'.d p'.os
    have k1 : ∀ (p' : Regrown), (grow (redrawn w5 p'.d) p'.os).cell? ⟨w.heap.size, 1, none⟩ = some (.int .i64 t) := fun p' => cell_regrown d1 p'.d p'.os
    have k2 : ∀ (p' : Regrown), (grow (redrawn w5 p'.d) p'.os).cell? ⟨w.heap.size, 2, none⟩ = some (.int .i64 p) := fun p' => cell_regrown d2 p'.d p'.os
    have k3 : ∀ (p' : Regrown), (grow (redrawn w5 p'.d) p'.os).cell? ⟨w.heap.size, 3, none⟩ = some (.int .u8 9) := fun p' => cell_regrown d3 p'.d p'.os
    have k4 : ∀ (p' : Regrown), (grow (redrawn w5 p'.d) p'.os).cell? ⟨w.heap.size, 4, none⟩ = some (.int .i64 f) := fun p' => cell_regrown d4 p'.d p'.os
    refine ⟨(fun w' => ∃ p' : Regrown, w' = grow (redrawn w5 p'.d) p'.os), ⟨⟨w5.drawn, #[]⟩, by rw [grow_empty]; rfl⟩, ?_⟩
    refine wpR_of (lr := [_, _, _]) rfl ?_
    iterate 3 (refine wpR_stepG (by kernel_rfl) (fun K hK => ?_); go_simp; refine hK _ ?_; clear hK K)
    refine wpR_nil ?_
    clear k0 k1 k2 k3 k4 d0 d1 d2 d3 d4
    refine wpX_one 9 _ (by kernel_rfl) rfl (by kernel_rfl) (fun K hK => ?_)
    go_simp
    refine (without_calls w5 hx5 9 (by omega)).mono ?_
    rintro e w6 ⟨v6, rfl, hr6, hb6⟩
    refine hK _ _ (regrown_of_below hb6) ?_
    clear hK K
    have L6 := Lib.hid (L5.out.step hb6)
    refine wpX_one 12 _ (by kernel_rfl) rfl (by kernel_rfl) (fun K hK => ?_)
    go_simp
    refine (format_calls w6 m t p f l4 9 L6.out.rd hs l1 l2 l3).mono ?_
    rintro e w7 ⟨v7, rfl, hr7, hb7⟩
    rw [← HFfo.out] at hr7
    have hb57 := hb6.trans (hb7.mono hb6.size)
    refine hK _ _ (regrown_of_below hb57) ?_
    clear hK K
    refine wpX_one 13 _ (by kernel_rfl) rfl (by kernel_rfl) (fun K hK => ?_)
    go_simp
    refine (without_calls w7 hr7 9 (by omega)).mono ?_
    rintro e w8 ⟨v8, rfl, hr8, hb8⟩
    have hb58 := hb57.trans (hb8.mono hb57.size)
    refine hK _ _ (regrown_of_below hb58) ?_
    clear hK K
    have hSm := same_calls w8 ((hr6.below hb7).below hb8) hr8
    rw [decide_eq_true rfl] at hSm
    refine wpX_one 14 _ (by kernel_rfl) rfl (by kernel_rfl) (fun K hK => ?_)
    go_simp
    refine hSm.mono ?_
    rintro e w9 ⟨rfl, rfl⟩
    refine hK _ _ (regrown_of_below hb58) ?_
    clear hK K
    refine wpX_one 15 _ (by kernel_rfl) rfl (by kernel_rfl) (fun K hK => ?_)
    go_simp
    refine hK _ _ (regrown_of_below hb58) ?_
    clear hK K
    refine wpX_one 16 _ (by kernel_rfl) rfl (by kernel_rfl) (fun K hK => ?_)
    go_simp
    refine hK _ _ (regrown_of_below hb58) ?_
    clear hK K
    refine wpX_end (stg_nil ?_)
    have L8 := Lib.hid (L5.out.step hb58)
    clear hb58 hb57 hb8 hb7 hb6 hr6 hr7 hr8 hSm hx5
    go_wp2_with fail
    go_ret
    exact ⟨rfl, L8.out.bel⟩
  · go_simp
    have hba : Below w3.drew.heap.size w3.drew (w3.drew.alloc (.cells #[.slice ao s.length cp] 24)) := (Below.refl _ _).alloc (Nat.le_refl _) _
    have hba1 := below_drawn hba
    refine hK _ _ (regrown_of_below hba1) ?_
    clear hK K
    refine wpX_one 2 _ (by kernel_rfl) rfl rfl (fun K hK => ?_)
    go_simp
    refine (HWN _).mono ?_
    rintro e w4 ⟨rfl, hb4⟩
    have hb14 := hba1.trans (hb4.mono hba1.size)
    refine hK _ _ (regrown_of_below hb14) ?_
    clear hK K
    refine wpX_one 5 _ (by kernel_rfl) rfl rfl (fun K hK => ?_)
    go_simp
    refine (HWW _ _ (Wrs.kept1 (Wrs.one w3.drew hrd) hb4)).mono ?_
    rintro e w5 ⟨v5, rfl, hr5, hb5⟩
    have hb15 := hb14.trans (hb5.mono hb14.size)
    refine hK _ _ (regrown_of_below hb15) ?_
    clear hK K hb5 hb14 hb4 hba hba1
    have L5 := Lib.hid (L3.out.step hb15)
    have hx5 := HX3.out.below hb15
    have hSm := same_calls w5 hx5 hr5
    rw [decide_eq_true rfl] at hSm
    refine wpX_one 6 _ (by kernel_rfl) rfl rfl (fun K hK => ?_)
    go_simp
    refine hSm.mono ?_
    rintro e w6 ⟨rfl, rfl⟩
    refine hK _ _ (regrown_of_below hb15) ?_
    clear hK K
    refine wpX_one 7 _ (by kernel_rfl) rfl rfl (fun K hK => ?_)
    go_simp
    refine hK _ _ (regrown_of_below hb15) ?_
    clear hK K
    refine wpX_end ?_
    clear hSm hr5 hb15 HX3 L3 HWN HWW hrd
    obtain ⟨d0, d1, d2, d3', d4⟩ := L5.out.cells
    have d3 : w5.cell? ⟨w.heap.size, 3, none⟩ = some (.int .u8 9) := d3'
    clear d3'
    have k0 : ∀ (p' : Regrown), (grow (redrawn w5 p'.d) p'.os).cell? ⟨w.heap.size, 0, none⟩ = some (.int .i64 m) := fun p' => cell_regrown d0 p'.d p'.os
    have k1 : ∀ (p' : Regrown), (grow (redrawn w5 p'.d) p'.os).cell? ⟨w.heap.size, 1, none⟩ = some (.int .i64 t) := fun p' => cell_regrown d1 p'.d p'.os
    have k2 : ∀ (p' : Regrown), (grow (redrawn w5 p'.d) p'.os).cell? ⟨w.heap.size, 2, none⟩ = some (.int .i64 p) := fun p' => cell_regrown d2 p'.d p'.os
    have k3 : ∀ (p' : Regrown), (grow (redrawn w5 p'.d) p'.os).cell? ⟨w.heap.size, 3, none⟩ = some (.int .u8 9) := fun p' => cell_regrown d3 p'.d p'.os
    have k4 : ∀ (p' : Regrown), (grow (redrawn w5 p'.d) p'.os).cell? ⟨w.heap.size, 4, none⟩ = some (.int .i64 f) := fun p' => cell_regrown d4 p'.d p'.os
    refine ⟨(fun w' => ∃ p' : Regrown, w' = grow (redrawn w5 p'.d) p'.os), ⟨⟨w5.drawn, #[]⟩, by rw [grow_empty]; rfl⟩, ?_⟩
    refine wpR_of (lr := [_, _, _]) rfl ?_
    iterate 3 (refine wpR_stepG (by kernel_rfl) (fun K hK => ?_); go_simp; refine hK _ ?_; clear hK K)
    refine wpR_nil ?_
    clear k0 k1 k2 k3 k4 d0 d1 d2 d3 d4
    refine wpX_one 9 _ (by kernel_rfl) rfl (by kernel_rfl) (fun K hK => ?_)
    go_simp
    refine (without_calls w5 hx5 9 (by omega)).mono ?_
    rintro e w6 ⟨v6, rfl, hr6, hb6⟩
    refine hK _ _ (regrown_of_below hb6) ?_
    clear hK K
    have L6 := Lib.hid (L5.out.step hb6)
    refine wpX_one 12 _ (by kernel_rfl) rfl (by kernel_rfl) (fun K hK => ?_)
    go_simp
    refine (format_calls w6 m t p f l4 9 L6.out.rd hs l1 l2 l3).mono ?_
    rintro e w7 ⟨v7, rfl, hr7, hb7⟩
    rw [← HFfo.out] at hr7
    have hb57 := hb6.trans (hb7.mono hb6.size)
    refine hK _ _ (regrown_of_below hb57) ?_
    clear hK K
    refine wpX_one 13 _ (by kernel_rfl) rfl (by kernel_rfl) (fun K hK => ?_)
    go_simp
    refine (without_calls w7 hr7 9 (by omega)).mono ?_
    rintro e w8 ⟨v8, rfl, hr8, hb8⟩
    have hb58 := hb57.trans (hb8.mono hb57.size)
    refine hK _ _ (regrown_of_below hb58) ?_
    clear hK K
    have hSm := same_calls w8 ((hr6.below hb7).below hb8) hr8
    rw [decide_eq_true rfl] at hSm
    refine wpX_one 14 _ (by kernel_rfl) rfl (by kernel_rfl) (fun K hK => ?_)
    go_simp
    refine hSm.mono ?_
    rintro e w9 ⟨rfl, rfl⟩
    refine hK _ _ (regrown_of_below hb58) ?_
    clear hK K
    refine wpX_one 15 _ (by kernel_rfl) rfl (by kernel_rfl) (fun K hK => ?_)
    go_simp
    refine hK _ _ (regrown_of_below hb58) ?_
    clear hK K
    refine wpX_one 16 _ (by kernel_rfl) rfl (by kernel_rfl) (fun K hK => ?_)
    go_simp
    refine hK _ _ (regrown_of_below hb58) ?_
    clear hK K
    refine wpX_end (stg_nil ?_)
    have L8 := Lib.hid (L5.out.step hb58)
    clear hb58 hb57 hb8 hb7 hb6 hr6 hr7 hr8 hSm hx5
    go_wp2_with fail
    go_ret
    exact ⟨rfl, L8.out.bel⟩
end Go.Proofs.YthcjaegnnfiboaaDoor

namespace Go.Proofs.YthcjaegnnfiboaaDoor.fnTabsLeft
open Go.ChangeShapes Go.WideShapes Go.ChangeAt Go.RowKit
set_option maxRecDepth 100000

theorem own : ownKnob Tryd.prog.godebug = none := by kernel_rfl

theorem contract (H : Type) (enc : TypeId × Value → H) (W : World) (base : Nat) (args : Array Value) (ds gs : List (DataW H)) (before : List MemPlace)
    (hval : ∀ (j : Nat) t v, Tryd.f14.params[j]? = some t → args[j]? = some v → Value.okWide Tryd.prog W .any base t v)
    (hW : DataW.Whole enc Tryd.prog Tryd.f14.params.toList Rows.fnTabsLeftSpec.vars false W args.toList ds gs before)
    (hL : laidMetH Tryd.prog Rows.fnTabsLeftRow.laid W) :
    Calls Tryd.prog 14 args W fun e W' => ∃ v, e = .returned v ∧ Rows.fnTabsLeftSpec.post enc Tryd.prog Tryd.f14 false true false false W args v W' := by
  have hW' := hW
  obtain ⟨p, q, hA0, hV, rfl, hfz, hnd⟩ := hW
  have hA : DataW.TrodAll enc Tryd.prog W 0 (fun _ => true) true Tryd.f14.params.toList args.toList ds p := hA0
  rw [Tryd.params14] at hA hval
  obtain ⟨v0, vs0, d0, ds0, p0, q0, hargs, rfl, rfl, h0, r0⟩ := trodAll_cons hA
  obtain ⟨v1, vs1, d1, ds1, p1, q1, rfl, rfl, rfl, h1, r1⟩ := trodAll_cons r0
  obtain ⟨rfl, rfl, rfl⟩ := trodAll_nil r1
  obtain rfl : args = #[v0, v1] := by cases args; simp_all
  obtain ⟨mn0, tb0, pd0, fl0, ch0, rfl⟩ := open_conf (hval 0 _ _ rfl rfl)
  obtain ⟨bs1, hrd1⟩ := open_rd (hval 1 _ _ rfl rfl) h1
  refine (tabsLeft_calls W mn0 tb0 pd0 fl0 ch0 hrd1 (tabs_of hL)).mono fun e W' ⟨he, hb⟩ => ?_
  subst he
  refine ⟨_, rfl, law_post rfl ?_ (by kernel_rfl) ?_ hW' hb⟩
  · intro ds hds
    match ds, hds with
    | [a, b], _ => rfl
  · rw [Tryd.params14]
    intro t ht
    simp at ht
    rcases ht with rfl | rfl <;> exact of_decide_eq_true (by kernel_rfl)

theorem laid_met (os : Os) : laidMet Tryd.prog Rows.fnTabsLeftRow.laid ((laidWorld os).forCall (fun _ _ => 0) ⟨#[], #[conf0, .slice none 0 0], []⟩).memory :=
  laidMet_of_run' 8 (by kernel_rfl) (by kernel_rfl)
theorem reads (os : Os) {H : Type} (enc : TypeId × Value → H) : ∃ places, DataW.whole enc Tryd.prog ((laidWorld os).forCall (fun _ _ => 0) ⟨#[], #[conf0, .slice none 0 0], []⟩).memory Tryd.f14.params.toList Rows.fnTabsLeftSpec.vars false (#[conf0, .slice none 0 0] : Array Value).toList 8 = some ([.agg [.lit (.int .i64 0), .lit (.int .i64 0), .lit (.int .i64 0), .lit (.int .u8 0), .lit (.int .i64 0)], .nil], [], places) :=
  ⟨[], by kernel_rfl⟩

set_option maxRecDepth 100000 in
theorem lifted (os : Os) (started : os.Started) (H : Type) (enc : TypeId × Value → H) (F : Stop.Interp) :
    ReturnsInHanded {} Tryd.checked os 14 .any ((OpenSpec.ofChange Rows.fnTabsLeftSpec).preRow enc Tryd.prog Tryd.f14 Rows.fnTabsLeftRow.domain false Rows.fnTabsLeftRow.laid) (((OpenSpec.ofChange Rows.fnTabsLeftSpec).at F).post enc Tryd.prog Tryd.f14 false true false false) := by
  obtain ⟨places, hx⟩ := reads os enc
  refine returnsInHanded_of_row (C := Tryd.checked) (s := OpenSpec.ofChange Rows.fnTabsLeftSpec) own started (by kernel_rfl) Tryd.func14
    (witness_row_at (enc := enc) (C := Tryd.checked) false (laidWorld os) #[conf0, .slice none 0 0] rfl (by kernel_rfl) (by kernel_rfl) (by kernel_rfl)
      (OpenSpec.preRow_of_cond 8 hx (by kernel_rfl) (fun k hk => by cases hk) (by kernel_rfl) (laid_met os))) ?_
  intro W base args ds gs before hval hW _ _ _ hL _ _
  exact contract H enc W base args ds gs before hval hW hL

theorem said : Rows.FnTabsLeftSaid :=
  OpenClaim.holds_of_cond 14 Tryd.f14 rfl rfl rfl rfl rfl rfl rfl ⟨rfl, rfl, rfl, rfl, rfl⟩ rfl rfl rfl rfl rfl (by kernel_rfl) Tryd.func14 (by kernel_rfl)
    (of_decide_eq_true (by kernel_rfl)) (by unfold Func.isWrapper; first | (rw [if_pos (by decide +kernel)]; kernel_rfl) | (rw [if_neg (by decide +kernel)]; exact ⟨rfl, rfl⟩))
    (fun os started H enc _ F => by rw [OpenClaim.pre_eq_preRow]; exact lifted os started H enc F)

theorem plain (f : FuncId) (fn : Func) (hf : Tryd.pinned.checked.prog.funcNamed "loop.example/pub-tabcolumns/laws.FnTabsLeft" = some f) (hfn : Tryd.pinned.checked.prog.funcs[f]? = some fn) :
    true = Tryd.pinned.checked.prog.looks [] ∧ ∀ (j : Nat) t, fn.params[j]? = some t → Tryd.pinned.checked.prog.wantsStandIn t = false := by
  obtain rfl : f = 14 := Option.some.inj ((show Tryd.prog.funcNamed "loop.example/pub-tabcolumns/laws.FnTabsLeft" = some 14 by kernel_rfl).symm.trans hf) |>.symm
  obtain rfl : fn = Tryd.f14 := (Option.some.inj (Tryd.func14.symm.trans hfn)).symm
  refine ⟨by kernel_rfl, fun j t ht => ?_⟩
  rw [Tryd.params14] at ht
  have hm := Array.mem_of_getElem? ht
  simp at hm
  rcases hm with rfl | rfl
  · exact (show Tryd.prog.wantsStandIn 23 = false by kernel_rfl)
  · exact (show Tryd.prog.wantsStandIn 24 = false by kernel_rfl)

theorem card : Rows.FnTabsLeftCardSaid :=
  Claim7.holds_tied_plain_at .later [] _ _ _ _ said (fun _ h => by cases h) (by kernel_rfl) (fun _ h => by cases h) fnTabsLeft_row_tie rfl ⟨rfl, rfl⟩ (by kernel_rfl) rfl plain (by kernel_rfl)
end Go.Proofs.YthcjaegnnfiboaaDoor.fnTabsLeft

namespace Go.Proofs.YthcjaegnnfiboaaDoor
theorem fnTabsLeft_card : Rows.FnTabsLeftCardSaid := fnTabsLeft.card
#print axioms fnTabsLeft_card
end Go.Proofs.YthcjaegnnfiboaaDoor
