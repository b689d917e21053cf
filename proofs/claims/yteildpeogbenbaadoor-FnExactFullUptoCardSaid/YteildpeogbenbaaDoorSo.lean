/- Walks: spec.Cells of an empty slice at any address. -/
import Derived.Test.YteildpeogbenbaaDoorSi
namespace Go.Proofs.YteildpeogbenbaaDoor
open Go.RowKit Go.Tw Go.Sort
set_option maxRecDepth 100000

theorem runeCount_empty (w : World) (ad : Addr) (cp : Nat) : Calls Tryd.prog 46 #[.slice (some ad) 0 cp] w fun e w' => e = .returned (.int .i64 0) ∧ w = w' := by
  go_enter Tryd.func46, Tryd.ntmps46
  go_wp2_with fail
  go_loopw [4] (fun t4 wr => t4 = .int .i64 0 ∧ wr = w) (fun _ _ => 0)
  case atStart => exact ⟨rfl, rfl⟩
  case round =>
    obtain ⟨rfl, rfl⟩ := hrel
    go_wp2_with fail
    go_ret
    exact ⟨rfl, rfl⟩

set_option maxHeartbeats 4000000 in
theorem cells_empty (w : World) (m t p f : Nat) (ch : UInt8) (ad : Addr) (cp : Nat) (hcp : cp ≤ maxLen) :
    Calls Tryd.prog 23 #[.agg #[.int .i64 m, .int .i64 t, .int .i64 p, .int .u8 ch.toNat, .int .i64 f], .slice (some ad) 0 cp] w (CePost w [⟨[], 0, 0⟩]) := by
  obtain ⟨w1, hw1⟩ : ∃ w1, w1 = w.alloc (.cells #[.int .i64 m, .int .i64 t, .int .i64 p, .int .u8 ch.toNat, .int .i64 f] 23) := ⟨_, rfl⟩
  have hb0 : Below w.heap.size w w1 := hw1 ▸ (Below.refl _ w).alloc (Nat.le_refl _) _
  have hs1 : w1.heap.size = w.heap.size + 1 := by rw [hw1]; simp
  have hend : ∀ w', Tch (New w1) w1 w' → Below w.heap.size w w' := fun w' h => hb0.trans ((New.below h).mono hb0.size)
  have hst : ∀ w2, w2 = ((((w1.alloc (.cells #[.slice none 0 0, .int .i64 0, .int .u8 0] 55)))) : World) → CSt w1 (w.heap.size + 1) w2 (.slice none 0 0) [] ⟨[], 0, 0⟩ (.slice none 0 0) := by
    rintro w2 rfl
    rw [← hs1]
    exact ⟨⟨0, ⟨[], Own.nil _ _ _ _, rfl⟩, Own.nil _ _ _ _, Nat.zero_le _⟩, heap_alloc_new w1 _, Nat.le_refl _, Tch.alloc _ _ _⟩
  have HEND := Lib.hid hend
  have HST := Lib.hid (hst _ rfl)
  have HNEW := Lib.hid (show ∀ k, New w1 k → New w k from fun k h => by unfold New at *; omega)
  rw [hw1] at HEND HST HNEW
  clear hb0 hend hst hw1 hs1
  have hcp2 : cp ≤ 9223372036854775807 := hcp
  have ha0 : ad.add 0 = ad := by simp [Addr.add]
  go_enter Tryd.func23, Tryd.ntmps23
  go_wp2_with fail
  go_loopw [5, 7, 8] (fun t5 t7 t8 wr => t5 = .slice none 0 0 ∧ t7 = .int .i64 0 ∧ t8 = .int .i64 0 ∧ CSt (w.alloc (.cells #[.int .i64 m, .int .i64 t, .int .i64 p, .int .u8 ch.toNat, .int .i64 f] 23)) (w.heap.size + 1) wr (.slice none 0 0) [] ⟨[], 0, 0⟩ (.slice none 0 0)) (fun _ _ _ _ => 0)
  case atStart => exact ⟨rfl, rfl, rfl, HST.out⟩
  case round =>
    clear HST
    obtain ⟨rfl, rfl, rfl, hst⟩ := hrel
    have HCA := Lib.hid hst
    clear hst
    go_wp2_with fail
    have hXa := HCA.out.blk
    have cA0 : wr.cell? ⟨w.heap.size + 1, 0, none⟩ = some (.slice none 0 0) := cell_of_blk hXa 0
    obtain ⟨tv9, w9, hrun9, hX9, hst9⟩ := (HCA.out.kept (Tch.drew _ wr)).appendW (pv := .slice (some ad) 0 cp) (bs := []) (.inr ⟨rfl, ad, cp, rfl, hcp⟩) (by simp) 26
    obtain ⟨ao9, n9, cp9, rfl⟩ := (show ∃ ao n cp, tv9 = .slice ao n cp from by obtain ⟨_, _, h, _⟩ := hst9.bd; obtain ⟨a, b, e⟩ := h.shape; exact ⟨a, _, b, e⟩)
    have HRUN9 := Lib.hid (show (Builtin.append_ #[26, 26] 26 #[.slice none 0 0, .slice (some ad) 0 cp]).run Tryd.prog wr.drew = .ok (.slice ao9 n9 cp9) w9 from hrun9)
    have c9 : w9.cell? ⟨w.heap.size + 1, 0, none⟩ = some (.slice none 0 0) := cell_of_blk hX9 0
    have f9 := frozen_of_blk hX9 0
    have HST9 := Lib.hid hst9
    clear hrun9 hX9 hst9 hXa
    refine wp_region_rf (fun w' => w' = wr.drew ∨ w' = w9) [0, 1, 2, 3, 4, 6] [5, 7] 1 [_, _, _, _, _, _] [_, _] (by kernel_rfl) (by kernel_rfl) rfl rfl (fun _ _ d _ _ h => by cases d <;> exact h) (.inl rfl) ?_
    iterate 6 (refine wpR_step rfl (fun K hK => ?_); go_simp; refine hK _ ?_; clear hK K)
    refine wpR_nil ?_
    refine wpE_step rfl (fun K hK => ?_)
    refine wp_append_eq (.tmp 97) (.tmp 100) 26 rfl rfl rfl HRUN9.out ?_
    go_simp
    refine hK _ _ (.inr rfl) ?_
    clear hK K cA0 HRUN9
    refine wpE_zero ?_
    go_wp2_with fail
    clear c9 f9 HCA
    revert HST9
    generalize (w9.setCell ⟨w.heap.size + 1, 0, none⟩ (.slice ao9 n9 cp9)) = wb
    intro HST9
    have hXb := HST9.out.blk
    have hXbl := lt_of_heap hXb
    have b1 : wb.cell? ⟨w.heap.size + 1, 1, none⟩ = some (.int .i64 0) := cell_of_blk hXb 1
    have k1 : ∀ (p : Regrown), (grow (redrawn wb p.d) p.os).cell? ⟨w.heap.size + 1, 1, none⟩ = some (.int .i64 0) := fun p => cell_regrown b1 p.d p.os
    refine wp_region_rf (fun w' => ∃ p : Regrown, w' = grow (redrawn wb p.d) p.os) [0, 1, 2, 3, 4, 7] [5, 6, 8] 2 [_, _, _, _, _, _] [_, _, _] (by kernel_rfl) (by kernel_rfl) rfl rfl (fun _ _ d _ _ h => by cases d <;> exact h) ⟨⟨wb.drawn + 1, #[]⟩, by rw [grow_empty]; rfl⟩ ?_
    iterate 6 (refine wpR_step rfl (fun K hK => ?_); go_simp; refine hK _ ?_; clear hK K)
    refine wpR_nil ?_
    refine wpE_step rfl (fun K hK => ?_)
    go_simp
    refine (runeCount_empty wb.drew ad cp).mono ?_
    rintro e w10 ⟨rfl, rfl⟩
    have hbel : Below wb.drew.heap.size wb.drew wb.drew := Below.refl _ _
    refine hK _ _ (regrown_of_below ⟨hbel.os, hbel.tape, hbel.output, hbel.size, hbel.block⟩) ?_
    clear hK K
    refine wpE_step rfl (fun K hK => ?_)
    go_simp
    refine hK _ _ (regrown_of_below ⟨hbel.os, hbel.tape, hbel.output, hbel.size, hbel.block⟩) ?_
    clear hK K k1
    have hst10 := HST9.out.below (w' := wb.drew) ⟨hbel.os, hbel.tape, hbel.output, hbel.size, hbel.block⟩
    clear hbel HST9 hXb hXbl b1
    revert hst10
    generalize wb.drew = w10
    intro hst10
    have HSC := Lib.hid (hst10.setW (0 : Nat))
    have hb10 := hst10.blk
    have e0 : w10.cell? ⟨w.heap.size + 1, 0, none⟩ = some (.slice ao9 n9 cp9) := cell_of_blk hb10 0
    have e1 : w10.cell? ⟨w.heap.size + 1, 1, none⟩ = some (.int .i64 0) := cell_of_blk hb10 1
    have e2 : w10.cell? ⟨w.heap.size + 1, 2, none⟩ = some (.int .u8 0) := cell_of_blk hb10 2
    have fe0 := frozen_of_blk hb10 0
    have fe1 := frozen_of_blk hb10 1
    have fe2 := frozen_of_blk hb10 2
    clear hst10 hb10
    refine wpE_zero ?_
    obtain ⟨t5', w17, hrun17, hX17, htt17, hcl17, -⟩ := HSC.out.push (by simp) 39
    have hz17 : (w10.setCell ⟨w.heap.size + 1, 1, none⟩ (.int .i64 0)).heap.size = w10.heap.size := by simp [World.setCell]
    have HRUN17 := Lib.hid (show (Builtin.append_ #[39, 39] 39 #[.slice none 0 0, .slice (some ⟨w10.heap.size, 0, none⟩) 1 1]).run Tryd.prog ((w10.setCell ⟨w.heap.size + 1, 1, none⟩ (.int .i64 0)).alloc (.cells #[.slice ao9 n9 cp9, .int .i64 0, .int .u8 0] 55)) = .ok t5' w17 from by rw [← hz17]; exact hrun17)
    have HT17 := Lib.hid htt17
    have HCL17 := Lib.hid hcl17
    clear hrun17 hX17 htt17 hcl17 hz17 HSC
    go_wp2_with (at_builtin; refine wpList_append_eq rfl (.tmp 111) (.tmp 113) 39 rfl rfl rfl HRUN17.out ?_)
    go_ret
    refine ⟨t5', rfl, ?_, HEND.out _ HT17.out⟩
    exact HCL17.out.mono (fun k _ h => HNEW.out k h) (Nat.le_refl _)

theorem cells_callsW (w : World) (m t p f : Nat) (hf : f < 64) (ch : UInt8) {v : Value} {s : List UInt8} (h : Rw w v s) (hl : s.length ≤ 1000000) :
    Calls Tryd.prog 23 #[.agg #[.int .i64 m, .int .i64 t, .int .i64 p, .int .u8 ch.toNat, .int .i64 f], v] w (CePost w (cellsGo (cfgOf m t p f ch) ⟨[], 0, 0⟩ [] s)) := by
  rcases h with h | ⟨rfl, ad, cp, rfl, hcp⟩
  · exact cells_calls w m t p f hf ch h hl
  · rw [show cellsGo (cfgOf m t p f ch) ⟨[], 0, 0⟩ [] [] = [⟨[], 0, 0⟩] by rw [cellsGo]; rfl]
    exact cells_empty w m t p f ch ad cp hcp
end Go.Proofs.YteildpeogbenbaaDoor
