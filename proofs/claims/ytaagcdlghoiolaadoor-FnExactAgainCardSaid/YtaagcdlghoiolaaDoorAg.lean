/- Walk: impl.Again: a text aligned, the writer set up anew with another sink, another text aligned. -/
import Derived.Test.YtaagcdlghoiolaaDoorWz
import Derived.Test.YtaagcdlghoiolaaDoorOrx
namespace Go.Proofs.YtaagcdlghoiolaaDoor
open Go.RowKit Go.Tw Go.Sort
set_option maxRecDepth 100000

section
variable {w : World}
def AF1 (n k : Nat) : Prop := n + 2 ≤ k ∧ k ≠ n + 3
def AF2 (n k : Nat) : Prop := n + 2 ≤ k
set_option maxHeartbeats 8000000 in
theorem implAgain_calls (w : World) (mn tb pd fl : Nat) (ch : UInt8) (hmn : mn ≤ 1000) (htb : tb ≤ 1000) (hpd : pd ≤ 1000) (hfl : fl < 64) (mn' tb' pd' fl' : Nat) (ch' : UInt8) (hmn' : mn' ≤ 1000) (htb' : tb' ≤ 1000) (hpd' : pd' ≤ 1000) (hfl' : fl' < 64)
    {va vb : Value} {a b : List UInt8} (ha : Rd w va a) (hb : Rd w vb b) (hla : a.length ≤ 2400000) (hlb : b.length ≤ 2400000) :
    Calls Tryd.prog 17 #[.agg #[.int .i64 mn, .int .i64 tb, .int .i64 pd, .int .u8 ch.toNat, .int .i64 fl], va, .agg #[.int .i64 mn', .int .i64 tb', .int .i64 pd', .int .u8 ch'.toNat, .int .i64 fl'], vb] w fun e w' =>
      ∃ vx vy, e = .returned (.tuple #[vx, vy]) ∧ Rd w' vx (outOf ⟨mn, tb, pd, ch, keepFl ch fl, -1⟩ a) ∧ Rd w' vy (outOf ⟨mn', tb', pd', ch', keepFl ch' fl', -1⟩ b) ∧ Below w.heap.size w w' := by
  obtain ⟨W1, hW1⟩ : ∃ x, x = w.alloc (.cells #[.int .i64 mn, .int .i64 tb, .int .i64 pd, .int .u8 ch.toNat, .int .i64 fl] 23) := ⟨_, rfl⟩
  obtain ⟨W2, hW2⟩ : ∃ x, x = W1.alloc (.cells #[.int .i64 mn', .int .i64 tb', .int .i64 pd', .int .u8 ch'.toNat, .int .i64 fl'] 23) := ⟨_, rfl⟩
  obtain ⟨W3, hW3⟩ : ∃ x, x = W2.alloc (.cells #[.slice none 0 0, .int .i64 (-1)] 50) := ⟨_, rfl⟩
  obtain ⟨W4, hW4⟩ : ∃ x, x = W3.alloc (.cells #[.slice none 0 0, .int .i64 (-1)] 50) := ⟨_, rfl⟩
  obtain ⟨n, hn⟩ : ∃ n, n = w.heap.size := ⟨_, rfl⟩
  have s1 : W1.heap.size = n + 1 := by rw [hW1, hn]; simp
  have s2 : W2.heap.size = n + 2 := by rw [hW2]; simp [s1]
  have s3 : W3.heap.size = n + 3 := by rw [hW3]; simp [s2]
  have s4 : W4.heap.size = n + 4 := by rw [hW4]; simp [s3]
  have t1 : Tch (fun _ => False) w W1 := hW1 ▸ Tch.alloc _ _ _
  have t2 : Tch (fun _ => False) W1 W2 := hW2 ▸ Tch.alloc _ _ _
  have t3 : Tch (fun _ => False) W2 W3 := hW3 ▸ Tch.alloc _ _ _
  have t4 : Tch (fun _ => False) W3 W4 := hW4 ▸ Tch.alloc _ _ _
  have hD2 : W2.heap[n + 1]? = some (.cells #[.int .i64 mn', .int .i64 tb', .int .i64 pd', .int .u8 ch'.toNat, .int .i64 fl'] 23 (0, 0)) := by have := heap_alloc_new W1 (.cells #[.int .i64 mn', .int .i64 tb', .int .i64 pd', .int .u8 ch'.toNat, .int .i64 fl'] 23); rw [← hW2, s1] at this; exact this
  have hS3 : W3.heap[n + 2]? = some (.cells #[.slice none 0 0, .int .i64 (-1)] 50 (0, 0)) := by have := heap_alloc_new W2 (.cells #[.slice none 0 0, .int .i64 (-1)] 50); rw [← hW3, s2] at this; exact this
  have hT4 : W4.heap[n + 3]? = some (.cells #[.slice none 0 0, .int .i64 (-1)] 50 (0, 0)) := by have := heap_alloc_new W3 (.cells #[.slice none 0 0, .int .i64 (-1)] 50); rw [← hW4, s3] at this; exact this
  have hD4 := t4.heap (t3.heap hD2 id) id
  have hS4 := t4.heap hS3 id
  have hb4 : Below n w W4 := by
    have := ((t1.trans t2).trans t3).trans t4
    exact this.below (by omega) (fun _ _ h => h)
  have hAF1 : ∀ k, W4.heap.size ≤ k → AF1 n k := fun k hk => ⟨by omega, by omega⟩
  have hB := begin_calls (F := AF1 n) (S := n + 1 + 1) (w := W4) hAF1 (-1) ⟨by omega, by omega⟩ hS4 mn tb pd fl ch hmn htb hpd hfl
  rw [s4] at hB
  have HAF := Lib.hid hAF1
  have HD := Lib.hid hD4
  have HT := Lib.hid hT4
  have HB4 := Lib.hid hb4
  have HA := Lib.hid ha
  have HBB := Lib.hid hb
  obtain ⟨c, hc⟩ : ∃ c : Cfg, c = ⟨mn, tb, pd, ch, keepFl ch fl, -1⟩ := ⟨_, rfl⟩
  obtain ⟨d, hd⟩ : ∃ d : Cfg, d = ⟨mn', tb', pd', ch', keepFl ch' fl', -1⟩ := ⟨_, rfl⟩
  have gc : Good2 c (St.new []) 0 := Good2.new c (by rw [hc]; exact (by decide : (-1 : Int) < 0)) (by rw [hc]; exact hmn) (by rw [hc]; exact htb) (by rw [hc]; exact hpd)
  have gd : Good2 d (St.new []) 0 := Good2.new d (by rw [hd]; exact (by decide : (-1 : Int) < 0)) (by rw [hd]; exact hmn') (by rw [hd]; exact htb') (by rw [hd]; exact hpd')
  rw [← hc] at hB ⊢
  rw [← hd]
  have HDD := Lib.hid hd
  have HB := Lib.hid hB
  have hcv : IntKind.u64.wrap (fl' : Int) = fl' := by unfold IntKind.wrap; simp [IntKind.bits]; omega
  obtain ⟨ao, ca, rfl, r1, r2, -⟩ := ha.val
  obtain ⟨bo, cb, rfl, r3, r4, -⟩ := hb.val
  unfold maxLen at r2 r4
  have HW4 := Lib.hid (show W4 = ((((w.alloc (.cells #[.int .i64 mn, .int .i64 tb, .int .i64 pd, .int .u8 ch.toNat, .int .i64 fl] 23)).alloc (.cells #[.int .i64 mn', .int .i64 tb', .int .i64 pd', .int .u8 ch'.toNat, .int .i64 fl'] 23)).alloc (.cells #[.slice none 0 0, .int .i64 (-1)] 50)).alloc (.cells #[.slice none 0 0, .int .i64 (-1)] 50)) by rw [hW4, hW3, hW2, hW1])
  clear t1 t2 t3 t4 hD2 hS3 hT4 hD4 hS4 hb4 hAF1 hB hc hd ha hb s1 s2 s3 s4 hW1 hW2 hW3 hW4
  subst hn
  clear W1 W2 W3
  go_enter Tryd.func17, Tryd.ntmps17
  go_wp2_with fail
  rw [← HW4.out]
  refine HB.out.mono ?_
  rintro ed w2 ⟨rfl, hr, t⟩
  clear HW4 HB
  have b2 : Below w.heap.size w w2 := HB4.out.trans (t.below HB4.out.size (fun k hk h => by have := h.1; omega))
  have hT2 := t.heap HT.out (fun h => h.2 rfl)
  have hD2 := t.heap HD.out (fun h => by have := h.1; omega)
  have hF2 : ∀ k, w2.heap.size ≤ k → AF1 w.heap.size k := fun k hk => HAF.out k (Nat.le_trans t.size hk)
  have HR0 := Lib.hid hr
  have B2 := Lib.hid b2
  have HT2 := Lib.hid hT2
  have HD2 := Lib.hid hD2
  have HF2 := Lib.hid hF2
  clear hr t b2 hT2 hD2 hF2 HB4 HT HD HAF
  generalize w.heap.size + 4 + 1 = B at HR0 ⊢
  obtain ⟨g1, cap1, wc1, hrun, hg, hc1, hc2, hown, hbel⟩ := run_copy w2 (.inl (HA.out.below B2.out)) (by omega) 24
  have hF3 : ∀ k, wc1.heap.size ≤ k → But (AF1 w.heap.size) g1 k := fun k hk => ⟨HF2.out k (Nat.le_trans hbel.size hk), by have := hown.lt (g := g1) rfl; omega⟩
  have hR3 : Rep (But (AF1 w.heap.size) g1) wc1 B (w.heap.size + 1 + 1) c (St.new []) := (HR0.out.but g1 hg).below hbel
  have hcell3 : ∀ i (h : i < a.length), wc1.cell? ⟨g1, 0 + i, none⟩ = some (bv a[i]) := by
    intro i hi
    obtain ⟨ao, cp, e, _, _, _, _, h5⟩ := (Own.rd hown).val
    obtain ⟨ad, ea, hcc⟩ := h5 i hi
    simp only [Value.slice.injEq] at e
    rw [← e.1] at ea
    cases ea
    exact hcc
  have hN := Write_calls hF3 hR3 gc hcell3 (fun h => h.2 rfl) hc1 hc2 (by omega)
  have HN1 := Lib.hid hN
  have TC1 := Lib.hid ((Tch.refl (AF1 w.heap.size) w2).trans (Tch.of_below hbel))
  have HRUN1 := Lib.hid hrun
  clear hN hF3 hR3 hcell3 hown hbel hrun
  go_wp2_with (at_builtin; refine wpList_append_eq rfl (.tmp 21) (.tmp 22) 24 rfl rfl rfl HRUN1.out ?_)
  refine HN1.out.mono ?_
  rintro ed w4 ⟨rfl, hr, t⟩
  have T4 := Lib.hid (TC1.out.trans (t.mono (fun k h => h.1)))
  have g1 := gc.steps a (by omega)
  have hN := Flush_calls (fun k hk => HF2.out k (Nat.le_trans T4.out.size hk)) hr.unbut g1.toGood
  obtain ⟨sa, hsa⟩ : ∃ x, x = (a.foldl (St.step c) (St.new [])).flush c := ⟨_, rfl⟩
  have hso : sa.out = outOf c a := by rw [hsa]; rfl
  rw [← hsa] at hN
  have HN := Lib.hid hN
  have HSO := Lib.hid hso
  clear hr t hN hsa hso HN1 TC1 HRUN1 HR0
  go_wp2_with fail
  refine HN.out.mono ?_
  rintro ed w5 ⟨rfl, hr, t⟩
  clear HN
  have t5 := T4.out.trans t
  have hN1 : ∀ k, k < w.heap.size → ¬ AF1 w.heap.size k := fun k hk h => by have := h.1; omega
  have b5 := B2.out.trans (t5.below B2.out.size hN1)
  have hd5 := t5.heap HD2.out (fun h => by have := h.1; omega)
  have hT5 := t5.heap HT2.out (fun h => h.2 rfl)
  have e0 : w5.cell? ⟨w.heap.size + 1, 0, none⟩ = some (.int .i64 mn') := cell_of_blk hd5 0
  have e1 : w5.cell? ⟨w.heap.size + 1, 1, none⟩ = some (.int .i64 tb') := cell_of_blk hd5 1
  have e2 : w5.cell? ⟨w.heap.size + 1, 2, none⟩ = some (.int .i64 pd') := cell_of_blk hd5 2
  have e3 : w5.cell? ⟨w.heap.size + 1, 3, none⟩ = some (.int .u8 ch'.toNat) := cell_of_blk hd5 3
  have e4 : w5.cell? ⟨w.heap.size + 1, 4, none⟩ = some (.int .i64 fl') := cell_of_blk hd5 4
  have hr2 : Rep (AF2 w.heap.size) w5 B (w.heap.size + 1 + 1) c sa := hr.mono (fun k _ h => h.1)
  obtain ⟨bufv, lv, wv, ov, vs, hrp⟩ := hr2
  have hlt := lt_of_heap hT5
  have hA2 : ∀ k, w5.heap.size ≤ k → AF2 w.heap.size k := fun k hk => by unfold AF2; omega
  have hN := again_init (F := AF2 w.heap.size) (T := w.heap.size + 1 + 1 + 1) hA2 hrp hT5 (by unfold AF2; omega) (by omega) mn' tb' pd' fl' ch' hmn' htb' hpd' hfl'
  rw [← HDD.out] at hN
  have HN := Lib.hid hN
  have HRP := Lib.hid hrp
  have B5 := Lib.hid b5
  have HFR := Lib.hid (Past.fresh hA2 hrp)
  clear hN hrp hr t t5 b5 hd5 hT5 hA2 hN1 hlt T4 HD2 HT2 HF2 B2
  go_wp2_with fail
  refine HN.out.mono ?_
  rintro ed w6 ⟨rfl, hr, t⟩
  clear HN e0 e1 e2 e3 e4
  have hF6 : ∀ k, w6.heap.size ≤ k → Past (AF2 w.heap.size) (w.heap.size + 1 + 1) ov k := fun k hk => HFR.out k (Nat.le_trans t.size hk)
  have hN3 : ∀ k, k < w.heap.size → ¬ Past (AF2 w.heap.size) (w.heap.size + 1 + 1) ov k := fun k hk h => by have := h.1; unfold AF2 at this; omega
  have b6 := B5.out.trans (t.below B5.out.size hN3)
  have HF6 := Lib.hid hF6
  have HN3 := Lib.hid hN3
  have B6 := Lib.hid b6
  have T6 := Lib.hid t
  have HR6 := Lib.hid hr
  clear hr t hF6 hN3 b6 HFR B5
  generalize hP3 : Past (AF2 w.heap.size) (w.heap.size + 1 + 1) ov = F3 at HF6 HN3 T6 HR6
  have HP3 := Lib.hid hP3
  clear hP3
  obtain ⟨g2, cap2, wc2, hrun, hg, hc1, hc2, hown, hbel⟩ := run_copy w6 (.inl (HBB.out.below B6.out)) (by omega) 24
  have hF3 : ∀ k, wc2.heap.size ≤ k → But (F3) g2 k := fun k hk => ⟨HF6.out k (Nat.le_trans hbel.size hk), by have := hown.lt (g := g2) rfl; omega⟩
  have hR3 : Rep (But (F3) g2) wc2 B (w.heap.size + 1 + 1 + 1) d (St.new []) := (HR6.out.but g2 hg).below hbel
  have hcell3 : ∀ i (h : i < b.length), wc2.cell? ⟨g2, 0 + i, none⟩ = some (bv b[i]) := by
    intro i hi
    obtain ⟨ao, cp, e, _, _, _, _, h5⟩ := (Own.rd hown).val
    obtain ⟨ad, ea, hcc⟩ := h5 i hi
    simp only [Value.slice.injEq] at e
    rw [← e.1] at ea
    cases ea
    exact hcc
  have hN := Write_calls hF3 hR3 gd hcell3 (fun h => h.2 rfl) hc1 hc2 (by omega)
  have HN2 := Lib.hid hN
  have TC2 := Lib.hid ((Tch.refl F3 w6).trans (Tch.of_below hbel))
  have HRUN2 := Lib.hid hrun
  clear hN hF3 hR3 hcell3 hown hbel hrun
  go_wp2_with (at_builtin; refine wpList_append_eq rfl (.tmp 43) (.tmp 44) 24 rfl rfl rfl HRUN2.out ?_)
  refine HN2.out.mono ?_
  rintro ed w7 ⟨rfl, hr, t⟩
  have T7 := Lib.hid (TC2.out.trans (t.mono (fun k h => h.1)))
  have g1 := gd.steps b (by omega)
  have hN := Flush_calls (fun k hk => HF6.out k (Nat.le_trans T7.out.size hk)) hr.unbut g1.toGood
  obtain ⟨sb, hsb⟩ : ∃ x, x = (b.foldl (St.step d) (St.new [])).flush d := ⟨_, rfl⟩
  have hso : sb.out = outOf d b := by rw [hsb]; rfl
  rw [← hsb] at hN
  have HN := Lib.hid hN
  have HSB := Lib.hid hso
  clear hr t hN hsb hso HN2 TC2 HRUN2 HR6
  go_wp2_with fail
  refine HN.out.mono ?_
  rintro ed w8 ⟨rfl, hr, t⟩
  clear HN
  have t8 := T7.out.trans t
  have t58 := T6.out.trans t8
  have b8 := B6.out.trans (t8.below B6.out.size HN3.out)
  have hown := HRP.out.parts.out.kept t58 (fun g hg h => by rw [← HP3.out] at h; exact h.2.2 hg)
  have hSk := t58.heap HRP.out.parts.sink (fun h => by rw [← HP3.out] at h; exact h.2.1 rfl)
  obtain ⟨bufv', lv', wv', ov', vs', hrp'⟩ := hr
  have cS : w8.cell? ⟨w.heap.size + 1 + 1, 0, none⟩ = some ov := cell_of_blk hSk 0
  have cT : w8.cell? ⟨w.heap.size + 1 + 1 + 1, 0, none⟩ = some ov' := cell_of_blk hrp'.parts.sink 0
  have R1 : Rd w8 ov (outOf c a) := by rw [← HSO.out]; exact Own.rd hown
  have R2 : Rd w8 ov' (outOf d b) := by rw [← HSB.out]; exact Own.rd hrp'.parts.out
  have HR1 := Lib.hid R1
  have HR2 := Lib.hid R2
  have B8 := Lib.hid b8
  clear R1 R2 b8 hown hSk hrp' HRP t8 t58 t T7 T6 HF6 HN3 HP3 B6 HSO HSB
  have kS : ∀ (p' : Regrown), (grow (redrawn w8 p'.d) p'.os).cell? ⟨w.heap.size + 1 + 1, 0, none⟩ = some ov := fun p' => cell_regrown cS p'.d p'.os
  have kT : ∀ (p' : Regrown), (grow (redrawn w8 p'.d) p'.os).cell? ⟨w.heap.size + 1 + 1 + 1, 0, none⟩ = some ov' := fun p' => cell_regrown cT p'.d p'.os
  go_wp2_with fail
  refine wp_region_stages [([0, 1, 2, 3, 4, 5, 6, 7], [8, 9])] (by kernel_rfl) (by kernel_rfl) (by kernel_rfl) (fun _ _ d _ _ h => by cases d <;> exact h) ?_
  refine ⟨(fun w' => ∃ p' : Regrown, w' = grow (redrawn w8 p'.d) p'.os), ⟨⟨w8.drawn + 1, #[]⟩, by rw [grow_empty]; rfl⟩, ?_⟩
  refine wpR_of (lr := [_, _, _, _, _, _, _, _]) rfl ?_
  iterate 8 (refine wpR_step rfl (fun K hK => ?_); go_simp; refine hK _ ?_; clear hK K)
  refine wpR_nil ?_
  refine wpX_one 8 _ (by kernel_rfl) rfl rfl (fun K hK => ?_)
  go_simp
  refine hK _ _ ⟨⟨w8.drawn + 1, #[]⟩, by rw [grow_empty]; rfl⟩ ?_
  clear hK K
  refine wpX_one 9 _ (by kernel_rfl) rfl rfl (fun K hK => ?_)
  go_simp
  refine hK _ _ ⟨⟨w8.drawn + 1, #[]⟩, by rw [grow_empty]; rfl⟩ ?_
  clear hK K
  refine wpX_end (stg_nil ?_)
  go_wp2_with fail
  refine bodyPost_ret (v := .tuple #[ov, ov']) (by simp [results, Tryd.results17, go_sem]) rfl ?_
  have td : Below w8.heap.size w8 w8.drew := (Tch.drew (fun _ => False) w8).below (Nat.le_refl _) (fun _ _ h => h)
  exact ⟨_, _, rfl, HR1.out.below td, HR2.out.below td, B8.out.trans (td.mono B8.out.size)⟩
end
end Go.Proofs.YtaagcdlghoiolaaDoor
