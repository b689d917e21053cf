/- Walks: spec.Cells. Printed by gen_XSi.py. -/
import Derived.Test.YteildpeogbenbaaDoorSh
namespace Go.Proofs.YteildpeogbenbaaDoor
open Go.RowKit Go.Tw Go.Sort
set_option maxRecDepth 100000

def CePost (w : World) (l : List SC) (e : Ending) (w' : World) : Prop := ∃ v, e = .returned v ∧ Cl (New w) w' w'.heap.size v l ∧ Below w.heap.size w w'

/-- The loop of Cells. -/
def CeRel (w1 : World) (X : Nat) (c : Cfg) (s : List UInt8) (t5 t7 t8 : Value) (wr : World) : Prop :=
  ∃ (pl i : Nat) (out : List SC) (x : SC) (tv : Value), pl ≤ i ∧ i ≤ s.length ∧ t7 = .int .i64 pl ∧ t8 = .int .i64 i ∧ CSt w1 X wr t5 out x tv ∧
    out ++ cellsGo c x (seg s pl i) (s.drop i) = cellsGo c ⟨[], 0, 0⟩ [] s ∧ x.fin = 0 ∧ 0 ≤ x.width ∧ x.width ≤ pl ∧ x.text.length ≤ pl ∧ out.length ≤ i

theorem sp_yes {c : Cfg} {b : UInt8} {t : List UInt8} (h : endOf c b ≠ 0) : ∃ (inn : List UInt8) (n : Nat) (wh : Bool), spN c (b :: t) = n ∧ spI c (b :: t) = true ∧ spW c (b :: t) = wh ∧ 1 ≤ n ∧ n ≤ (b :: t).length ∧ inn.length + 1 ≤ n ∧
    (b :: t).take n = b :: (inn ++ (if wh = true then [endOf c b] else [])) ∧ ∀ x pl, cellsGo c x pl (b :: t) = cellsGo c ⟨x.text ++ pl ++ passT c b inn wh, x.width + rc pl + passW b inn, x.fin⟩ [] ((b :: t).drop n) := by
  have hsp : t = t.takeWhile (· != endOf c b) ++ t.dropWhile (· != endOf c b) := List.takeWhile_append_dropWhile.symm
  have hend : t.dropWhile (· != endOf c b) = [] ∨ ∃ r, t.dropWhile (· != endOf c b) = endOf c b :: r := by
    cases h : t.dropWhile (· != endOf c b) with
    | nil => exact .inl rfl
    | cons y r =>
      right
      have := List.head?_dropWhile_not (· != endOf c b) t
      rw [h] at this
      simp at this
      subst this
      exact ⟨r, rfl⟩
  have hgo : ∀ x pl, cellsGo c x pl (b :: t) = cellsGo c ⟨x.text ++ pl ++ passT c b (t.takeWhile (· != endOf c b)) (!(t.dropWhile (· != endOf c b)).isEmpty), x.width + rc pl + passW b (t.takeWhile (· != endOf c b)), x.fin⟩ [] ((t.dropWhile (· != endOf c b)).drop 1) := by
    intro x pl
    rw [cellsGo, if_pos h]
  have hI : spI c (b :: t) = true := by simp only [spI]; simpa using h
  have hN : spN c (b :: t) = if t.dropWhile (· != endOf c b) = [] then t.length + 1 else (t.takeWhile (· != endOf c b)).length + 2 := by simp only [spN]; rw [if_neg h]
  have hW : spW c (b :: t) = !(t.dropWhile (· != endOf c b)).isEmpty := by
    have hne : (endOf c b != 0) = true := by simpa using h
    simp only [spW]; rw [hne]; rfl
  generalize t.takeWhile (· != endOf c b) = inn at *
  generalize t.dropWhile (· != endOf c b) = dr at *
  subst hsp
  rcases hend with rfl | ⟨r, rfl⟩
  · simp only [List.append_nil, if_true, List.isEmpty_nil, Bool.not_true, List.drop_nil] at *
    refine ⟨inn, inn.length + 1, false, hN, hI, hW, by omega, by simp, by omega, by simp, ?_⟩
    intro x pl
    rw [hgo, List.drop_eq_nil_of_le (by simp)]
  · rw [if_neg (by simp)] at hN
    simp only [List.isEmpty_cons, Bool.not_false, List.drop_succ_cons, List.drop_zero] at *
    refine ⟨inn, inn.length + 2, true, hN, hI, hW, by omega, by simp, by omega, ?_, ?_⟩
    · rw [List.take_succ_cons, List.take_length_add_append]; rfl
    · intro x pl
      rw [hgo, List.drop_succ_cons, ← List.drop_drop, List.drop_left]; rfl
theorem sp_no {c : Cfg} {b : UInt8} {t : List UInt8} (h : endOf c b = 0) : spN c (b :: t) = 0 ∧ spI c (b :: t) = false ∧ spW c (b :: t) = false := by
  refine ⟨?_, ?_, ?_⟩
  · simp only [spN]; rw [if_pos h]
  · simp only [spI]; rw [h]; rfl
  · simp only [spW]; rw [h]; rfl
theorem passT_le (c : Cfg) (b : UInt8) (inn : List UInt8) (wh : Bool) : (passT c b inn wh).length ≤ inn.length + 2 := by
  unfold passT
  split
  · omega
  · cases wh <;> simp
theorem passW_le (b : UInt8) (inn : List UInt8) : passW b inn ≤ inn.length + 1 := by
  unfold passW
  have := rc_le inn
  split
  · omega
  · split <;> omega

set_option maxHeartbeats 8000000 in
theorem cells_calls (w : World) (m t p f : Nat) (hf : f < 64) (ch : UInt8) {v : Value} {s : List UInt8} (h : Rd w v s) (hl : s.length ≤ 1000000) :
    Calls Tryd.prog 23 #[.agg #[.int .i64 m, .int .i64 t, .int .i64 p, .int .u8 ch.toNat, .int .i64 f], v] w (CePost w (cellsGo (cfgOf m t p f ch) ⟨[], 0, 0⟩ [] s)) := by
  obtain ⟨w1, hw1⟩ : ∃ w1, w1 = w.alloc (.cells #[.int .i64 m, .int .i64 t, .int .i64 p, .int .u8 ch.toNat, .int .i64 f] 23) := ⟨_, rfl⟩
  have hb0 : Below w.heap.size w w1 := hw1 ▸ (Below.refl _ w).alloc (Nat.le_refl _) _
  have hc0 : w1.heap[w.heap.size]? = some (.cells #[.int .i64 m, .int .i64 t, .int .i64 p, .int .u8 ch.toNat, .int .i64 f] 23 (0, 0)) := hw1 ▸ heap_alloc_new w _
  have hs1 : w1.heap.size = w.heap.size + 1 := by rw [hw1]; simp
  have hr1 := h.below hb0
  have hcf : ∀ w', Tch (New w1) w1 w' → w'.heap[w.heap.size]? = some (.cells #[.int .i64 m, .int .i64 t, .int .i64 p, .int .u8 ch.toNat, .int .i64 f] 23 (0, 0)) := fun w' h => h.heap hc0 (by unfold New; omega)
  have hend : ∀ w', Tch (New w1) w1 w' → Below w.heap.size w w' := fun w' h => hb0.trans ((New.below h).mono hb0.size)
  have hrd : ∀ w', Tch (New w1) w1 w' → Rd w' v s := fun w' h => hr1.new h
  obtain ⟨ao, cp, rfl, g1, g2, g3, g4, g5⟩ := hr1.val
  obtain ⟨c, hc⟩ : ∃ c, c = cfgOf m t p f ch := ⟨_, rfl⟩
  have hspec : ∀ w' {sv : Value} {b : UInt8} {bs : List UInt8}, Rd w' sv (b :: bs) → bs.length ≤ 1000000000000 → Calls Tryd.prog 25 #[.agg #[.int .i64 m, .int .i64 t, .int .i64 p, .int .u8 ch.toNat, .int .i64 f], sv] w' (SpPost w' c (b :: bs)) := fun w' _ _ _ h1 h2 => by rw [hc]; exact special_calls w' m t p f hf ch h1 h2
  have hpass : ∀ w' {sv : Value} {b : UInt8} {inn : List UInt8} (wh : Bool), endOf c b ≠ 0 → Rd w' sv (b :: (inn ++ (if wh = true then [endOf c b] else []))) → inn.length ≤ 1000000000000 → Calls Tryd.prog 47 #[.agg #[.int .i64 m, .int .i64 t, .int .i64 p, .int .u8 ch.toNat, .int .i64 f], sv, .bool wh] w' (PaPost w' (passT c b inn wh) (passW b inn)) := by
    rw [hc]; exact fun w' _ _ _ wh h1 h2 h3 => passed_calls w' m t p f hf ch wh h1 h2 h3
  rw [← hc]
  have hst : ∀ w2, w2 = ((((w1.alloc (.cells #[.slice none 0 0, .int .i64 0, .int .u8 0] 55)))) : World) → CSt w1 (w.heap.size + 1) w2 (.slice none 0 0) [] ⟨[], 0, 0⟩ (.slice none 0 0) := by
    rintro w2 rfl
    rw [← hs1]
    exact ⟨⟨0, ⟨[], Own.nil _ _ _ _, rfl⟩, Own.nil _ _ _ _, Nat.zero_le _⟩, heap_alloc_new w1 _, Nat.le_refl _, Tch.alloc _ _ _⟩
  have HCF := Lib.hid hcf
  have HEND := Lib.hid hend
  have HRD := Lib.hid hrd
  have HSPEC := Lib.hid hspec
  have HPASS := Lib.hid hpass
  have HST := Lib.hid hst
  have HNEW := Lib.hid (show ∀ k, New w1 k → New w k from fun k h => by unfold New at *; omega)
  have H3 := Lib.hid g3
  have H4 := Lib.hid g4
  have H5 := Lib.hid g5
  have HS1 := Lib.hid hs1
  rw [hw1] at HCF HEND HRD HST HNEW HS1 H5
  clear hr1 h g3 g4 g5 hb0 hc0 hcf hend hrd hspec hpass hst hc hw1 hs1
  unfold maxLen at g2
  go_enter Tryd.func23, Tryd.ntmps23
  go_wp2_with fail
  go_loopw [5, 7, 8] (fun t5 t7 t8 wr => CeRel (w.alloc (.cells #[.int .i64 m, .int .i64 t, .int .i64 p, .int .u8 ch.toNat, .int .i64 f] 23)) (w.heap.size + 1) c s t5 t7 t8 wr) (fun _ _ t8 _ => s.length - (intOf t8).toNat)
  case atStart => exact ⟨0, 0, [], ⟨[], 0, 0⟩, .slice none 0 0, Nat.le_refl _, Nat.zero_le _, rfl, rfl, HST.out _ rfl, by rw [seg_self]; simp, rfl, Int.le_refl _, Int.le_refl _, Nat.le_refl _, Nat.le_refl _⟩
  case round =>
    clear HST
    obtain ⟨pl, i, out, x, tv, h1, h2, rfl, rfl, hst, hgo, hfin, hw0, hw1, htl, hol⟩ := hrel
    have HGO := Lib.hid hgo
    have HFIN := Lib.hid hfin
    clear hgo hfin
    have hcfw := HCF.out _ hst.tch
    obtain ⟨d0, d1, d2, d3, d4⟩ := conf_at hcfw
    have HCST := Lib.hid hst
    have hrdw := HRD.out _ hst.tch
    have HRDW := Lib.hid hrdw
    by_cases hlt : i < s.length
    · obtain ⟨ad, rfl, hcc⟩ := (show ∃ ad, ao = some ad ∧ wr.cell? ⟨ad.block, ad.off + i, none⟩ = some (bv s[i]) from by
        obtain ⟨ao', cp', e, _, _, _, _, k5⟩ := hrdw.val
        simp only [Value.slice.injEq] at e
        obtain ⟨rfl, _, _⟩ := e
        exact k5 i hlt)
      have hsp := H4.out ad rfl
      obtain ⟨k0, o0, sp⟩ := ad
      simp only at hsp hcc
      subst hsp
      obtain ⟨b, hbb⟩ : ∃ b, b = s[i] := ⟨_, rfl⟩
      rw [← hbb] at hcc
      have hcb : wr.cell? ⟨k0, o0 + i, none⟩ = some (.int .u8 b.toNat) := hcc
      have hsb : ∀ w', Tch (New (w.alloc (.cells #[.int .i64 m, .int .i64 t, .int .i64 p, .int .u8 ch.toNat, .int .i64 f] 23))) (w.alloc (.cells #[.int .i64 m, .int .i64 t, .int .i64 p, .int .u8 ch.toNat, .int .i64 f] 23)) w' → w'.cell? ⟨k0, o0 + i, none⟩ = some (.int .u8 b.toNat) := fun w' h => by
        obtain ⟨ao', cp', e, _, _, _, _, k5⟩ := (HRD.out w' h).val
        obtain ⟨ad, e2, hc⟩ := k5 i hlt
        simp only [Value.slice.injEq] at e
        rw [← e.1] at e2
        cases e2
        rw [hbb]; exact hc
      have hk0 : k0 < w.heap.size + 1 := by
        have := block_lt_of_cell (hsb _ (Tch.refl _ _))
        rw [HS1.out] at this; exact this
      have HSB := Lib.hid hsb
      have hds : s.drop i = b :: s.drop (i + 1) := by rw [List.drop_eq_getElem_cons hlt, hbb]
      have HDS := Lib.hid hds
      have hci : ¬ cp = i := by omega
      have hcpl : ¬ cp = pl := by omega
      have hri := HRDW.out.cutEnd (lo := i) (by omega)
      rw [if_neg hci, hds] at hri
      have hlb : (s.drop (i + 1)).length ≤ 1000000000000 := by simp; omega
      have hSp := HSPEC.out wr.drew hri.drew hlb
      have HSP := Lib.hid hSp
      have hcut : ∀ w', Rd w' (.slice (some ⟨k0, o0, none⟩) s.length cp) s → Rd w' (.slice (some ⟨k0, o0 + pl, none⟩) (i - pl) (cp - pl)) (seg s pl i) := fun w' h => by
        have := h.cut (lo := pl) (hi := i) h1 (by omega)
        rwa [if_neg hcpl] at this
      have HCUT := Lib.hid hcut
      have hpi : (pl : Int) ≤ (i : Int) := by omega
      have hicp : i ≤ cp := by omega
      have hseg : (seg s pl i).length = i - pl := seg_len (by omega)
      have HSEG := Lib.hid hseg
      have hrcl := rc_le (seg s pl i)
      rw [hseg] at hrcl
      clear hsb hst hrdw hcfw hcc hbb hds hri hlb hSp hcut hseg
      by_cases he : endOf c b = 0
      · obtain ⟨q1, q2, q3⟩ := sp_no (t := s.drop (i + 1)) he
        have HEN := Lib.hid he
        unfold SpPost at HSP
        rw [q1, q2, q3] at HSP
        clear q1 q2 q3 he
        go_wp2_with fail
        refine wp_region_rl (fun w' => w' = wr.drew) [0, 1, 2, 3] [4, 5] [6, 7, 8, 9, 10, 11] 0 [_, _, _, _] [_, _] (by kernel_rfl) (by kernel_rfl) rfl rfl (fun _ _ d _ _ h => by cases d <;> exact h) rfl ?_
        iterate 4 (refine wpR_step rfl (fun K hK => ?_); go_simp; refine hK _ ?_; clear hK K)
        refine wpR_nil (wpE_zero ?_)
        go_wp2_with (go_at_call 25; (with_reducible refine HSP.out.mono ?_); rintro e wa ⟨rfl, hb2⟩; have HB2 := Lib.hid hb2; have hcb2 := (hb2.cell (p := ⟨k0, o0 + i, none⟩) (block_lt_of_cell hcb)).trans hcb; clear hb2)
        refine wpL_end rfl ?_
        iterate 6 (refine wpR_step rfl (fun K hK => ?_); go_simp; refine hK _ ?_; clear hK K)
        refine wpR_nil ?_
        have hst2 := (HCST.out.kept (Tch.drew _ wr)).below HB2.out
        have HCA := Lib.hid hst2
        have HRPA := Lib.hid (HCUT.out _ (HRD.out _ hst2.tch))
        have HBR := Lib.hid (breaks_calls wa b)
        obtain ⟨bk, hbk⟩ : ∃ bk, bk = brk b := ⟨_, rfl⟩
        rw [← hbk] at HBR
        have HBK := Lib.hid hbk
        clear hst2 hbk hcb HB2 HCST HRDW d0 d1 d2 d3 d4 HSP
        cases bk
        · go_wp2_with (go_at_call 26; (with_reducible refine HBR.out.mono ?_); rintro e w' ⟨rfl, rfl⟩)
          go_roundw
          case rel =>
            refine ⟨pl, i + 1, out, x, tv, by omega, by omega, rfl, by go_num, HCA.out, ?_, HFIN.out, hw0, hw1, htl, by omega⟩
            rw [← HGO.out, HDS.out]
            conv => rhs; rw [cellsGo, if_neg (by rw [HEN.out]; simp), if_neg (by rw [← HBK.out]; simp)]
            rw [seg_snoc (l := b) (by have := congrArg List.head? HDS.out; rw [List.head?_drop] at this; exact this) h1]
          case measure => simp [intOf]; omega
        · go_wp2_with (go_at_call 26; (with_reducible refine HBR.out.mono ?_); rintro e w' ⟨rfl, rfl⟩)
          have hXa := HCA.out.blk
          have cA0 : wa.cell? ⟨w.heap.size + 1, 0, none⟩ = some tv := cell_of_blk hXa 0
          obtain ⟨tv9, w9, hrun9, hX9, hst9⟩ := (HCA.out.kept (Tch.drew _ wa)).append HRPA.out.drew (by rw [HSEG.out]; omega) 26
          obtain ⟨ao9, n9, cp9, rfl⟩ := (show ∃ ao n cp, tv9 = .slice ao n cp from by obtain ⟨_, _, h, _⟩ := hst9.bd; obtain ⟨a, b, e⟩ := h.shape; exact ⟨a, _, b, e⟩)
          have HRUN9 := Lib.hid (show (Builtin.append_ #[26, 26] 26 #[tv, .slice (some ⟨k0, o0 + pl, none⟩) (i - pl) (cp - pl)]).run Tryd.prog wa.drew = .ok (.slice ao9 n9 cp9) w9 from hrun9)
          have c9 : w9.cell? ⟨w.heap.size + 1, 0, none⟩ = some tv := cell_of_blk hX9 0
          have f9 := frozen_of_blk hX9 0
          have HST9 := Lib.hid hst9
          clear hrun9 hX9 hst9 hXa
          refine wp_region_rf (fun w' => w' = wa.drew ∨ w' = w9) [0, 1, 2, 3, 4, 5, 7] [6, 8] 1 [_, _, _, _, _, _, _] [_, _] (by kernel_rfl) (by kernel_rfl) rfl rfl (fun _ _ d _ _ h => by cases d <;> exact h) (.inl rfl) ?_
          iterate 7 (refine wpR_step rfl (fun K hK => ?_); go_simp; refine hK _ ?_; clear hK K)
          refine wpR_nil ?_
          refine wpE_step rfl (fun K hK => ?_)
          refine wp_append_eq (.tmp 41) (.tmp 45) 26 rfl rfl rfl HRUN9.out ?_
          go_simp
          refine hK _ _ (.inr rfl) ?_
          clear hK K cA0 HRUN9
          refine wpE_zero ?_
          go_wp2_with fail
          have HRPB := Lib.hid (HRD.out _ HST9.out.tch)
          clear c9 f9 HRPA HCA
          revert HST9 HRPB
          generalize (w9.setCell ⟨w.heap.size + 1, 0, none⟩ (.slice ao9 n9 cp9)) = wb
          intro HST9 HRPB
          have HRPB2 := Lib.hid (HCUT.out _ HRPB.out)
          have hXb := HST9.out.blk
          have hXbl := lt_of_heap hXb
          have b1 : wb.cell? ⟨w.heap.size + 1, 1, none⟩ = some (.int .i64 x.width) := cell_of_blk hXb 1
          have k1 : ∀ (p : Regrown), (grow (redrawn wb p.d) p.os).cell? ⟨w.heap.size + 1, 1, none⟩ = some (.int .i64 x.width) := fun p => cell_regrown b1 p.d p.os
          refine wp_region_rf (fun w' => ∃ p : Regrown, w' = grow (redrawn wb p.d) p.os) [0, 1, 2, 3, 4, 5, 8] [6, 7, 9] 2 [_, _, _, _, _, _, _] [_, _, _] (by kernel_rfl) (by kernel_rfl) rfl rfl (fun _ _ d _ _ h => by cases d <;> exact h) ⟨⟨wb.drawn + 1, #[]⟩, by rw [grow_empty]; rfl⟩ ?_
          iterate 7 (refine wpR_step rfl (fun K hK => ?_); go_simp; refine hK _ ?_; clear hK K)
          refine wpR_nil ?_
          refine wpE_step rfl (fun K hK => ?_)
          go_simp
          refine (runeCount_calls (w := wb.drew) HRPB2.out.drew (by rw [HSEG.out]; omega)).mono ?_
          rintro e w10 ⟨rfl, hbel⟩
          refine hK _ _ (regrown_of_below ⟨hbel.os, hbel.tape, hbel.output, hbel.size, hbel.block⟩) ?_
          clear hK K
          have hwrap : IntKind.i64.wrap (x.width + (rc (seg s pl i) : Int)) = x.width + (rc (seg s pl i) : Int) := IntWalk.i64_in _ (by omega)
          refine wpE_step rfl (fun K hK => ?_)
          go_simp
          refine hK _ _ (regrown_of_below ⟨hbel.os, hbel.tape, hbel.output, hbel.size, hbel.block⟩) ?_
          clear hK K k1 hwrap
          have hst10 := HST9.out.below ⟨hbel.os, hbel.tape, hbel.output, hbel.size, hbel.block⟩
          have HS10 := Lib.hid hst10
          have HSC := Lib.hid (hst10.setW (x.width + rc (seg s pl i)))
          have hb10 := hst10.blk
          have e0 : w10.cell? ⟨w.heap.size + 1, 0, none⟩ = some (.slice ao9 n9 cp9) := cell_of_blk hb10 0
          have e1 : w10.cell? ⟨w.heap.size + 1, 1, none⟩ = some (.int .i64 x.width) := cell_of_blk hb10 1
          have e2 : w10.cell? ⟨w.heap.size + 1, 2, none⟩ = some (.int .u8 x.fin.toNat) := cell_of_blk hb10 2
          have fe0 := frozen_of_blk hb10 0
          have fe1 := frozen_of_blk hb10 1
          have fe2 := frozen_of_blk hb10 2
          clear hbel hst10 hb10 b1 hXb hXbl HST9 HRPB2
          refine wpE_zero ?_
          have hkk : ¬ k0 = w.heap.size + 1 := by omega
          have hkk' : ¬ w.heap.size + 1 = k0 := by omega
          have es : w10.cell? ⟨k0, o0 + i, none⟩ = some (.int .u8 b.toNat) := HSB.out _ HS10.out.tch
          obtain ⟨t5', w17, hrun17, hX17, htt17, -, hst17⟩ := (HSC.out.setF b).push (by omega) 39
          have hz17 : ((w10.setCell ⟨w.heap.size + 1, 1, none⟩ (.int .i64 (x.width + rc (seg s pl i)))).setCell ⟨w.heap.size + 1, 2, none⟩ (.int .u8 b.toNat)).heap.size = w10.heap.size := by simp [World.setCell]
          rw [hz17] at hrun17
          have HRUN17 := Lib.hid (show (Builtin.append_ #[39, 39] 39 #[_, .slice (some ⟨w10.heap.size, 0, none⟩) 1 1]).run Tryd.prog (((w10.setCell ⟨w.heap.size + 1, 1, none⟩ (.int .i64 (x.width + rc (seg s pl i)))).setCell ⟨w.heap.size + 1, 2, none⟩ (.int .u8 b.toNat)).alloc (.cells #[.slice ao9 n9 cp9, .int .i64 (x.width + rc (seg s pl i)), .int .u8 b.toNat] 55)) = .ok t5' w17 from hrun17)
          have HST17 := Lib.hid (show CSt (w.alloc (.cells #[.int .i64 m, .int .i64 t, .int .i64 p, .int .u8 ch.toNat, .int .i64 f] 23)) (w.heap.size + 1) (((w17.setCell ⟨w.heap.size + 1, 0, none⟩ (.slice none 0 0)).setCell ⟨w.heap.size + 1, 1, none⟩ (.int .i64 0)).setCell ⟨w.heap.size + 1, 2, none⟩ (.int .u8 0)) t5' (out ++ [⟨x.text ++ seg s pl i, x.width + rc (seg s pl i), b⟩]) ⟨[], 0, 0⟩ (.slice none 0 0) from hst17)
          have f170 := frozen_of_blk hX17 0
          have f171 := frozen_of_blk hX17 1
          have f172 := frozen_of_blk hX17 2
          have c170 : w17.cell? ⟨w.heap.size + 1, 0, none⟩ = some (.slice ao9 n9 cp9) := cell_of_blk hX17 0
          have c171 : w17.cell? ⟨w.heap.size + 1, 1, none⟩ = some (.int .i64 (x.width + rc (seg s pl i))) := cell_of_blk hX17 1
          have c172 : w17.cell? ⟨w.heap.size + 1, 2, none⟩ = some (.int .u8 b.toNat) := cell_of_blk hX17 2
          clear hrun17 hst17 hX17 htt17 HSC HS10 hz17
          go_wp2_with (at_builtin; refine wpList_append_eq rfl (.tmp 88) (.tmp 90) 39 rfl rfl rfl HRUN17.out ?_)
          go_roundw
          case rel =>
            refine ⟨i + 1, i + 1, _, ⟨[], 0, 0⟩, _, Nat.le_refl _, by omega, by go_num, by go_num, HST17.out, ?_, rfl, Int.le_refl _, (by show (0 : Int) ≤ ((i + 1 : Nat) : Int); omega), Nat.zero_le _, by simp; omega⟩
            rw [← HGO.out, HDS.out]
            conv => rhs; rw [cellsGo, if_neg (by rw [HEN.out]; simp), if_pos HBK.out.symm]
            rw [seg_self, List.append_assoc]; rfl
          case measure => simp [intOf]; omega
      · obtain ⟨inn, n, wh, q1, q2, q3, hn1, hn2, hn3, htake, hcg⟩ := sp_yes (t := s.drop (i + 1)) he
        have hn2' : n ≤ s.length - i := by simp at hn2; omega
        have HCG := Lib.hid hcg
        have hnlen : (b :: (inn ++ (if wh = true then [endOf c b] else []))).length = n := by rw [← htake]; simp at hn2 ⊢; omega
        have hpt : (passT c b inn wh).length ≤ n := by
          rw [← hnlen]; unfold passT
          split
          · simp; omega
          · exact Nat.le_refl _
        have hpw := passW_le b inn
        obtain ⟨j, hj⟩ : ∃ j, j = i + n := ⟨_, rfl⟩
        have htk : seg s i j = b :: (inn ++ (if wh = true then [endOf c b] else [])) := by
          rw [← htake, ← HDS.out, hj]; unfold seg; rw [List.drop_take, Nat.add_sub_cancel_left]
        have hcut2 : ∀ w', Rd w' (.slice (some ⟨k0, o0, none⟩) s.length cp) s → Rd w' (.slice (some ⟨k0, o0 + i, none⟩) (j - i) (cp - i)) (b :: (inn ++ (if wh = true then [endOf c b] else []))) := fun w' h => by
          have := h.cut (lo := i) (hi := j) (by omega) (by omega)
          rwa [if_neg hci, htk] at this
        have HCUT2 := Lib.hid hcut2
        have HEN := Lib.hid he
        have HJ := Lib.hid hj
        have hjb : i + 1 ≤ j ∧ j ≤ s.length := by omega
        obtain ⟨hjb1, hjb2⟩ := hjb
        have hnj : n = j - i := by omega
        have HNJ := Lib.hid hnj
        unfold SpPost at HSP
        rw [q1, q2, q3] at HSP
        clear q1 q2 q3 he htake hcg hnlen htk hcut2 hj hn2 hnj
        go_wp2_with fail
        refine wp_region_rl (fun w' => w' = wr.drew) [0, 1, 2, 3] [4, 5] [6, 7, 8, 9, 10, 11] 0 [_, _, _, _] [_, _] (by kernel_rfl) (by kernel_rfl) rfl rfl (fun _ _ d _ _ h => by cases d <;> exact h) rfl ?_
        iterate 4 (refine wpR_step rfl (fun K hK => ?_); go_simp; refine hK _ ?_; clear hK K)
        refine wpR_nil (wpE_zero ?_)
        go_wp2_with (go_at_call 25; (with_reducible refine HSP.out.mono ?_); rintro e wa ⟨rfl, hb2⟩; have HB2 := Lib.hid hb2; clear hb2)
        refine wpL_end rfl ?_
        iterate 6 (refine wpR_step rfl (fun K hK => ?_); go_simp; refine hK _ ?_; clear hK K)
        refine wpR_nil ?_
        have hst2 := (HCST.out.kept (Tch.drew _ wr)).below HB2.out
        have HCA := Lib.hid hst2
        have HRPA := Lib.hid (HCUT.out _ (HRD.out _ hst2.tch))
        clear hst2 hcb HB2 HCST HRDW d0 d1 d2 d3 d4 HSP
        go_wp2_with fail
        have hXa := HCA.out.blk
        have cA0 : wa.cell? ⟨w.heap.size + 1, 0, none⟩ = some tv := cell_of_blk hXa 0
        obtain ⟨tv9, w9, hrun9, hX9, hst9⟩ := (HCA.out.kept (Tch.drew _ wa)).append HRPA.out.drew (by rw [HSEG.out]; omega) 26
        obtain ⟨ao9, n9, cp9, rfl⟩ := (show ∃ ao n cp, tv9 = .slice ao n cp from by obtain ⟨_, _, h, _⟩ := hst9.bd; obtain ⟨a, b, e⟩ := h.shape; exact ⟨a, _, b, e⟩)
        have HRUN9 := Lib.hid (show (Builtin.append_ #[26, 26] 26 #[tv, .slice (some ⟨k0, o0 + pl, none⟩) (i - pl) (cp - pl)]).run Tryd.prog wa.drew = .ok (.slice ao9 n9 cp9) w9 from hrun9)
        have c9 : w9.cell? ⟨w.heap.size + 1, 0, none⟩ = some tv := cell_of_blk hX9 0
        have f9 := frozen_of_blk hX9 0
        have HST9 := Lib.hid hst9
        clear hrun9 hX9 hst9 hXa
        refine wp_region_rf (fun w' => w' = wa.drew ∨ w' = w9) [0, 1, 2, 3, 4, 5, 7] [6, 8] 1 [_, _, _, _, _, _, _] [_, _] (by kernel_rfl) (by kernel_rfl) rfl rfl (fun _ _ d _ _ h => by cases d <;> exact h) (.inl rfl) ?_
        iterate 7 (refine wpR_step rfl (fun K hK => ?_); go_simp; refine hK _ ?_; clear hK K)
        refine wpR_nil ?_
        refine wpE_step rfl (fun K hK => ?_)
        refine wp_append_eq (.tmp 41) (.tmp 45) 26 rfl rfl rfl HRUN9.out ?_
        go_simp
        refine hK _ _ (.inr rfl) ?_
        clear hK K cA0 HRUN9
        refine wpE_zero ?_
        go_wp2_with fail
        have HRPB := Lib.hid (HRD.out _ HST9.out.tch)
        clear c9 f9 HRPA HCA
        revert HST9 HRPB
        generalize (w9.setCell ⟨w.heap.size + 1, 0, none⟩ (.slice ao9 n9 cp9)) = wb
        intro HST9 HRPB
        have HRPB2 := Lib.hid (HCUT.out _ HRPB.out)
        have hXb := HST9.out.blk
        have hXbl := lt_of_heap hXb
        have b1 : wb.cell? ⟨w.heap.size + 1, 1, none⟩ = some (.int .i64 x.width) := cell_of_blk hXb 1
        have k1 : ∀ (p : Regrown), (grow (redrawn wb p.d) p.os).cell? ⟨w.heap.size + 1, 1, none⟩ = some (.int .i64 x.width) := fun p => cell_regrown b1 p.d p.os
        refine wp_region_rf (fun w' => ∃ p : Regrown, w' = grow (redrawn wb p.d) p.os) [0, 1, 2, 3, 4, 5, 8] [6, 7, 9] 2 [_, _, _, _, _, _, _] [_, _, _] (by kernel_rfl) (by kernel_rfl) rfl rfl (fun _ _ d _ _ h => by cases d <;> exact h) ⟨⟨wb.drawn + 1, #[]⟩, by rw [grow_empty]; rfl⟩ ?_
        iterate 7 (refine wpR_step rfl (fun K hK => ?_); go_simp; refine hK _ ?_; clear hK K)
        refine wpR_nil ?_
        refine wpE_step rfl (fun K hK => ?_)
        go_simp
        refine (runeCount_calls (w := wb.drew) HRPB2.out.drew (by rw [HSEG.out]; omega)).mono ?_
        rintro e w10 ⟨rfl, hbel⟩
        refine hK _ _ (regrown_of_below ⟨hbel.os, hbel.tape, hbel.output, hbel.size, hbel.block⟩) ?_
        clear hK K
        have hwrap : IntKind.i64.wrap (x.width + (rc (seg s pl i) : Int)) = x.width + (rc (seg s pl i) : Int) := IntWalk.i64_in _ (by omega)
        refine wpE_step rfl (fun K hK => ?_)
        go_simp
        refine hK _ _ (regrown_of_below ⟨hbel.os, hbel.tape, hbel.output, hbel.size, hbel.block⟩) ?_
        clear hK K k1 hwrap
        have hst10 := HST9.out.below ⟨hbel.os, hbel.tape, hbel.output, hbel.size, hbel.block⟩
        have HS10 := Lib.hid hst10
        have HSC := Lib.hid (hst10.setW (x.width + rc (seg s pl i)))
        have hb10 := hst10.blk
        have e0 : w10.cell? ⟨w.heap.size + 1, 0, none⟩ = some (.slice ao9 n9 cp9) := cell_of_blk hb10 0
        have e1 : w10.cell? ⟨w.heap.size + 1, 1, none⟩ = some (.int .i64 x.width) := cell_of_blk hb10 1
        have e2 : w10.cell? ⟨w.heap.size + 1, 2, none⟩ = some (.int .u8 x.fin.toNat) := cell_of_blk hb10 2
        have fe0 := frozen_of_blk hb10 0
        have fe1 := frozen_of_blk hb10 1
        have fe2 := frozen_of_blk hb10 2
        clear hbel hst10 hb10 b1 hXb hXbl HST9 HRPB2
        refine wpE_zero ?_
        clear HS10
        go_wp2_with fail
        revert HSC
        generalize (w10.setCell ⟨w.heap.size + 1, 1, none⟩ (.int .i64 (x.width + rc (seg s pl i)))) = wc
        intro HSC
        clear e0 e1 e2 fe0 fe1 fe2
        obtain ⟨d0, d1, d2, d3, d4⟩ := conf_at (HCF.out _ HSC.out.tch)
        have hPs := HPASS.out wc.drew wh HEN.out (HCUT2.out _ (HRD.out _ HSC.out.tch)).drew (by omega)
        have HPS := Lib.hid hPs
        clear hPs
        have hin : (i : Int) + (n : Int) = (j : Int) := by have := HJ.out; omega
        have hwj : IntKind.i64.wrap (j : Int) = (j : Int) := IntWalk.i64_in _ (by omega)
        have hij : (i : Int) ≤ (j : Int) := by omega
        have hij' : i ≤ j := by omega
        have hjcp : j ≤ cp := by omega
        refine wp_region_rl (fun w' => w' = wc.drew) [0, 1, 2, 3, 4, 5, 6, 7] [8, 9] [10, 11, 12, 13] 0 [_, _, _, _, _, _, _, _] [_, _] (by kernel_rfl) (by kernel_rfl) rfl rfl (fun _ _ d _ _ h => by cases d <;> exact h) rfl ?_
        iterate 8 (refine wpR_step rfl (fun K hK => ?_); go_simp; refine hK _ ?_; clear hK K)
        refine wpR_nil (wpE_zero ?_)
        go_wp2_with (go_at_call 47; (with_reducible refine HPS.out.mono ?_); rintro e wd ⟨v, rfl, hrv, hbv⟩; have HRV := Lib.hid hrv; have HBV := Lib.hid hbv; clear hrv hbv)
        obtain ⟨va, vn, vc, rfl⟩ := (show ∃ va vn vc, v = .slice va vn vc from by obtain ⟨a, c, e, _⟩ := HRV.out.val; exact ⟨a, _, c, e⟩)
        refine wpL_end rfl ?_
        iterate 4 (refine wpR_step rfl (fun K hK => ?_); go_simp; refine hK _ ?_; clear hK K)
        refine wpR_nil ?_
        have hstd := (HSC.out.kept (Tch.drew _ wc)).below HBV.out
        have HSD := Lib.hid hstd
        have hbd := hstd.blk
        have e0 : wd.cell? ⟨w.heap.size + 1, 0, none⟩ = some (.slice ao9 n9 cp9) := cell_of_blk hbd 0
        have hseg2 := HSEG.out
        obtain ⟨tv13, w13, hrun13, hX13, hst13⟩ := hstd.append HRV.out (by simp; omega) 26
        obtain ⟨a13, n13, c13, rfl⟩ := (show ∃ ao n cp, tv13 = .slice ao n cp from by obtain ⟨_, _, h, _⟩ := hst13.bd; obtain ⟨a, b, e⟩ := h.shape; exact ⟨a, _, b, e⟩)
        have HRUN13 := Lib.hid (show (Builtin.append_ #[26, 26] 26 #[.slice ao9 n9 cp9, .slice va vn vc]).run Tryd.prog wd = .ok (.slice a13 n13 c13) w13 from hrun13)
        have HST13 := Lib.hid (hst13.setW ((x.width + rc (seg s pl i)) + passW b inn))
        have e10 : w13.cell? ⟨w.heap.size + 1, 0, none⟩ = some (.slice ao9 n9 cp9) := cell_of_blk hX13 0
        have e11 : w13.cell? ⟨w.heap.size + 1, 1, none⟩ = some (.int .i64 (x.width + rc (seg s pl i))) := cell_of_blk hX13 1
        have fe10 := frozen_of_blk hX13 0
        have fe11 := frozen_of_blk hX13 1
        clear hstd hbd hrun13 hX13 hst13 hin hwj hij HPS HSC d0 d1 d2 d3 d4 HSD HRV HBV hseg2
        go_wp2_with (at_builtin; refine wpList_append_eq rfl (.tmp 71) (.tmp 72) 26 rfl rfl rfl HRUN13.out ?_)
        go_roundw
        case rel =>
          have hjn := HJ.out
          refine ⟨j, j, out, _, _, Nat.le_refl _, hjb2, by rw [hjn]; go_num, by rw [hjn]; go_num, HST13.out, ?_, HFIN.out, ?_, ?_, ?_, by omega⟩
          · rw [← HGO.out, HDS.out, HCG.out, seg_self, ← HDS.out, List.drop_drop, ← hjn]
          · show 0 ≤ (x.width + (rc (seg s pl i) : Int)) + (passW b inn : Int); omega
          · show (x.width + (rc (seg s pl i) : Int)) + (passW b inn : Int) ≤ (j : Int); omega
          · have hs3 := HSEG.out
            simp only [List.length_append, hs3]; omega
        case measure => simp [intOf]; omega
    · obtain rfl : i = s.length := by omega
      obtain ⟨a2, ha2⟩ : ∃ a2, (if cp = pl then ao else Option.map (fun x => x.add pl) ao) = a2 := ⟨_, rfl⟩
      have hdrop : ∀ w', Rd w' (.slice ao s.length cp) s → Rd w' (.slice a2 (s.length - pl) (cp - pl)) (s.drop pl) := fun w' h => by
        have := h.dropped h1
        rwa [ha2] at this
      have HDROP := Lib.hid hdrop
      have hseg : (s.drop pl).length = s.length - pl := List.length_drop
      have HSEG := Lib.hid hseg
      have hrcl := rc_le (s.drop pl)
      rw [hseg] at hrcl
      have HRCL := Lib.hid hrcl
      have hpi : (pl : Int) ≤ (s.length : Int) := by omega
      have hplc : pl ≤ cp := by omega
      have hgo2 : out ++ [(⟨x.text ++ s.drop pl, x.width + rc (s.drop pl), x.fin⟩ : SC)] = cellsGo c ⟨[], 0, 0⟩ [] s := by
        have := HGO.out
        rw [List.drop_length, cellsGo] at this
        have e : seg s pl s.length = s.drop pl := by unfold seg; rw [List.take_length]
        rwa [e] at this
      have HGO2 := Lib.hid hgo2
      have HCA := HCST
      have HRPA := Lib.hid (hdrop _ hrdw)
      clear hlt h2 hrcl hst hrdw hcfw hdrop hseg hgo2 HCST HRDW d0 d1 d2 d3 d4 HGO
      go_wp2_with fail
      have hXa := HCA.out.blk
      have cA0 : wr.cell? ⟨w.heap.size + 1, 0, none⟩ = some tv := cell_of_blk hXa 0
      obtain ⟨tv9, w9, hrun9, hX9, hst9⟩ := (HCA.out.kept (Tch.drew _ wr)).append HRPA.out.drew (by rw [HSEG.out]; omega) 26
      obtain ⟨ao9, n9, cp9, rfl⟩ := (show ∃ ao n cp, tv9 = .slice ao n cp from by obtain ⟨_, _, h, _⟩ := hst9.bd; obtain ⟨a, b, e⟩ := h.shape; exact ⟨a, _, b, e⟩)
      have HRUN9 := Lib.hid (show (Builtin.append_ #[26, 26] 26 #[tv, .slice a2 (s.length - pl) (cp - pl)]).run Tryd.prog wr.drew = .ok (.slice ao9 n9 cp9) w9 from hrun9)
      have c9 : w9.cell? ⟨w.heap.size + 1, 0, none⟩ = some tv := cell_of_blk hX9 0
      have f9 := frozen_of_blk hX9 0
      have HST9 := Lib.hid hst9
      clear hrun9 hX9 hst9 hXa
      refine wp_region_rf (fun w' => w' = wr.drew ∨ w' = w9) [0, 1, 2, 3, 4, 6] [5, 7] 1 [_, _, _, _, _, _] [_, _] (by kernel_rfl) (by kernel_rfl) rfl rfl (fun _ _ d _ _ h => by cases d <;> exact h) (.inl rfl) ?_
      iterate 6 (refine wpR_step rfl (fun K hK => ?_); go_simp; refine hK _ ?_; clear hK K)
      refine wpR_nil ?_
      refine wpE_step rfl (fun K hK => ?_)
      refine wp_append_eq (.tmp 97) (.tmp 100) 26 rfl rfl rfl HRUN9.out ?_
      go_simp
      refine hK _ _ (.inr rfl) ?_
      clear hK K cA0 HRUN9
      refine wpE_zero ?_
      go_wp2_with fail
      have HRPB := Lib.hid (HRD.out _ HST9.out.tch)
      clear c9 f9 HRPA HCA
      revert HST9 HRPB
      generalize (w9.setCell ⟨w.heap.size + 1, 0, none⟩ (.slice ao9 n9 cp9)) = wb
      intro HST9 HRPB
      have HRPB2 := Lib.hid (HDROP.out _ HRPB.out)
      have hXb := HST9.out.blk
      have hXbl := lt_of_heap hXb
      have b1 : wb.cell? ⟨w.heap.size + 1, 1, none⟩ = some (.int .i64 x.width) := cell_of_blk hXb 1
      have k1 : ∀ (p : Regrown), (grow (redrawn wb p.d) p.os).cell? ⟨w.heap.size + 1, 1, none⟩ = some (.int .i64 x.width) := fun p => cell_regrown b1 p.d p.os
      refine wp_region_rf (fun w' => ∃ p : Regrown, w' = grow (redrawn wb p.d) p.os) [0, 1, 2, 3, 4, 7] [5, 6, 8] 2 [_, _, _, _, _, _] [_, _, _] (by kernel_rfl) (by kernel_rfl) rfl rfl (fun _ _ d _ _ h => by cases d <;> exact h) ⟨⟨wb.drawn + 1, #[]⟩, by rw [grow_empty]; rfl⟩ ?_
      iterate 6 (refine wpR_step rfl (fun K hK => ?_); go_simp; refine hK _ ?_; clear hK K)
      refine wpR_nil ?_
      refine wpE_step rfl (fun K hK => ?_)
      go_simp
      refine (runeCount_calls (w := wb.drew) HRPB2.out.drew (by rw [HSEG.out]; omega)).mono ?_
      rintro e w10 ⟨rfl, hbel⟩
      refine hK _ _ (regrown_of_below ⟨hbel.os, hbel.tape, hbel.output, hbel.size, hbel.block⟩) ?_
      clear hK K
      have hwrap : IntKind.i64.wrap (x.width + (rc (s.drop pl) : Int)) = x.width + (rc (s.drop pl) : Int) := IntWalk.i64_in _ (by have := HRCL.out; omega)
      refine wpE_step rfl (fun K hK => ?_)
      go_simp
      refine hK _ _ (regrown_of_below ⟨hbel.os, hbel.tape, hbel.output, hbel.size, hbel.block⟩) ?_
      clear hK K k1 hwrap
      have hst10 := HST9.out.below ⟨hbel.os, hbel.tape, hbel.output, hbel.size, hbel.block⟩
      have HS10 := Lib.hid hst10
      have HSC := Lib.hid (hst10.setW (x.width + rc (s.drop pl)))
      have hb10 := hst10.blk
      have e0 : w10.cell? ⟨w.heap.size + 1, 0, none⟩ = some (.slice ao9 n9 cp9) := cell_of_blk hb10 0
      have e1 : w10.cell? ⟨w.heap.size + 1, 1, none⟩ = some (.int .i64 x.width) := cell_of_blk hb10 1
      have e2 : w10.cell? ⟨w.heap.size + 1, 2, none⟩ = some (.int .u8 x.fin.toNat) := cell_of_blk hb10 2
      have fe0 := frozen_of_blk hb10 0
      have fe1 := frozen_of_blk hb10 1
      have fe2 := frozen_of_blk hb10 2
      clear hbel hst10 hb10 b1 hXb hXbl HST9 HRPB2
      refine wpE_zero ?_
      obtain ⟨t5', w17, hrun17, hX17, htt17, hcl17, -⟩ := HSC.out.push (by omega) 39
      have hz17 : (w10.setCell ⟨w.heap.size + 1, 1, none⟩ (.int .i64 (x.width + rc (s.drop pl)))).heap.size = w10.heap.size := by simp [World.setCell]
      rw [hz17] at hrun17
      have HRUN17 := Lib.hid (show (Builtin.append_ #[39, 39] 39 #[_, .slice (some ⟨w10.heap.size, 0, none⟩) 1 1]).run Tryd.prog ((w10.setCell ⟨w.heap.size + 1, 1, none⟩ (.int .i64 (x.width + rc (s.drop pl)))).alloc (.cells #[.slice ao9 n9 cp9, .int .i64 (x.width + rc (s.drop pl)), .int .u8 x.fin.toNat] 55)) = .ok t5' w17 from hrun17)
      have HT17 := Lib.hid htt17
      have HCL17 := Lib.hid hcl17
      clear hrun17 hX17 htt17 hcl17 hz17 HSC HS10 ha2
      go_wp2_with (at_builtin; refine wpList_append_eq rfl (.tmp 111) (.tmp 113) 39 rfl rfl rfl HRUN17.out ?_)
      go_ret
      refine ⟨t5', rfl, ?_, HEND.out _ HT17.out⟩
      rw [← HGO2.out]
      exact HCL17.out.mono (fun k _ h => HNEW.out k h) (Nat.le_refl _)
end Go.Proofs.YteildpeogbenbaaDoor
