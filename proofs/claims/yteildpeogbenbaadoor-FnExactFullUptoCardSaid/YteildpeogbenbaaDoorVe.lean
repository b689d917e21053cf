/- Walks: spec.Whole, Spaces: they return a bool, and nothing old turns. -/
import Derived.Test.YteildpeogbenbaaDoorVc
namespace Go.Proofs.YteildpeogbenbaaDoor
open Go.RowKit Go.Tw Go.Sort
set_option maxRecDepth 100000

def WhRel (w1 : World) (s : List UInt8) (t5 t6 : Value) (wr : World) : Prop :=
  ∃ pl i : Nat, pl ≤ i ∧ i ≤ s.length ∧ t5 = .int .i64 pl ∧ t6 = .int .i64 i ∧ Tch (New w1) w1 wr

set_option maxHeartbeats 8000000 in
theorem whole_calls (w : World) (m t p f : Nat) (hf : f < 64) (ch : UInt8) {v : Value} {s : List UInt8} (h : Rd w v s) (hT : Lib.Utf8Tabs 1 2 w) (hl : s.length ≤ 1000000) :
    Calls Tryd.prog 14 #[.agg #[.int .i64 m, .int .i64 t, .int .i64 p, .int .u8 ch.toNat, .int .i64 f], v] w (VPost w) := by
  obtain ⟨w1, hw1⟩ : ∃ w1, w1 = w.alloc (.cells #[.int .i64 m, .int .i64 t, .int .i64 p, .int .u8 ch.toNat, .int .i64 f] 23) := ⟨_, rfl⟩
  have hb0 : Below w.heap.size w w1 := hw1 ▸ (Below.refl _ w).alloc (Nat.le_refl _) _
  have hc0 : w1.heap[w.heap.size]? = some (.cells #[.int .i64 m, .int .i64 t, .int .i64 p, .int .u8 ch.toNat, .int .i64 f] 23 (0, 0)) := hw1 ▸ heap_alloc_new w _
  have hs1 : w1.heap.size = w.heap.size + 1 := by rw [hw1]; simp
  have hr1 := h.below hb0
  have ht1 : Lib.Utf8Tabs 1 2 w1 := Utf8Tabs_below hT hb0
  have hcf : ∀ w', Tch (New w1) w1 w' → w'.heap[w.heap.size]? = some (.cells #[.int .i64 m, .int .i64 t, .int .i64 p, .int .u8 ch.toNat, .int .i64 f] 23 (0, 0)) := fun w' h => h.heap hc0 (by unfold New; omega)
  have hend : ∀ w', Tch (New w1) w1 w' → Below w.heap.size w w' := fun w' h => hb0.trans ((New.below h).mono hb0.size)
  have hrd : ∀ w', Tch (New w1) w1 w' → Rd w' v s := fun w' h => hr1.new h
  have hva : ∀ w' {u : Value} {bs : List UInt8}, Tch (New w1) w1 w' → Rd w' u bs → bs.length ≤ 1000000 → Calls Tryd.prog 27 #[u] w' (VPost w') := fun w' u bs h hr hl => utf8valid_calls w' hr (Utf8Tabs_below ht1 (New.below h)) (by omega)
  obtain ⟨ao, cp, rfl, g1, g2, g3, g4, g5⟩ := hr1.val
  obtain ⟨c, hc⟩ : ∃ c, c = cfgOf m t p f ch := ⟨_, rfl⟩
  have hspec : ∀ w' {sv : Value} {b : UInt8} {bs : List UInt8}, Rd w' sv (b :: bs) → bs.length ≤ 1000000000000 → Calls Tryd.prog 25 #[.agg #[.int .i64 m, .int .i64 t, .int .i64 p, .int .u8 ch.toNat, .int .i64 f], sv] w' (SpPost w' c (b :: bs)) := by
    rw [hc]; exact fun w' _ _ _ h1 h2 => special_calls w' m t p f hf ch h1 h2
  have hhas : ∀ w', Calls Tryd.prog 12 #[.agg #[.int .i64 m, .int .i64 t, .int .i64 p, .int .u8 ch.toNat, .int .i64 f], .int .i64 1] w' fun e w'' => e = .returned (.bool (c.flag 1)) ∧ Below w'.heap.size w' w'' := by
    rw [hc]; exact fun w' => has_flag w' m t p f hf ch 1 (by simp)
  obtain ⟨fl1, hfl1⟩ : ∃ fl1, fl1 = c.flag 1 := ⟨_, rfl⟩
  rw [← hfl1] at hhas
  have HHAS := Lib.hid hhas
  have HCF := Lib.hid hcf
  have HEND := Lib.hid hend
  have HRD := Lib.hid hrd
  have HVA := Lib.hid (show ∀ w' {u : Value} {bs : List UInt8}, Tch (New w1) w1 w' → Rd w' u bs → bs.length ≤ 1000000 → Calls Tryd.prog 27 #[u] w' (VPost w') from hva)
  have HSPEC := Lib.hid hspec
  have H4 := Lib.hid g4
  have HS1 := Lib.hid hs1
  have H0 := Lib.hid (show WhRel w1 s (.int .i64 0) (.int .i64 0) w1 from ⟨0, 0, Nat.le_refl _, Nat.zero_le _, rfl, rfl, Tch.refl _ _⟩)
  rw [hw1] at HCF HEND HRD HVA HS1 H0
  clear hr1 h g3 g4 g5 hb0 hc0 hcf hend hrd hspec hva hhas hc hfl1 hw1 hs1 ht1 hT
  unfold maxLen at g2
  go_enter Tryd.func14, Tryd.ntmps14
  go_wp2_with fail
  go_loopw [5, 6] (fun t5 t6 wr => WhRel (w.alloc (.cells #[.int .i64 m, .int .i64 t, .int .i64 p, .int .u8 ch.toNat, .int .i64 f] 23)) s t5 t6 wr) (fun _ t6 _ => s.length - (intOf t6).toNat)
  case atStart => exact H0.out
  case round =>
    clear H0
    obtain ⟨pl, i, h1, h2, rfl, rfl, tt⟩ := hrel
    obtain ⟨d0, d1, d2, d3, d4⟩ := conf_at (HCF.out _ tt)
    have hrdw := HRD.out _ tt
    have HRDW := Lib.hid hrdw
    have HT := Lib.hid tt
    by_cases hlt : i < s.length
    · obtain ⟨ad, rfl, hcc⟩ := (show ∃ ad, ao = some ad ∧ wr.cell? ⟨ad.block, ad.off + i, none⟩ = some (bv s[i]) from by
        obtain ⟨ao', cp', e, _, _, _, _, k5⟩ := hrdw.val
        simp only [Value.slice.injEq] at e
        obtain ⟨rfl, _, _⟩ := e
        exact k5 i hlt)
      have hsp := H4.out ad rfl
      obtain ⟨k0, o0, sp⟩ := ad
      simp only at hsp hcc
      subst hsp
      obtain ⟨b, hbb⟩ : ∃ b, b = s[i] := ⟨_, rfl⟩
      rw [← hbb] at hcc
      have HSB := Lib.hid (show ∀ w', Tch (New (w.alloc (.cells #[.int .i64 m, .int .i64 t, .int .i64 p, .int .u8 ch.toNat, .int .i64 f] 23))) (w.alloc (.cells #[.int .i64 m, .int .i64 t, .int .i64 p, .int .u8 ch.toNat, .int .i64 f] 23)) w' → w'.cell? ⟨k0, o0 + i, none⟩ = some (.int .u8 b.toNat) from fun w' h => by
        obtain ⟨ao', cp', e, _, _, _, _, k5⟩ := (HRD.out w' h).val
        obtain ⟨ad, e2, hc⟩ := k5 i hlt
        simp only [Value.slice.injEq] at e
        rw [← e.1] at e2
        cases e2
        rw [hbb]; exact hc)
      have hds : s.drop i = b :: s.drop (i + 1) := by rw [List.drop_eq_getElem_cons hlt, hbb]
      have hci : ¬ cp = i := by omega
      have hcpl : ¬ cp = pl := by omega
      have hri := HRDW.out.cutEnd (lo := i) (by omega)
      rw [if_neg hci, hds] at hri
      have hlb : (s.drop (i + 1)).length ≤ 1000000000000 := by simp; omega
      have hSp := HSPEC.out wr.drew hri.drew hlb
      have HSP := Lib.hid hSp
      have HCUT := Lib.hid (show ∀ w' {lo hi : Nat}, Rd w' (.slice (some ⟨k0, o0, none⟩) s.length cp) s → lo ≤ hi → hi ≤ s.length → ¬ cp = lo → Rd w' (.slice (some ⟨k0, o0 + lo, none⟩) (hi - lo) (cp - lo)) (seg s lo hi) from fun w' lo hi h a1 a2 a3 => by
        have := h.cut (lo := lo) (hi := hi) a1 a2
        rwa [if_neg a3] at this)
      have hpi : (pl : Int) ≤ (i : Int) := by omega
      have hicp : i ≤ cp := by omega
      have HSL := Lib.hid (show ∀ lo hi, hi ≤ s.length → (seg s lo hi).length ≤ 1000000 from fun lo hi hh => by unfold seg; simp; omega)
      obtain ⟨bk, hbk⟩ : ∃ bk, bk = brk b := ⟨_, rfl⟩
      have HBR := Lib.hid (show ∀ w', Calls Tryd.prog 26 #[.int .u8 b.toNat] w' fun e w'' => e = .returned (.bool bk) ∧ w' = w'' from fun w' => by rw [hbk]; exact breaks_calls w' b)
      -- Valid of the plain text ahead
      have HV1 := Lib.hid (show ∀ w', Tch (New (w.alloc (.cells #[.int .i64 m, .int .i64 t, .int .i64 p, .int .u8 ch.toNat, .int .i64 f] 23))) (w.alloc (.cells #[.int .i64 m, .int .i64 t, .int .i64 p, .int .u8 ch.toNat, .int .i64 f] 23)) w' → Calls Tryd.prog 27 #[.slice (some ⟨k0, o0 + pl, none⟩) (i - pl) (cp - pl)] w' (VPost w') from fun w' h => HVA.out w' h (HCUT.out w' (HRD.out w' h) h1 h2 hcpl) (HSL.out _ _ h2))
      clear hrdw hcc hds hri hlb hSp tt hbk hbb
      by_cases he : endOf c b = 0
      · obtain ⟨q1, q2, q3⟩ := sp_no (t := s.drop (i + 1)) he
        unfold SpPost at HSP
        rw [q1, q2, q3] at HSP
        clear q1 q2 q3 he
        go_wp2_with fail
        refine wp_region_rl (fun w' => w' = wr.drew) [0, 1, 2, 3] [4, 5] [6, 7, 8, 9, 10, 11] 0 [_, _, _, _] [_, _] (by kernel_rfl) (by kernel_rfl) rfl rfl (fun _ _ d _ _ h => by cases d <;> exact h) rfl ?_
        iterate 4 (refine wpR_step rfl (fun K hK => ?_); go_simp; refine hK _ ?_; clear hK K)
        refine wpR_nil (wpE_zero ?_)
        go_wp2_with (go_at_call 25; (with_reducible refine HSP.out.mono ?_); rintro e wa ⟨rfl, hb2⟩; have HTA := Lib.hid ((HT.out.trans (Tch.drew _ wr)).trans (Tch.of_below hb2)); have hcb := HSB.out _ HTA.out; clear hb2)
        refine wpL_end rfl ?_
        iterate 6 (refine wpR_step rfl (fun K hK => ?_); go_simp; refine hK _ ?_; clear hK K)
        refine wpR_nil ?_
        have HBR2 := Lib.hid (HBR.out wa)
        have HV2 := Lib.hid (HV1.out wa HTA.out)
        clear d0 d1 d2 d3 d4 HSP
        cases bk
        · go_wp2_with (go_at_call 26; (with_reducible refine HBR2.out.mono ?_); rintro e w' ⟨rfl, rfl⟩)
          go_roundw
          case rel => exact ⟨pl, i + 1, by omega, by omega, rfl, by go_num, HTA.out⟩
          case measure => simp [intOf]; omega
        · go_wp2_with (go_at_call 26; (with_reducible refine HBR2.out.mono ?_); rintro e w' ⟨rfl, rfl⟩)
          refine HV2.out.mono ?_
          rintro e wb ⟨⟨vb, rfl⟩, hbb2⟩
          have HTB := Lib.hid (HTA.out.trans (Tch.of_below hbb2))
          clear hbb2
          cases vb
          · go_wp2_with fail
            go_ret
            exact ⟨⟨_, rfl⟩, HEND.out _ HTB.out⟩
          · go_wp2_with fail
            go_roundw
            case rel => exact ⟨i + 1, i + 1, by omega, by omega, by go_num, by go_num, HTB.out⟩
            case measure => simp [intOf]; omega
      · obtain ⟨inn, n, wh, q1, q2, q3, q4, q5, q6, q7, -⟩ := sp_yes (t := s.drop (i + 1)) he
        unfold SpPost at HSP
        rw [q1, q2, q3] at HSP
        have hnl : i + n ≤ s.length := by simp at q5; omega
        have hn2 : wh = true → 2 ≤ n := fun e => by
          have := congrArg List.length q7
          rw [e] at this
          simp at this q5
          omega
        clear q1 q2 q3 q5 q6 q7 he
        go_wp2_with fail
        refine wp_region_rl (fun w' => w' = wr.drew) [0, 1, 2, 3] [4, 5] [6, 7, 8, 9, 10, 11] 0 [_, _, _, _] [_, _] (by kernel_rfl) (by kernel_rfl) rfl rfl (fun _ _ d _ _ h => by cases d <;> exact h) rfl ?_
        iterate 4 (refine wpR_step rfl (fun K hK => ?_); go_simp; refine hK _ ?_; clear hK K)
        refine wpR_nil (wpE_zero ?_)
        go_wp2_with (go_at_call 25; (with_reducible refine HSP.out.mono ?_); rintro e wa ⟨rfl, hb2⟩; have HTA := Lib.hid ((HT.out.trans (Tch.drew _ wr)).trans (Tch.of_below hb2)); have hcb := HSB.out _ HTA.out; clear hb2)
        refine wpL_end rfl ?_
        iterate 6 (refine wpR_step rfl (fun K hK => ?_); go_simp; refine hK _ ?_; clear hK K)
        refine wpR_nil ?_
        have HV2 := Lib.hid (HV1.out wa HTA.out)
        clear d0 d1 d2 d3 d4 HSP
        go_wp2_with fail
        refine HV2.out.mono ?_
        rintro e wb ⟨⟨vb, rfl⟩, hbb2⟩
        have HTB := Lib.hid (HTA.out.trans (Tch.of_below hbb2))
        clear hbb2
        cases vb
        · go_wp2_with fail
          go_ret
          exact ⟨⟨_, rfl⟩, HEND.out _ HTB.out⟩
        · have hcbB := HSB.out _ HTB.out
          clear hcb
          by_cases hcp1 : cp = i + 1
          · have hn1 : n = 1 := by omega
            have hwf : wh = false := by cases wh; rfl; have := hn2 rfl; omega
            subst hn1 hwf hcp1
            clear hn2
            cases hb255 : ((b.toNat : Int) != 255)
            rotate_left
            · go_wp2_with fail
              go_ret
              exact ⟨⟨_, rfl⟩, HEND.out _ HTB.out⟩
            go_wp2_with fail
            clear hb255
            have HRI := Lib.hid (show ∀ w', Tch (New (w.alloc (.cells #[.int .i64 m, .int .i64 t, .int .i64 p, .int .u8 ch.toNat, .int .i64 f] 23))) (w.alloc (.cells #[.int .i64 m, .int .i64 t, .int .i64 p, .int .u8 ch.toNat, .int .i64 f] 23)) w' → Rd w' (.slice (some ⟨k0, o0, none⟩) 0 0) ([]) from fun w' h => Rd.empty w' ⟨k0, o0, none⟩ rfl 0 (Nat.zero_le _))
            have HLI := Lib.hid (show ([] : List UInt8).length ≤ 1000000 from Nat.zero_le _)
            obtain ⟨ib, hib⟩ : ∃ ib, ib = ([] : List UInt8) := ⟨_, rfl⟩
            rw [← hib] at HRI HLI
            clear hib
            refine (HVA.out wb HTB.out (HRI.out _ HTB.out) HLI.out).mono ?_
            rintro e wc ⟨⟨vc, rfl⟩, hbc⟩
            have HTC := Lib.hid (HTB.out.trans (Tch.of_below hbc))
            clear hbc
            cases vc
            · go_wp2_with fail
              go_ret
              exact ⟨⟨_, rfl⟩, HEND.out _ HTC.out⟩
            obtain ⟨d0, d1, d2, d3, d4⟩ := conf_at (HCF.out _ HTC.out)
            have HHC := Lib.hid (HHAS.out wc)
            go_wp2_with fail
            refine HHC.out.mono ?_
            rintro e wd ⟨rfl, hbd⟩
            have HTD := Lib.hid (HTC.out.trans (Tch.of_below hbd))
            clear hbd d0 d1 d2 d3 d4 HHC
            cases fl1
            · go_wp2_with fail
              go_roundw
              case rel => exact ⟨i + 1, i + 1, by omega, by omega, by go_num, by go_num, HTD.out⟩
              case measure => simp [intOf]; omega
            have hl60 := cnt_le 60 ib
            have hl38 := cnt_le 38 ib
            have hli := HLI.out
            have HK6 := Lib.hid (show Calls Tryd.prog 28 #[.slice (some ⟨k0, o0, none⟩) 0 0, .int .u8 60] wd fun e w' => e = .returned (.int .i64 (cnt 60 ib : Nat)) ∧ wd = w' from count_calls wd (HRI.out _ HTD.out) 60 (by omega))
            have HK3 := Lib.hid (show Calls Tryd.prog 28 #[.slice (some ⟨k0, o0, none⟩) 0 0, .int .u8 38] wd fun e w' => e = .returned (.int .i64 (cnt 38 ib : Nat)) ∧ wd = w' from count_calls wd (HRI.out _ HTD.out) 38 (by omega))
            generalize cnt 60 ib = n6 at hl60 HK6
            generalize cnt 38 ib = n3 at hl38 HK3
            by_cases h6 : 0 < n6
            · have h6z : (0 : Int) < (n6 : Int) := by omega
              go_wp2_with (go_at_call 28; (with_reducible refine HK6.out.mono ?_); rintro e we ⟨rfl, rfl⟩)
              go_ret
              exact ⟨⟨_, rfl⟩, HEND.out _ HTD.out⟩
            have h6z : ¬ ((0 : Int) < (n6 : Int)) := by omega
            by_cases h3 : 0 < n3
            · have h3z : (0 : Int) < (n3 : Int) := by omega
              go_wp2_with (go_at_call 28; first | ((with_reducible refine HK6.out.mono ?_); rintro e we ⟨rfl, rfl⟩) | ((with_reducible refine HK3.out.mono ?_); rintro e we ⟨rfl, rfl⟩))
              go_ret
              exact ⟨⟨_, rfl⟩, HEND.out _ HTD.out⟩
            have h3z : ¬ ((0 : Int) < (n3 : Int)) := by omega
            go_wp2_with (go_at_call 28; first | ((with_reducible refine HK6.out.mono ?_); rintro e we ⟨rfl, rfl⟩) | ((with_reducible refine HK3.out.mono ?_); rintro e we ⟨rfl, rfl⟩))
            go_roundw
            case rel => exact ⟨i + 1, i + 1, by omega, by omega, by go_num, by go_num, HTD.out⟩
            case measure => simp [intOf]; omega
          · cases wh
            · clear hn2
              cases hb255 : ((b.toNat : Int) != 255)
              rotate_left
              · go_wp2_with fail
                go_ret
                exact ⟨⟨_, rfl⟩, HEND.out _ HTB.out⟩
              go_wp2_with fail
              clear hb255
              have HRI := Lib.hid (show ∀ w', Tch (New (w.alloc (.cells #[.int .i64 m, .int .i64 t, .int .i64 p, .int .u8 ch.toNat, .int .i64 f] 23))) (w.alloc (.cells #[.int .i64 m, .int .i64 t, .int .i64 p, .int .u8 ch.toNat, .int .i64 f] 23)) w' → Rd w' (.slice (some ⟨k0, o0 + (i + 1), none⟩) (i + n - (i + 1)) (cp - (i + 1))) (seg s (i + 1) (i + n)) from fun w' h => HCUT.out w' (HRD.out w' h) (by omega) (by omega) hcp1)
              have HLI := Lib.hid (show (seg s (i + 1) (i + n)).length ≤ 1000000 from HSL.out _ _ (by omega))
              obtain ⟨ib, hib⟩ : ∃ ib, ib = (seg s (i + 1) (i + n) : List UInt8) := ⟨_, rfl⟩
              rw [← hib] at HRI HLI
              clear hib
              refine (HVA.out wb HTB.out (HRI.out _ HTB.out) HLI.out).mono ?_
              rintro e wc ⟨⟨vc, rfl⟩, hbc⟩
              have HTC := Lib.hid (HTB.out.trans (Tch.of_below hbc))
              clear hbc
              cases vc
              · go_wp2_with fail
                go_ret
                exact ⟨⟨_, rfl⟩, HEND.out _ HTC.out⟩
              obtain ⟨d0, d1, d2, d3, d4⟩ := conf_at (HCF.out _ HTC.out)
              have HHC := Lib.hid (HHAS.out wc)
              go_wp2_with fail
              refine HHC.out.mono ?_
              rintro e wd ⟨rfl, hbd⟩
              have HTD := Lib.hid (HTC.out.trans (Tch.of_below hbd))
              clear hbd d0 d1 d2 d3 d4 HHC
              cases fl1
              · go_wp2_with fail
                go_roundw
                case rel => exact ⟨i + n, i + n, by omega, by omega, by go_num, by go_num, HTD.out⟩
                case measure => simp [intOf]; omega
              have hl60 := cnt_le 60 ib
              have hl38 := cnt_le 38 ib
              have hli := HLI.out
              have HK6 := Lib.hid (show Calls Tryd.prog 28 #[.slice (some ⟨k0, o0 + (i + 1), none⟩) (i + n - (i + 1)) (cp - (i + 1)), .int .u8 60] wd fun e w' => e = .returned (.int .i64 (cnt 60 ib : Nat)) ∧ wd = w' from count_calls wd (HRI.out _ HTD.out) 60 (by omega))
              have HK3 := Lib.hid (show Calls Tryd.prog 28 #[.slice (some ⟨k0, o0 + (i + 1), none⟩) (i + n - (i + 1)) (cp - (i + 1)), .int .u8 38] wd fun e w' => e = .returned (.int .i64 (cnt 38 ib : Nat)) ∧ wd = w' from count_calls wd (HRI.out _ HTD.out) 38 (by omega))
              generalize cnt 60 ib = n6 at hl60 HK6
              generalize cnt 38 ib = n3 at hl38 HK3
              by_cases h6 : 0 < n6
              · have h6z : (0 : Int) < (n6 : Int) := by omega
                go_wp2_with (go_at_call 28; (with_reducible refine HK6.out.mono ?_); rintro e we ⟨rfl, rfl⟩)
                go_ret
                exact ⟨⟨_, rfl⟩, HEND.out _ HTD.out⟩
              have h6z : ¬ ((0 : Int) < (n6 : Int)) := by omega
              by_cases h3 : 0 < n3
              · have h3z : (0 : Int) < (n3 : Int) := by omega
                go_wp2_with (go_at_call 28; first | ((with_reducible refine HK6.out.mono ?_); rintro e we ⟨rfl, rfl⟩) | ((with_reducible refine HK3.out.mono ?_); rintro e we ⟨rfl, rfl⟩))
                go_ret
                exact ⟨⟨_, rfl⟩, HEND.out _ HTD.out⟩
              have h3z : ¬ ((0 : Int) < (n3 : Int)) := by omega
              go_wp2_with (go_at_call 28; first | ((with_reducible refine HK6.out.mono ?_); rintro e we ⟨rfl, rfl⟩) | ((with_reducible refine HK3.out.mono ?_); rintro e we ⟨rfl, rfl⟩))
              go_roundw
              case rel => exact ⟨i + n, i + n, by omega, by omega, by go_num, by go_num, HTD.out⟩
              case measure => simp [intOf]; omega
            · have hn3 := hn2 rfl
              clear hn2
              go_wp2_with fail
              have HRI := Lib.hid (show ∀ w', Tch (New (w.alloc (.cells #[.int .i64 m, .int .i64 t, .int .i64 p, .int .u8 ch.toNat, .int .i64 f] 23))) (w.alloc (.cells #[.int .i64 m, .int .i64 t, .int .i64 p, .int .u8 ch.toNat, .int .i64 f] 23)) w' → Rd w' (.slice (some ⟨k0, o0 + (i + 1), none⟩) (i + n - 1 - (i + 1)) (cp - (i + 1))) (seg s (i + 1) (i + n - 1)) from fun w' h => HCUT.out w' (HRD.out w' h) (by omega) (by omega) hcp1)
              have HLI := Lib.hid (show (seg s (i + 1) (i + n - 1)).length ≤ 1000000 from HSL.out _ _ (by omega))
              obtain ⟨ib, hib⟩ : ∃ ib, ib = (seg s (i + 1) (i + n - 1) : List UInt8) := ⟨_, rfl⟩
              rw [← hib] at HRI HLI
              clear hib
              refine (HVA.out wb HTB.out (HRI.out _ HTB.out) HLI.out).mono ?_
              rintro e wc ⟨⟨vc, rfl⟩, hbc⟩
              have HTC := Lib.hid (HTB.out.trans (Tch.of_below hbc))
              clear hbc
              cases vc
              · go_wp2_with fail
                go_ret
                exact ⟨⟨_, rfl⟩, HEND.out _ HTC.out⟩
              obtain ⟨d0, d1, d2, d3, d4⟩ := conf_at (HCF.out _ HTC.out)
              have HHC := Lib.hid (HHAS.out wc)
              go_wp2_with fail
              refine HHC.out.mono ?_
              rintro e wd ⟨rfl, hbd⟩
              have HTD := Lib.hid (HTC.out.trans (Tch.of_below hbd))
              clear hbd d0 d1 d2 d3 d4 HHC
              cases fl1
              · go_wp2_with fail
                go_roundw
                case rel => exact ⟨i + n, i + n, by omega, by omega, by go_num, by go_num, HTD.out⟩
                case measure => simp [intOf]; omega
              have hl60 := cnt_le 60 ib
              have hl38 := cnt_le 38 ib
              have hli := HLI.out
              have HK6 := Lib.hid (show Calls Tryd.prog 28 #[.slice (some ⟨k0, o0 + (i + 1), none⟩) (i + n - 1 - (i + 1)) (cp - (i + 1)), .int .u8 60] wd fun e w' => e = .returned (.int .i64 (cnt 60 ib : Nat)) ∧ wd = w' from count_calls wd (HRI.out _ HTD.out) 60 (by omega))
              have HK3 := Lib.hid (show Calls Tryd.prog 28 #[.slice (some ⟨k0, o0 + (i + 1), none⟩) (i + n - 1 - (i + 1)) (cp - (i + 1)), .int .u8 38] wd fun e w' => e = .returned (.int .i64 (cnt 38 ib : Nat)) ∧ wd = w' from count_calls wd (HRI.out _ HTD.out) 38 (by omega))
              generalize cnt 60 ib = n6 at hl60 HK6
              generalize cnt 38 ib = n3 at hl38 HK3
              by_cases h6 : 0 < n6
              · have h6z : (0 : Int) < (n6 : Int) := by omega
                go_wp2_with (go_at_call 28; (with_reducible refine HK6.out.mono ?_); rintro e we ⟨rfl, rfl⟩)
                go_ret
                exact ⟨⟨_, rfl⟩, HEND.out _ HTD.out⟩
              have h6z : ¬ ((0 : Int) < (n6 : Int)) := by omega
              by_cases h3 : 0 < n3
              · have h3z : (0 : Int) < (n3 : Int) := by omega
                go_wp2_with (go_at_call 28; first | ((with_reducible refine HK6.out.mono ?_); rintro e we ⟨rfl, rfl⟩) | ((with_reducible refine HK3.out.mono ?_); rintro e we ⟨rfl, rfl⟩))
                go_ret
                exact ⟨⟨_, rfl⟩, HEND.out _ HTD.out⟩
              have h3z : ¬ ((0 : Int) < (n3 : Int)) := by omega
              go_wp2_with (go_at_call 28; first | ((with_reducible refine HK6.out.mono ?_); rintro e we ⟨rfl, rfl⟩) | ((with_reducible refine HK3.out.mono ?_); rintro e we ⟨rfl, rfl⟩))
              go_roundw
              case rel => exact ⟨i + n, i + n, by omega, by omega, by go_num, by go_num, HTD.out⟩
              case measure => simp [intOf]; omega
    · obtain rfl : i = s.length := by omega
      obtain ⟨a2, ha2⟩ : ∃ a2, (if cp = pl then ao else Option.map (fun x => x.add pl) ao) = a2 := ⟨_, rfl⟩
      have hdr : Rd wr (.slice a2 (s.length - pl) (cp - pl)) (s.drop pl) := by
        have := HRDW.out.dropped h1
        rwa [ha2] at this
      have HVE := Lib.hid (HVA.out wr HT.out hdr (by simp; omega))
      have hplc : pl ≤ cp := by omega
      clear hdr hrdw
      go_wp2_with fail
      refine HVE.out.mono ?_
      rintro e wb ⟨⟨vb, rfl⟩, hbb2⟩
      have HTB := Lib.hid (HT.out.trans (Tch.of_below hbb2))
      clear hbb2
      go_wp2_with fail
      go_ret
      exact ⟨⟨_, rfl⟩, HEND.out _ HTB.out⟩

/-- What Spaces tells. -/
def SpaceFacts (mn tb pd : Int) (ch : UInt8) (fl : Int) (s : List UInt8) : Prop :=
  ∃ (m t p f : Nat), mn = m ∧ tb = t ∧ pd = p ∧ fl = f ∧ m ≤ 1000 ∧ t ≤ 1000 ∧ p ≤ 1000 ∧ f < 64 ∧ s.length ≤ 3000 ∧ ch ≠ 9 ∧ ch.toNat < 128 ∧ (cfgOf m t p f ch).flag 16 = false ∧ (cfgOf m t p f ch).flag 32 = false ∧ opn (cellsGo (cfgOf m t p f ch) ⟨[], 0, 0⟩ [] s) = false ∧ m ≤ 60 ∧ p ≤ 60
def SpcPost (w : World) (mn tb pd : Int) (ch : UInt8) (fl : Int) (s : List UInt8) (e : Ending) (w' : World) : Prop :=
  ∃ b : Bool, e = .returned (.bool b) ∧ Below w.heap.size w w' ∧ (b = true → SpaceFacts mn tb pd ch fl s)

set_option maxHeartbeats 8000000 in
theorem spaces_calls (w : World) (mn tb pd fl : Int) (ch : UInt8) {v : Value} {s : List UInt8} (h : Rd w v s) (hT : Lib.Utf8Tabs 1 2 w) :
    Calls Tryd.prog 6 #[.agg #[.int .i64 mn, .int .i64 tb, .int .i64 pd, .int .u8 ch.toNat, .int .i64 fl], v] w (SpcPost w mn tb pd ch fl s) := by
  have L0 := Lib.hid (LS.start (mn := mn) (tb := tb) (pd := pd) (ch := ch) (fl := fl) h)
  have HT := Lib.hid hT
  have hV := valid_calls (w.alloc (.cells #[.int .i64 mn, .int .i64 tb, .int .i64 pd, .int .u8 ch.toNat, .int .i64 fl] 23)) mn tb pd fl ch
  obtain ⟨ao, cp, rfl, g1, g2⟩ := L0.out.shape
  obtain ⟨d0, d1, d2, d3, d4⟩ := L0.out.cells
  clear h hT
  by_cases hv : Vld mn tb pd fl
  rotate_left
  · rw [decide_eq_false hv] at hV
    have HV := Lib.hid hV
    clear hV hv
    go_enter Tryd.func6, Tryd.ntmps6
    go_wp2_with fail
    refine HV.out.mono ?_
    rintro e w1 ⟨rfl, hb1⟩
    have L1 := Lib.hid (L0.out.step hb1)
    clear hb1
    go_wp2_with fail
    go_ret
    exact ⟨_, rfl, L1.out.bel, fun h => by cases h⟩
  rw [decide_eq_true hv] at hV
  have HV := Lib.hid hV
  have h60 : mn ≤ 60 ∧ pd ≤ 60 := by unfold Vld at hv; omega
  obtain ⟨m, t, p, f, rfl, rfl, rfl, rfl, l1, l2, l3, l4⟩ := vld_nat hv
  have H60 := Lib.hid (show m ≤ 60 ∧ p ≤ 60 by omega)
  clear h60
  clear hV hv
  go_enter Tryd.func6, Tryd.ntmps6
  go_wp2_with fail
  refine HV.out.mono ?_
  rintro e w1 ⟨rfl, hb1⟩
  have L1 := Lib.hid (L0.out.step hb1)
  clear hb1 L0 HV d0 d1 d2 d3 d4
  have hS := small_calls w1 L1.out.rd
  by_cases hs : s.length ≤ 3000
  rotate_left
  · rw [decide_eq_false hs] at hS
    have HS := Lib.hid hS
    clear hS hs
    go_wp2_with fail
    refine HS.out.mono ?_
    rintro e w2 ⟨rfl, rfl⟩
    go_wp2_with fail
    go_ret
    exact ⟨_, rfl, L1.out.bel, fun h => by cases h⟩
  rw [decide_eq_true hs] at hS
  have HS := Lib.hid hS
  clear hS
  obtain ⟨d0, d1, d2, d3, d4⟩ := L1.out.cells
  have HSS := Lib.hid hs
  go_wp2_with fail
  refine HS.out.mono ?_
  rintro e w2 ⟨rfl, rfl⟩
  clear HS
  by_cases h9 : ch = 9
  · have h9b : ((ch.toNat : Int) != 9) = false := by rw [h9]; rfl
    clear h9
    go_wp2_with fail
    go_ret
    exact ⟨_, rfl, L1.out.bel, fun h => by cases h⟩
  have h9b : ((ch.toNat : Int) != 9) = true := by rw [bne_iff_ne]; intro h; exact h9 (UInt8.toNat_inj.1 (by have : (9 : UInt8).toNat = 9 := rfl; omega))
  have H9 := Lib.hid h9
  clear h9
  by_cases h128 : ch.toNat < 128
  rotate_left
  · have h128z : ¬ ((ch.toNat : Int) < 128) := by omega
    go_wp2_with fail
    go_ret
    exact ⟨_, rfl, L1.out.bel, fun h => by cases h⟩
  have h128z : (ch.toNat : Int) < 128 := by omega
  have HF := Lib.hid (has_flag w1 m t p f l4 ch 16 (by simp))
  obtain ⟨x16, hx16⟩ : ∃ x, x = (cfgOf m t p f ch).flag 16 := ⟨_, rfl⟩
  rw [← hx16] at HF
  have HX16 := Lib.hid hx16
  clear hx16
  go_wp2_with fail
  refine HF.out.mono ?_
  rintro e w3 ⟨rfl, hb3⟩
  have L3 := Lib.hid (L1.out.step hb3)
  clear hb3 L1 HF d0 d1 d2 d3 d4 h9b h128z
  cases x16
  rotate_left
  · go_wp2_with fail
    go_ret
    exact ⟨_, rfl, L3.out.bel, fun h => by cases h⟩
  obtain ⟨d0, d1, d2, d3, d4⟩ := L3.out.cells
  have HF := Lib.hid (has_flag w3 m t p f l4 ch 32 (by simp))
  obtain ⟨x32, hx32⟩ : ∃ x, x = (cfgOf m t p f ch).flag 32 := ⟨_, rfl⟩
  rw [← hx32] at HF
  have HX32 := Lib.hid hx32
  clear hx32
  go_wp2_with fail
  refine HF.out.mono ?_
  rintro e w4 ⟨rfl, hb4⟩
  have L4 := Lib.hid (L3.out.step hb4)
  clear hb4 L3 HF d0 d1 d2 d3 d4
  cases x32
  rotate_left
  · go_wp2_with fail
    go_ret
    exact ⟨_, rfl, L4.out.bel, fun h => by cases h⟩
  obtain ⟨d0, d1, d2, d3, d4⟩ := L4.out.cells
  have HO := Lib.hid (open_calls w4 m t p f l4 ch (.inl L4.out.rd) (by omega))
  obtain ⟨xo, hxo⟩ : ∃ x, x = opn (cellsGo (cfgOf m t p f ch) ⟨[], 0, 0⟩ [] s) := ⟨_, rfl⟩
  rw [← hxo] at HO
  have HXO := Lib.hid hxo
  clear hxo
  go_wp2_with fail
  refine HO.out.mono ?_
  rintro e w5 ⟨rfl, hb5⟩
  have L5 := Lib.hid (L4.out.step hb5)
  clear hb5 L4 HO d0 d1 d2 d3 d4
  cases xo
  rotate_left
  · go_wp2_with fail
    go_ret
    exact ⟨_, rfl, L5.out.bel, fun h => by cases h⟩
  obtain ⟨d0, d1, d2, d3, d4⟩ := L5.out.cells
  have HW := Lib.hid (whole_calls w5 m t p f l4 ch L5.out.rd (Utf8Tabs_below HT.out L5.out.bel) (by omega))
  go_wp2_with fail
  refine HW.out.mono ?_
  rintro e w6 ⟨⟨xw, rfl⟩, hb6⟩
  have L6 := Lib.hid (L5.out.step hb6)
  clear hb6 L5 HW d0 d1 d2 d3 d4
  cases xw
  · go_wp2_with fail
    go_ret
    exact ⟨_, rfl, L6.out.bel, fun h => by cases h⟩
  obtain ⟨d0, d1, d2, d3, d4⟩ := L6.out.cells
  have HFACT := Lib.hid (show SpaceFacts m t p ch f s from ⟨m, t, p, f, rfl, rfl, rfl, rfl, l1, l2, l3, l4, HSS.out, H9.out, h128, HX16.out.symm, HX32.out.symm, HXO.out.symm, H60.out⟩)
  have HF := Lib.hid (has_flag w6 m t p f l4 ch 8 (by simp))
  obtain ⟨x8, hx8⟩ : ∃ x, x = (cfgOf m t p f ch).flag 8 := ⟨_, rfl⟩
  rw [← hx8] at HF
  clear hx8
  go_wp2_with fail
  refine HF.out.mono ?_
  rintro e w7 ⟨rfl, hb7⟩
  have L7 := Lib.hid (L6.out.step hb7)
  clear hb7 L6 HF d0 d1 d2 d3 d4
  cases x8
  · go_wp2_with fail
    go_ret
    exact ⟨_, rfl, L7.out.bel, fun _ => HFACT.out⟩
  obtain ⟨d0, d1, d2, d3, d4⟩ := L7.out.cells
  have HH := Lib.hid (hollow_calls w7 m t p f l4 ch L7.out.rd (by omega))
  go_wp2_with fail
  refine HH.out.mono ?_
  rintro e w8 ⟨⟨xh, rfl⟩, hb8⟩
  have L8 := Lib.hid (L7.out.step hb8)
  clear hb8 L7 HH d0 d1 d2 d3 d4
  cases xh
  · go_wp2_with fail
    go_ret
    exact ⟨_, rfl, L8.out.bel, fun _ => HFACT.out⟩
  go_wp2_with fail
  go_ret
  exact ⟨_, rfl, L8.out.bel, fun h => by cases h⟩
end Go.Proofs.YteildpeogbenbaaDoor
