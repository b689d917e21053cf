/- Walks: the reference's passed, breaks, tabbed, column, shut. -/
import Derived.Test.YteildpeogbenbaaDoorSd
namespace Go.Proofs.YteildpeogbenbaaDoor
open Go.RowKit Go.Tw Go.Sort
set_option maxRecDepth 100000

theorem u8_eq {b c : UInt8} {n : Int} (hn : (c.toNat : Int) = n) : ((b.toNat : Int) == n) = decide (b = c) := by
  subst hn
  rw [Bool.eq_iff_iff]
  simp
  exact ⟨fun h => UInt8.toNat_inj.1 (by omega), fun h => by rw [h]⟩

theorem breaks_calls (w : World) (b : UInt8) : Calls Tryd.prog 26 #[.int .u8 b.toNat] w fun e w' => e = .returned (.bool (brk b)) ∧ w = w' := by
  have hb : brk b = (decide ((9 : Int) ≤ b.toNat) && decide ((b.toNat : Int) ≤ 12)) := by
    unfold brk
    simp only [UInt8.le_iff_toNat_le]
    have h1 : (9 : UInt8).toNat = 9 := rfl
    have h2 : (12 : UInt8).toNat = 12 := rfl
    rw [h1, h2]
    congr 1 <;> (rw [decide_eq_decide]; omega)
  by_cases h1 : (9 : Int) ≤ b.toNat
  · by_cases h2 : (b.toNat : Int) ≤ 12
    · rw [hb, decide_eq_true h1, decide_eq_true h2, Bool.and_true]
      clear hb
      go_enter Tryd.func26, Tryd.ntmps26
      go_wp2_with fail
      go_ret
      exact ⟨rfl, rfl⟩
    · rw [hb, decide_eq_true h1, decide_eq_false h2, Bool.and_false]
      clear hb
      go_enter Tryd.func26, Tryd.ntmps26
      go_wp2_with fail
      go_ret
      exact ⟨rfl, rfl⟩
  · rw [hb, decide_eq_false h1, Bool.false_and]
    clear hb
    go_enter Tryd.func26, Tryd.ntmps26
    go_wp2_with fail
    go_ret
    exact ⟨rfl, rfl⟩

def PaPost (w : World) (bs : List UInt8) (n : Nat) (e : Ending) (w' : World) : Prop := ∃ v, e = .returned (.tuple #[v, .int .i64 n]) ∧ Rd w' v bs ∧ Below w.heap.size w w'

set_option maxHeartbeats 2000000 in
theorem passed_calls (w : World) (m t p f : Nat) (hf : f < 64) (ch : UInt8) {v : Value} {b : UInt8} {inn : List UInt8} (whole : Bool) (hb : endOf (cfgOf m t p f ch) b ≠ 0) (h : Rd w v (b :: (inn ++ (if whole = true then [endOf (cfgOf m t p f ch) b] else [])))) (hl : inn.length ≤ 1000000000000) :
    Calls Tryd.prog 47 #[.agg #[.int .i64 m, .int .i64 t, .int .i64 p, .int .u8 ch.toNat, .int .i64 f], v, .bool whole] w (PaPost w (passT (cfgOf m t p f ch) b inn whole) (passW b inn)) := by
  obtain ⟨w1, hw1⟩ : ∃ w1, w1 = w.alloc (.cells #[.int .i64 m, .int .i64 t, .int .i64 p, .int .u8 ch.toNat, .int .i64 f] 23) := ⟨_, rfl⟩
  have hb0 : Below w.heap.size w w1 := hw1 ▸ (Below.refl _ w).alloc (Nat.le_refl _) _
  have hr0 := h.below hb0
  have hc0 : w1.heap[w.heap.size]? = some (.cells #[.int .i64 m, .int .i64 t, .int .i64 p, .int .u8 ch.toNat, .int .i64 f] 23 (0, 0)) := hw1 ▸ heap_alloc_new w _
  obtain ⟨d0, d1, d2, d3, d4⟩ := conf_at hc0
  obtain ⟨c, hc⟩ : ∃ c, c = cfgOf m t p f ch := ⟨_, rfl⟩
  obtain ⟨L, hL⟩ : ∃ L, L = b :: (inn ++ (if whole = true then [endOf c b] else [])) := ⟨_, rfl⟩
  have hLl : 1 ≤ L.length ∧ L.length ≤ 1000000000002 := by rw [hL]; cases whole <;> simp <;> omega
  have hHas := has_flag w1 m t p f hf ch 2 (by simp)
  rw [← hc] at hb hHas h hr0 ⊢
  rw [← hL] at h hr0
  have hL0 : L[0]'(by omega) = b := by simp only [hL, List.getElem_cons_zero]
  obtain ⟨ao, cp, rfl, h1, h2, h3, h4, h5⟩ := hr0.val
  obtain ⟨ad, rfl, hcc⟩ := h5 0 (by omega)
  have hsp := h4 ad rfl
  obtain ⟨k0, o0, sp⟩ := ad
  simp only at hsp
  subst hsp
  rw [hL0] at hcc
  have hcb : w1.cell? ⟨k0, o0, none⟩ = some (.int .u8 b.toNat) := hcc
  have hbb : b = 255 ∨ b = 60 ∨ b = 38 := by
    by_cases e1 : b = 255
    · exact .inl e1
    · by_cases e2 : b = 60
      · exact .inr (.inl e2)
      · by_cases e3 : b = 38
        · exact .inr (.inr e3)
        · exact absurd (by unfold endOf; rw [if_neg e1, if_neg (fun h => e2 h.1), if_neg (fun h => e3 h.1)]) hb
  have HR := Lib.hid hr0
  have HB := Lib.hid hb0
  have HH := Lib.hid hHas
  have HL := Lib.hid hL
  have hs1 : w1.heap.size = w.heap.size + 1 := by rw [hw1]; simp
  have HS1 := Lib.hid hs1
  rw [hw1] at hcb d0 d1 d2 d3 d4 HR HB HH HS1
  unfold maxLen at h2
  obtain ⟨hl1, hl2⟩ := hLl
  clear hr0 hb0 hc0 h h3 h4 h5 hcc hw1 hHas hL hL0 hc hb hs1
  rcases hbb with rfl | rfl | rfl
  · have hr1 := HR.out.cutEnd (lo := 1) hl1
    obtain ⟨a1, ha1⟩ : ∃ a1, (if cp = 1 then some (⟨k0, o0, none⟩ : Addr) else some ⟨k0, o0 + 1, none⟩) = a1 := ⟨_, rfl⟩
    rw [ha1] at hr1
    have hin : ∃ (n2 : Nat), n2 = inn.length ∧ Rd (w.alloc (.cells #[.int .i64 m, .int .i64 t, .int .i64 p, .int .u8 ch.toNat, .int .i64 f] 23)) (.slice a1 n2 (cp - 1)) inn ∧ (whole = false → n2 = L.length - 1) ∧ (whole = true → n2 + 2 = L.length) := by
      refine ⟨_, rfl, ?_, ?_, ?_⟩
      · cases whole
        · have e : L.drop 1 = inn := by rw [HL.out]; simp
          rw [e] at hr1
          have e2 : L.length - 1 = inn.length := by rw [HL.out]; simp
          rw [e2] at hr1
          exact hr1
        · have hr2 := HR.out.cut (lo := 1) (hi := L.length - 1) (by rw [HL.out]; simp) (by omega)
          rw [ha1] at hr2
          have e : seg L 1 (L.length - 1) = inn := by
            rw [HL.out]
            unfold seg
            simp only [if_true, List.length_cons, List.length_append, List.length_nil]
            rw [show inn.length + (0 + 1) + 1 - 1 = inn.length + 1 by omega, List.take_succ_cons, List.drop_succ_cons, List.drop_zero, List.take_left]
          rw [e] at hr2
          have e2 : L.length - 1 - 1 = inn.length := by rw [HL.out]; simp
          rw [e2] at hr2
          exact hr2
      · intro hw; rw [HL.out, hw]; simp
      · intro hw; rw [HL.out, hw]; simp
    obtain ⟨n2, hn2, hri, hwf, hwt⟩ := hin
    have HRI := Lib.hid hri
    have HN2 := Lib.hid hn2
    obtain ⟨fl, hfl⟩ : ∃ fl, fl = c.flag 2 := ⟨_, rfl⟩
    rw [← hfl] at HH
    have HFL := Lib.hid hfl
    have hpw : passW 255 inn = rc inn := by unfold passW; rw [if_neg (by decide), if_neg (by decide)]
    have HPW := Lib.hid hpw
    have hpt : passT c 255 inn whole = if fl = true then inn else L := by
      unfold passT
      rw [← HFL.out]
      cases fl
      · rw [if_neg (show ¬ ((255 : UInt8) = 255 ∧ false = true) by simp), if_neg (show ¬ (false = true) by simp)]; exact HL.out.symm
      · rw [if_pos ⟨rfl, rfl⟩, if_pos rfl]
    have HPT := Lib.hid hpt
    clear hri hn2 hfl hpw hpt hr1
    cases whole
    · have hw2 := hwf rfl
      subst hw2
      clear hwf hwt
      go_enter Tryd.func47, Tryd.ntmps47
      go_wp2_with fail
      refine HH.out.mono ?_
      rintro e w2 ⟨rfl, hb2⟩
      have HB2 := Lib.hid (HB.out.trans (hb2.mono (by rw [HS1.out]; omega)))
      have HR2 := Lib.hid (HR.out.below hb2)
      have HRI2 := Lib.hid (HRI.out.below hb2)
      have HRC := Lib.hid (runeCount_calls HRI2.out (by omega))
      clear HH hb2
      cases fl
      · go_wp2_with fail
        refine HRC.out.mono ?_
        rintro e w3 ⟨rfl, hb3⟩
        have HB3 := Lib.hid (HB2.out.trans (hb3.mono HB2.out.size))
        have HR3 := Lib.hid (HR2.out.below hb3)
        clear hb3
        go_wp2_with fail
        refine bodyPost_ret (v := .tuple #[.slice (some ⟨k0, o0, none⟩) L.length cp, .int .i64 (rc inn)]) (by simp [results, Tryd.results47, go_sem]) rfl ?_
        rw [HPT.out, HPW.out]
        exact ⟨_, rfl, HR3.out, HB3.out⟩
      · go_wp2_with fail
        refine HRC.out.mono ?_
        rintro e w3 ⟨rfl, hb3⟩
        have HB3 := Lib.hid (HB2.out.trans (hb3.mono HB2.out.size))
        have HR3 := Lib.hid (HRI2.out.below hb3)
        clear hb3
        go_wp2_with fail
        refine bodyPost_ret (v := .tuple #[.slice a1 (L.length - 1) (cp - 1), .int .i64 (rc inn)]) (by simp [results, Tryd.results47, go_sem]) rfl ?_
        rw [HPT.out, HPW.out]
        exact ⟨_, rfl, HR3.out, HB3.out⟩
    · have hw2 := hwt rfl
      clear hwf hwt
      have hLn : L.length = n2 + 2 := by omega
      rw [hLn] at HR h1 hl1 hl2 ⊢
      clear hw2
      go_enter Tryd.func47, Tryd.ntmps47
      go_wp2_with fail
      refine HH.out.mono ?_
      rintro e w2 ⟨rfl, hb2⟩
      have HB2 := Lib.hid (HB.out.trans (hb2.mono (by rw [HS1.out]; omega)))
      have HR2 := Lib.hid (HR.out.below hb2)
      have HRI2 := Lib.hid (HRI.out.below hb2)
      have HRC := Lib.hid (runeCount_calls HRI2.out (by omega))
      clear HH hb2
      cases fl
      · go_wp2_with fail
        refine HRC.out.mono ?_
        rintro e w3 ⟨rfl, hb3⟩
        have HB3 := Lib.hid (HB2.out.trans (hb3.mono HB2.out.size))
        have HR3 := Lib.hid (HR2.out.below hb3)
        clear hb3
        go_wp2_with fail
        refine bodyPost_ret (v := .tuple #[.slice (some ⟨k0, o0, none⟩) (n2 + 2) cp, .int .i64 (rc inn)]) (by simp [results, Tryd.results47, go_sem]) rfl ?_
        rw [HPT.out, HPW.out]
        exact ⟨_, rfl, HR3.out, HB3.out⟩
      · go_wp2_with fail
        refine HRC.out.mono ?_
        rintro e w3 ⟨rfl, hb3⟩
        have HB3 := Lib.hid (HB2.out.trans (hb3.mono HB2.out.size))
        have HR3 := Lib.hid (HRI2.out.below hb3)
        clear hb3
        go_wp2_with fail
        refine bodyPost_ret (v := .tuple #[.slice a1 n2 (cp - 1), .int .i64 (rc inn)]) (by simp [results, Tryd.results47, go_sem]) rfl ?_
        rw [HPT.out, HPW.out]
        exact ⟨_, rfl, HR3.out, HB3.out⟩
  · have hpt : passT c 60 inn whole = L ∧ passW 60 inn = 0 := ⟨by unfold passT; rw [if_neg (fun h => absurd h.1 (by decide))]; exact HL.out.symm, rfl⟩
    rw [hpt.1, hpt.2]
    clear hpt
    go_enter Tryd.func47, Tryd.ntmps47
    go_wp2_with fail
    refine bodyPost_ret (v := .tuple #[.slice (some ⟨k0, o0, none⟩) L.length cp, .int .i64 0]) (by simp [results, Tryd.results47, go_sem]) rfl ?_
    exact ⟨_, rfl, HR.out, HB.out⟩
  · have hpt : passT c 38 inn whole = L ∧ passW 38 inn = 1 := ⟨by unfold passT; rw [if_neg (fun h => absurd h.1 (by decide))]; exact HL.out.symm, rfl⟩
    rw [hpt.1, hpt.2]
    clear hpt
    go_enter Tryd.func47, Tryd.ntmps47
    go_wp2_with fail
    refine bodyPost_ret (v := .tuple #[.slice (some ⟨k0, o0, none⟩) L.length cp, .int .i64 1]) (by simp [results, Tryd.results47, go_sem]) rfl ?_
    exact ⟨_, rfl, HR.out, HB.out⟩

theorem tabbed_calls (w : World) (tv : Value) (x : SC) : Calls Tryd.prog 24 #[.agg #[tv, .int .i64 x.width, .int .u8 x.fin.toNat]] w fun e w' => e = .returned (.bool x.tabbed) ∧ Below w.heap.size w w' := by
  have hb0 : Below w.heap.size w (w.alloc (.cells #[tv, .int .i64 x.width, .int .u8 x.fin.toNat] 55)) := (Below.refl _ w).alloc (Nat.le_refl _) _
  have HB := Lib.hid hb0
  clear hb0
  have e9 := u8_eq (b := x.fin) (c := 9) (n := 9) rfl
  have e11 := u8_eq (b := x.fin) (c := 11) (n := 11) rfl
  have hT : x.tabbed = (decide (x.fin = 9) || decide (x.fin = 11)) := by unfold SC.tabbed; rw [Bool.eq_iff_iff]; simp
  by_cases h1 : x.fin = 9
  · rw [hT, decide_eq_true h1, Bool.true_or]
    rw [decide_eq_true h1] at e9
    clear hT h1 e11
    go_enter Tryd.func24, Tryd.ntmps24
    go_wp2_with fail
    go_ret
    exact ⟨rfl, HB.out⟩
  · rw [decide_eq_false h1] at e9
    by_cases h2 : x.fin = 11
    · rw [hT, decide_eq_false h1, decide_eq_true h2, Bool.false_or]
      rw [decide_eq_true h2] at e11
      clear hT h1 h2
      go_enter Tryd.func24, Tryd.ntmps24
      go_wp2_with fail
      go_ret
      exact ⟨rfl, HB.out⟩
    · rw [hT, decide_eq_false h1, decide_eq_false h2, Bool.or_false]
      rw [decide_eq_false h2] at e11
      clear hT h1 h2
      go_enter Tryd.func24, Tryd.ntmps24
      go_wp2_with fail
      go_ret
      exact ⟨rfl, HB.out⟩

theorem column_calls (w : World) {v : Value} {l : List SC} (h : Ce w v l) (j : Nat) (hj : j ≤ 1000000000000) (hl : l.length ≤ 1000000000000) : Calls Tryd.prog 29 #[v, .int .i64 j] w fun e w' => e = .returned (.bool ((view l).has j)) ∧ w = w' := by
  obtain ⟨ao, cp, rfl, h1, h2, -⟩ := h.val
  have hH : (view l).has j = decide ((j : Int) < (l.length : Int) - 1) := by
    unfold Ln.has view
    rw [decide_eq_decide]
    simp
    omega
  rw [hH]
  clear hH
  go_enter Tryd.func29, Tryd.ntmps29
  go_wp2_with fail
  go_ret
  exact ⟨rfl, rfl⟩

theorem shut_calls (w : World) {v : Value} {l : List SC} (h : Ce w v l) (hl : l.length ≤ 1000000000000) (hne : l ≠ []) : Calls Tryd.prog 18 #[v] w fun e w' => e = .returned (.bool (view l).shut) ∧ w = w' := by
  obtain ⟨ao, cp, rfl, h1, h2, h3, h4⟩ := h.val
  have hlen : 0 < l.length := List.length_pos_iff.2 hne
  obtain ⟨n, hn⟩ : ∃ n, l.length = n + 1 := ⟨l.length - 1, by omega⟩
  obtain ⟨ad, tv, rfl, c0, c1, c2, -⟩ := h4 n (by omega)
  have hsp := h3 ad rfl
  obtain ⟨k0, o0, sp⟩ := ad
  simp only at hsp c0 c1 c2
  subst hsp
  have hS : (view l).shut = decide (l[n].fin = 12) := by
    unfold view
    simp only [List.getLast?_eq_getElem?, hn, Nat.add_sub_cancel]
    rw [List.getElem?_eq_getElem (by omega)]
    simp only [Option.map_some, Option.getD_some]
    rw [Bool.eq_iff_iff]; simp
  rw [hS]
  have e12 := u8_eq (b := l[n].fin) (c := 12) (n := 12) rfl
  clear hS hne hlen h4
  generalize l[n] = x at c0 c1 c2 e12 ⊢
  rw [hn] at h1 hl ⊢
  clear hn
  have e2 : o0 + 3 * n + 2 = o0 + n * 3 + 2 := by omega
  rw [e2] at c2
  clear e2
  by_cases hx : x.fin = 12
  · rw [decide_eq_true hx] at e12 ⊢
    clear hx
    go_enter Tryd.func18, Tryd.ntmps18
    go_wp2_with fail
    go_ret
    exact ⟨rfl, rfl⟩
  · rw [decide_eq_false hx] at e12 ⊢
    clear hx
    go_enter Tryd.func18, Tryd.ntmps18
    go_wp2_with fail
    go_ret
    exact ⟨rfl, rfl⟩
end Go.Proofs.YteildpeogbenbaaDoor
