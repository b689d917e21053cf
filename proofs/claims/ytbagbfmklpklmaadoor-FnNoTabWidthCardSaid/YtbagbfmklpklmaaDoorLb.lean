/- Walks: the law FnTagAll. -/
import Derived.Test.YtbagbfmklpklmaaDoorSc
import Derived.Test.YtbagbfmklpklmaaDoorPa
namespace Go.Proofs.YtbagbfmklpklmaaDoor
open Go.RowKit Go.Tw Go.Sort
set_option maxRecDepth 100000

theorem wrap64_eq (n : Int) : IntKind.i64.wrap n = if n % 18446744073709551616 ≥ 9223372036854775808 then n % 18446744073709551616 - 18446744073709551616 else n % 18446744073709551616 := by
  simp [IntKind.wrap, IntKind.signed, IntKind.bits]
theorem or1_odd (x : Int) : bits BinOp.or IntKind.i64 x 1 % 2 = 1 := by
  have e : bits BinOp.or IntKind.i64 x 1 = IntKind.i64.wrap ((BitVec.ofInt 64 x ||| BitVec.ofInt 64 1).toNat : Int) := rfl
  have h : ((BitVec.ofInt 64 x ||| BitVec.ofInt 64 1).toNat) % 2 = 1 := by
    have h0 : (BitVec.ofInt 64 x ||| BitVec.ofInt 64 1).getLsbD 0 = true := by simp
    have h1 := BitVec.testBit_toNat (BitVec.ofInt 64 x ||| BitVec.ofInt 64 1) (i := 0)
    rw [h0, Nat.testBit_zero] at h1
    exact of_decide_eq_true h1
  rw [e, wrap64_eq]
  generalize (BitVec.ofInt 64 x ||| BitVec.ofInt 64 1).toNat = n at *
  split <;> omega
theorem odd_flag (f : Fin 64) (h : (f.val : Int) % 2 = 1) : (bits BinOp.and IntKind.i64 ((f.val : Nat) : Int) 1 != 0) = true := by
  revert f; decide

/-- A text is appended to a literal of one byte. -/
theorem run_append_lit1 (w : World) {x : Value} {bs : List UInt8} (hrd : Rd w x bs) (hb : bs.length ≤ 10000000000) (b : UInt8) (bi : Int) (hbi : bi = b.toNat) (ty : TypeId) :
    ∃ v' w', (Builtin.append_ #[26, 26] ty #[.slice (some ⟨w.heap.size, 0, none⟩) 1 1, x]).run Tryd.prog (w.alloc (.cells #[.int .u8 bi] 5)) = .ok v' w' ∧ Own (New w) w' 5 1 v' (1 + bs.length) (bvs (b :: bs)) ∧ Tch (New w) w w' := by
  subst hbi
  have h0 : Own (New w) (w.alloc (.cells #[.int .u8 b.toNat] 5)) 5 1 (.slice (some ⟨w.heap.size, 0, none⟩) 1 1) 1 (bvs [b]) :=
    ⟨⟨rfl, .inr ⟨w.heap.size, 1, #[.int .u8 b.toNat], rfl, Nat.zero_le _, heap_alloc_new w _, Nat.le_refl _, by simp [maxLen], rfl, rfl⟩⟩, fun g hg => by simp [Value.ownBlock] at hg; subst hg; exact Nat.le_refl _⟩
  have t0 : Tch (New w) w (w.alloc (.cells #[.int .u8 b.toNat] 5)) := Tch.alloc _ _ _
  obtain ⟨i0, hi, hz0, hz1, hz2⟩ := info_parts Tryd.info_u8
  obtain ⟨ao, cp, rfl, h1, h2, h3, h4, h5⟩ := hrd.val
  rcases ao with _ | ad
  · have hcp : cp = 0 := h3 rfl
    subst hcp
    have hbs : bs = [] := List.length_eq_zero_iff.1 (by omega)
    subst hbs
    have hr := run_append_owned_none (P := Tryd.prog) (w := w.alloc (.cells #[.int .u8 b.toNat] 5)) 0 26 ty 5 i0 1 Tryd.underlying26 hi _ 1 _ h0.row
    exact ⟨_, _, hr, h0, t0⟩
  · have hsp := h4 ad rfl
    obtain ⟨k, o, sp⟩ := ad
    simp only at hsp
    subst hsp
    have hcells : ∀ j (h : j < bs.length), (w.alloc (.cells #[.int .u8 b.toNat] 5)).cell? ⟨k, o + j, none⟩ = some (bv bs[j]) := fun j hj => by
      obtain ⟨ad, e, hc⟩ := h5 j hj
      cases e
      exact (Tch.alloc (fun _ => False) w _).cell hc id
    obtain ⟨v', w', hr, ho, hg, hblk, hnil⟩ := run_append_Own (P := Tryd.prog) (w.alloc (.cells #[.int .u8 b.toNat] 5)) (New w) 26 ty 5 i0 (.int .u8 0) 1 1 Tryd.underlying26 hi hz0 hz1 hz2 rfl (by decide) _ 1 _ h0 ⟨k, o, none⟩ bs.length cp (bvs bs) (by simp) (Rd.news hcells) (bvs_one bs) (by unfold maxLen; omega) (by omega) (fun k hk => by simp at hk; unfold New; omega)
    exact ⟨v', w', hr, ho, t0.trans (Tch.grown hg (fun k e => h0.mem k e))⟩


set_option maxHeartbeats 2000000 in
theorem tagAll_calls (w : World) (mn tb pd fl : Int) (ch : UInt8) {v : Value} {bs : List UInt8} (h : Rd w v bs) :
    Calls Tryd.prog 9 #[.agg #[.int .i64 mn, .int .i64 tb, .int .i64 pd, .int .u8 ch.toNat, .int .i64 fl], v] w fun e w' => e = .returned (.bool true) ∧ Below w.heap.size w w' := by
  have hb0 : Below w.heap.size w (w.alloc (.cells #[.int .i64 mn, .int .i64 tb, .int .i64 pd, .int .u8 ch.toNat, .int .i64 fl] 23)) := (Below.refl _ w).alloc (Nat.le_refl _) _
  have HB0 := Lib.hid hb0
  have hr0 := h.below hb0
  have HRD := Lib.hid hr0
  have hc0 : (w.alloc (.cells #[.int .i64 mn, .int .i64 tb, .int .i64 pd, .int .u8 ch.toNat, .int .i64 fl] 23)).heap[w.heap.size]? = some (.cells #[.int .i64 mn, .int .i64 tb, .int .i64 pd, .int .u8 ch.toNat, .int .i64 fl] 23 (0, 0)) := heap_alloc_new w _
  have HC0 := Lib.hid hc0
  obtain ⟨ao, cp, rfl, h1, h2, -⟩ := h.val
  have HRR := Lib.hid h
  unfold maxLen at h2
  clear hb0 hr0 hc0 h
  by_cases hl : bs.length ≤ 2147483647
  · have HWI := Lib.hid (with_calls (w.alloc (.cells #[.int .i64 mn, .int .i64 tb, .int .i64 pd, .int .u8 ch.toNat, .int .i64 fl] 23)) mn tb pd fl ch 1 true)
    obtain ⟨d0, d1, d2, d3, d4⟩ := conf_at HC0.out
    obtain ⟨g, hg⟩ : ∃ g, g = (if true = true then bits BinOp.or IntKind.i64 (bits BinOp.andNot IntKind.i64 fl 1) 1 else bits BinOp.andNot IntKind.i64 fl 1) := ⟨_, rfl⟩
    rw [← hg] at HWI
    have hodd : g % 2 = 1 := by rw [hg, if_pos rfl]; exact or1_odd _
    have HODD := Lib.hid hodd
    clear hg hodd
    go_enter Tryd.func9, Tryd.ntmps9
    go_wp2_with fail
    refine HWI.out.mono ?_
    rintro e w0 ⟨rfl, hbw⟩
    have hcw := (Tch.of_below (F := fun _ => False) hbw).heap HC0.out id
    have hbw2 : Below w.heap.size w w0 := HB0.out.trans (hbw.mono (by simp))
    have e1 := blk_set hcw 0 (.int .i64 mn)
    have e2 := blk_set e1 1 (.int .i64 tb)
    have e3 := blk_set e2 2 (.int .i64 pd)
    have e4 := blk_set e3 3 (.int .u8 ch.toNat)
    have e5 := blk_set e4 4 (.int .i64 g)
    have hb5 : Below w.heap.size w (((((w0.setCell ⟨w.heap.size, 0, none⟩ (.int .i64 mn)).setCell ⟨w.heap.size, 1, none⟩ (.int .i64 tb)).setCell ⟨w.heap.size, 2, none⟩ (.int .i64 pd)).setCell ⟨w.heap.size, 3, none⟩ (.int .u8 ch.toNat)).setCell ⟨w.heap.size, 4, none⟩ (.int .i64 g)) :=
      ((((hbw2.setCell (Nat.le_refl _) _).setCell (Nat.le_refl _) _).setCell (Nat.le_refl _) _).setCell (Nat.le_refl _) _).setCell (Nat.le_refl _) _
    have HE5 := Lib.hid e5
    have HB5 := Lib.hid hb5
    obtain ⟨c0, c1, c2, c3, c4⟩ := conf_at hcw
    have f0 := frozen_of_blk hcw 0
    have f1 := frozen_of_blk hcw 1
    have f2 := frozen_of_blk hcw 2
    have f3 := frozen_of_blk hcw 3
    have f4 := frozen_of_blk hcw 4
    clear hbw hcw hbw2 e1 e2 e3 e4 e5 hb5 HWI d0 d1 d2 d3 d4
    go_wp2_with fail
    have HR5 := Lib.hid (HRR.out.below HB5.out)
    clear c0 c1 c2 c3 c4 f0 f1 f2 f3 f4 HB0 HRD HRR HC0
    revert HE5 HB5 HR5
    generalize (((((w0.setCell ⟨w.heap.size, 0, none⟩ (.int .i64 mn)).setCell ⟨w.heap.size, 1, none⟩ (.int .i64 tb)).setCell ⟨w.heap.size, 2, none⟩ (.int .i64 pd)).setCell ⟨w.heap.size, 3, none⟩ (.int .u8 ch.toNat)).setCell ⟨w.heap.size, 4, none⟩ (.int .i64 g)) = w1
    intro HE5 HB5 HR5
    refine (without_calls w1 HR5.out 62 (by omega)).mono ?_
    rintro e w2 ⟨v2, rfl, hr2, hb2⟩
    obtain ⟨a2, p2, rfl, q1, q2, -⟩ := hr2.val
    have hfl : (bs.filter (· != 62)).length ≤ bs.length := List.length_filter_le _ _
    have HR2 := Lib.hid hr2
    have HB2 := Lib.hid (HB5.out.trans (hb2.mono HB5.out.size))
    have HE2 := Lib.hid ((Tch.of_below (F := fun _ => False) hb2).heap (show w1.heap[w.heap.size]? = some (.cells #[.int .i64 mn, .int .i64 tb, .int .i64 pd, .int .u8 ch.toNat, .int .i64 g] 23 (0, 0)) by simpa using HE5.out) id)
    clear hr2 hb2 q1 q2
    go_wp2_with fail
    refine (without_calls w2 HR2.out 255 (by omega)).mono ?_
    rintro e w3 ⟨v3, rfl, hr3, hb3⟩
    obtain ⟨xs, hxs⟩ : ∃ xs, xs = (bs.filter (· != 62)).filter (· != 255) := ⟨_, rfl⟩
    rw [← hxs] at hr3
    have hno : ∀ b ∈ xs, b ≠ 62 := by rw [hxs]; intro b hb; simpa using (List.mem_filter.1 (List.mem_filter.1 hb).1).2
    have HNO := Lib.hid hno
    obtain ⟨a3, p3, rfl, q1, q2, -⟩ := hr3.val
    have HR3 := Lib.hid hr3
    have HB3 := Lib.hid (HB2.out.trans (hb3.mono HB2.out.size))
    have HE3 := Lib.hid ((Tch.of_below (F := fun _ => False) hb3).heap HE2.out id)
    clear hr3 hb3 q1 q2 hxs hno HR2 HB2 HE2 HR5 HB5 HE5 hfl
    obtain ⟨d0, d1, d2, d3, d4⟩ := conf_at HE3.out
    have hV := valid_calls w3 mn tb pd g ch
    by_cases hv : Vld mn tb pd g
    · rw [decide_eq_true hv] at hV
      have HV := Lib.hid hV
      have HVV := Lib.hid hv
      clear hV hv
      go_wp2_with fail
      refine HV.out.mono ?_
      rintro e w4 ⟨rfl, hb4⟩
      have HR4 := Lib.hid (HR3.out.below hb4)
      have HC4 := Lib.hid ((Tch.of_below (F := fun _ => False) hb4).heap HE3.out id)
      have HB4 := Lib.hid (HB3.out.trans (hb4.mono HB3.out.size))
      clear hb4 HV HR3 HE3 HB3 d0 d1 d2 d3 d4
      have hS := small_calls w4 HR4.out
      by_cases hs : xs.length ≤ 3000
      · rw [decide_eq_true hs] at hS
        have HS := Lib.hid hS
        clear hS
        go_wp2_with fail
        refine HS.out.mono ?_
        rintro e w5 ⟨rfl, rfl⟩
        clear HS
        have HVN := Lib.hid (show ∃ (m t p : Nat) (f : Fin 64), mn = m ∧ tb = t ∧ pd = p ∧ g = (f.val : Nat) ∧ m ≤ 1000 ∧ t ≤ 1000 ∧ p ≤ 1000 by
          have hv := HVV.out
          unfold Vld at hv
          exact ⟨mn.toNat, tb.toNat, pd.toNat, ⟨g.toNat, by omega⟩, by omega, by omega, by omega, by simp; omega, by omega, by omega, by omega⟩)
        obtain ⟨m, t, p, f, rfl, rfl, rfl, rfl, l1, l2, l3⟩ := HVN.out
        clear HVN HVV
        obtain ⟨v6, w6, hrun6, hown6, t6⟩ := run_append_lit1 w4 HR4.out (by omega) 60 60 rfl 26
        obtain ⟨v7, w7, hrun7, hown7, t7, -, -⟩ := run_append_one (F := New w4) (fun k hk => Nat.le_trans t6.size hk) hown6 62 (by omega) 26
        obtain ⟨n7, hn7⟩ : ∃ n7, n7 = 1 + xs.length + 1 := ⟨_, rfl⟩
        rw [← hn7] at hown7
        clear hn7
        obtain ⟨a7, c7, rfl⟩ := hown7.shape
        have HRUN6 := Lib.hid hrun6
        have HRUN7 := Lib.hid (show (Builtin.append_ #[26, 26] 26 #[v6, .slice (some ⟨w6.heap.size, 0, none⟩) 1 1]).run Tryd.prog (w6.alloc (.cells #[.int .u8 62] 5)) = .ok (.slice a7 n7 c7) w7 from hrun7)
        have hb7 := New.below (t6.trans t7)
        have hr7 : Rd w7 (.slice a7 n7 c7) (60 :: xs ++ [62]) := by
          have := hown7
          rw [show bvs (60 :: xs) ++ [bv 62] = bvs (60 :: xs ++ [62]) by rw [bvs_append]; rfl] at this
          exact Own.rd this
        have HR7 := Lib.hid hr7
        have HC7 := Lib.hid ((Tch.of_below (F := fun _ => False) hb7).heap HC4.out id)
        have HB7 := Lib.hid (HB4.out.trans (hb7.mono HB4.out.size))
        obtain ⟨d0, d1, d2, d3, d4⟩ := conf_at HC7.out
        have hW := implWrite_calls (w := w7.alloc (.cells #[.slice a7 n7 c7] 26)) m t p f.val ch l1 l2 l3 f.isLt (Wrs.one w7 HR7.out) (by simp; omega)
        have hf1 : (cfgOf m t p f.val ch).flag 1 = true := by rw [flag_cfg f m t p ch 1 (by simp)]; exact odd_flag f HODD.out
        have hout := out_tag (c := cfgOf m t p f.val ch) xs HNO.out hf1
        have hfl1 : [60 :: xs ++ [62]].flatten = 60 :: xs ++ [62] := by simp
        have hcf : (⟨m, t, p, ch, keepFl ch f.val, -1⟩ : Cfg) = cfgOf m t p f.val ch := rfl
        rw [hfl1, hcf, hout] at hW
        have HW := Lib.hid hW
        have hba : Below w7.heap.size w7 (w7.alloc (.cells #[.slice a7 n7 c7] 26)) := (Below.refl _ w7).alloc (Nat.le_refl _) _
        have HBA := Lib.hid hba
        clear hW hout hfl1 hcf hf1 hba hrun6 hown6 t6 hrun7 hown7 t7 hb7 hr7 HC4 HB4 HR4
        go_wp2_with (first | (at_builtin; refine wpList_append_eq rfl (.tmp 22) (.tmp 23) 26 rfl rfl rfl HRUN6.out ?_) | (at_builtin; refine wpList_append_eq rfl (.tmp 24) (.tmp 25) 26 rfl rfl rfl HRUN7.out ?_))
        refine HW.out.mono ?_
        rintro e w8 ⟨v8, rfl, hr8, hb8⟩
        have hb78 := HBA.out.trans (hb8.mono HBA.out.size)
        have hSm := same_calls w8 hr8 (HR7.out.below hb78)
        rw [decide_eq_true rfl] at hSm
        have HSM := Lib.hid hSm
        have HB8 := Lib.hid (HB7.out.trans (hb78.mono HB7.out.size))
        clear hr8 hb8 hb78 hSm
        go_wp2_with fail
        refine HSM.out.mono ?_
        rintro e w9 ⟨rfl, rfl⟩
        go_wp2_with fail
        go_ret
        exact ⟨rfl, HB8.out⟩
      · rw [decide_eq_false hs] at hS
        have HS := Lib.hid hS
        clear hS hs
        go_wp2_with fail
        refine HS.out.mono ?_
        rintro e w5 ⟨rfl, rfl⟩
        go_wp2_with fail
        go_ret
        exact ⟨rfl, HB4.out⟩
    · rw [decide_eq_false hv] at hV
      have HV := Lib.hid hV
      clear hV hv
      go_wp2_with fail
      refine HV.out.mono ?_
      rintro e w4 ⟨rfl, hb4⟩
      have HB4 := Lib.hid (HB3.out.trans (hb4.mono HB3.out.size))
      clear hb4
      go_wp2_with fail
      go_ret
      exact ⟨rfl, HB4.out⟩
  · go_enter Tryd.func9, Tryd.ntmps9
    go_wp2_with fail
    go_ret
    exact ⟨rfl, HB0.out⟩
end Go.Proofs.YtbagbfmklpklmaaDoor
