/- Walks: the law FnEscapedAll. -/
import Derived.Test.YtbagbfmklpklmaaDoorPa
namespace Go.Proofs.YtbagbfmklpklmaaDoor
open Go.RowKit Go.Tw Go.Sort
set_option maxRecDepth 100000

/-- A text is appended to a literal of one byte. -/
theorem run_append_lit (w : World) {x : Value} {bs : List UInt8} (hrd : Rd w x bs) (hb : bs.length ≤ 10000000000000) (b : UInt8) (bi : Int) (hbi : bi = b.toNat) (ty : TypeId) :
    ∃ v' w', (Builtin.append_ #[26, 26] ty #[.slice (some ⟨w.heap.size, 0, none⟩) 1 1, x]).run Tryd.prog (w.alloc (.cells #[.int .u8 bi] 5)) = .ok v' w' ∧ Own (New w) w' 5 1 v' (1 + bs.length) (bvs (b :: bs)) ∧ Tch (New w) w w' := by
  subst hbi
  have h0 : Own (New w) (w.alloc (.cells #[.int .u8 b.toNat] 5)) 5 1 (.slice (some ⟨w.heap.size, 0, none⟩) 1 1) 1 [bv b] :=
    ⟨⟨rfl, .inr ⟨w.heap.size, 1, #[.int .u8 b.toNat], rfl, Nat.zero_le _, heap_alloc_new w _, Nat.le_refl _, by simp [maxLen], rfl, rfl⟩⟩, fun g hg => by simp [Value.ownBlock] at hg; subst hg; exact Nat.le_refl _⟩
  have t0 : Tch (New w) w (w.alloc (.cells #[.int .u8 b.toNat] 5)) := Tch.alloc _ _ _
  obtain ⟨i0, hi, hz0, hz1, hz2⟩ := info_parts Tryd.info_u8
  obtain ⟨ao, cp, rfl, h1, h2, h3, h4, h5⟩ := hrd.val
  rcases ao with _ | ad
  · have hcp : cp = 0 := h3 rfl
    subst hcp
    have hbs : bs = [] := List.length_eq_zero_iff.1 (by omega)
    subst hbs
    have hr := run_append_owned_none (P := Tryd.prog) (w := w.alloc (.cells #[.int .u8 b.toNat] 5)) 0 26 ty 5 i0 1 Tryd.underlying26 hi _ 1 _ h0.row
    exact ⟨_, _, hr, h0, t0⟩
  · have hsp := h4 ad rfl
    obtain ⟨k, o, sp⟩ := ad
    simp only at hsp
    subst hsp
    have hcells : ∀ j (h : j < bs.length), (w.alloc (.cells #[.int .u8 b.toNat] 5)).cell? ⟨k, o + j, none⟩ = some (bv bs[j]) := fun j hj => by
      obtain ⟨ad, e, hc⟩ := h5 j hj
      cases e
      exact (Tch.alloc (fun _ => False) w _).cell hc id
    obtain ⟨v', w', hr, ho, hg, hblk, hnil⟩ := run_append_Own (P := Tryd.prog) (w.alloc (.cells #[.int .u8 b.toNat] 5)) (New w) 26 ty 5 i0 (.int .u8 0) 1 1 Tryd.underlying26 hi hz0 hz1 hz2 rfl (by decide) _ 1 [bv b] h0 ⟨k, o, none⟩ bs.length cp (bvs bs) (by simp) (Rd.news hcells) (bvs_one bs) (by unfold maxLen; omega) (by omega) (fun k hk => by simp at hk; unfold New; omega)
    exact ⟨v', w', hr, ho, t0.trans (Tch.grown hg (fun k e => h0.mem k e))⟩

/-- One text as writes. -/
theorem Wrs.one (w : World) {u : Value} {bs : List UInt8} (h : Rd w u bs) : Wrs (w.alloc (.cells #[u] 26)) (.slice (some ⟨w.heap.size, 0, none⟩) 1 1) [bs] := by
  refine ⟨_, _, rfl, by simp, fun j hj => ?_⟩
  have : j = 0 := by simp at hj; omega
  subst this
  exact ⟨_, u, rfl, rfl, cell_of_blk (heap_alloc_new w _) 0, h.below ((Below.refl _ w).alloc (Nat.le_refl _) _)⟩

theorem flag_of (fl : Fin 64) (ch : UInt8) (mn tb pd : Nat) (room : Int) : (Cfg.mk mn tb pd ch (keepFl ch fl.val) room).flag 2 = (bits BinOp.and IntKind.i64 ((fl.val : Nat) : Int) 2 != 0) := by
  unfold Cfg.flag keepFl
  by_cases h : ch = 9
  · simp only [h, if_true]
    revert fl
    decide
  · simp only [h, if_false]
    revert fl
    decide

theorem conf_cells {w : World} {k : Nat} {a b c d e : Value} {t : TypeId} (h : w.heap[k]? = some (.cells #[a, b, c, d, e] t (0, 0))) : w.cell? ⟨k, 0, none⟩ = some a ∧ w.cell? ⟨k, 1, none⟩ = some b ∧ w.cell? ⟨k, 2, none⟩ = some c ∧ w.cell? ⟨k, 3, none⟩ = some d ∧ w.cell? ⟨k, 4, none⟩ = some e :=
  ⟨cell_of_blk h 0, cell_of_blk h 1, cell_of_blk h 2, cell_of_blk h 3, cell_of_blk h 4⟩

set_option maxHeartbeats 2000000 in
theorem escapedAll_calls (w : World) (mn tb pd fl : Int) (ch : UInt8) {v : Value} {bs : List UInt8} (h : Rd w v bs) :
    Calls Tryd.prog 4 #[.agg #[.int .i64 mn, .int .i64 tb, .int .i64 pd, .int .u8 ch.toNat, .int .i64 fl], v] w fun e w' => e = .returned (.bool true) ∧ Below w.heap.size w w' := by
  have hb0 : Below w.heap.size w (w.alloc (.cells #[.int .i64 mn, .int .i64 tb, .int .i64 pd, .int .u8 ch.toNat, .int .i64 fl] 23)) := (Below.refl _ w).alloc (Nat.le_refl _) _
  have HB0 := Lib.hid hb0
  have hr0 := h.below hb0
  have HRD := Lib.hid hr0
  have hc0 : (w.alloc (.cells #[.int .i64 mn, .int .i64 tb, .int .i64 pd, .int .u8 ch.toNat, .int .i64 fl] 23)).heap[w.heap.size]? = some (.cells #[.int .i64 mn, .int .i64 tb, .int .i64 pd, .int .u8 ch.toNat, .int .i64 fl] 23 (0, 0)) := heap_alloc_new w _
  have HC0 := Lib.hid hc0
  obtain ⟨ao, cp, rfl, h1, h2, -⟩ := h.val
  unfold maxLen at h2
  clear hb0 hr0 hc0 h
  by_cases hl : bs.length ≤ 2147483647
  · have HN := Lib.hid (show Calls Tryd.prog 18 #[.slice ao bs.length cp, .int .u8 255] _ _ from without_calls _ HRD.out 255 (by omega))
    obtain ⟨xs, hxs⟩ : ∃ xs, xs = bs.filter (· != 255) := ⟨_, rfl⟩
    rw [← hxs] at HN
    have hno : ∀ b ∈ xs, b ≠ 255 := by rw [hxs]; intro b hb; simpa using (List.mem_filter.1 hb).2
    have HNO := Lib.hid hno
    clear hxs hno
    go_enter Tryd.func4, Tryd.ntmps4
    go_wp2_with fail
    refine HN.out.mono ?_
    rintro e w1 ⟨v1, rfl, hr1, hb1⟩
    have HR1 := Lib.hid hr1
    have HC1 := Lib.hid ((Tch.of_below (F := fun _ => False) hb1).heap HC0.out id)
    have HBB := Lib.hid (HB0.out.trans (hb1.mono (by simp)))
    clear hr1 hb1 HC0 HB0 HRD HN
    obtain ⟨d0, d1, d2, d3, d4⟩ := conf_cells HC1.out
    have hV := valid_calls w1 mn tb pd fl ch
    by_cases hv : Vld mn tb pd fl
    · rw [decide_eq_true hv] at hV
      have HV := Lib.hid hV
      have HVV := Lib.hid hv
      clear hV hv
      go_wp2_with fail
      refine HV.out.mono ?_
      rintro e w2 ⟨rfl, hb2⟩
      have HR2 := Lib.hid (HR1.out.below hb2)
      have HC2 := Lib.hid ((Tch.of_below (F := fun _ => False) hb2).heap HC1.out id)
      have HB2 := Lib.hid (HBB.out.trans (hb2.mono HBB.out.size))
      clear hb2 HV HR1 HC1 HBB d0 d1 d2 d3 d4
      have hS := small_calls w2 HR2.out
      by_cases hs : xs.length ≤ 3000
      · rw [decide_eq_true hs] at hS
        have HS := Lib.hid hS
        clear hS
        go_wp2_with fail
        refine HS.out.mono ?_
        rintro e w3 ⟨rfl, rfl⟩
        clear HS
        have HVN := Lib.hid (show ∃ m t p f : Nat, mn = m ∧ tb = t ∧ pd = p ∧ fl = f ∧ m ≤ 1000 ∧ t ≤ 1000 ∧ p ≤ 1000 ∧ f < 64 by
          have hv := HVV.out
          unfold Vld at hv
          exact ⟨mn.toNat, tb.toNat, pd.toNat, fl.toNat, by omega, by omega, by omega, by omega, by omega, by omega, by omega, by omega⟩)
        obtain ⟨m, t, p, f, rfl, rfl, rfl, rfl, l1, l2, l3, l4⟩ := HVN.out
        clear HVN HVV
        obtain ⟨v3, w3, hrun3, hown3, t3⟩ := run_append_lit w2 HR2.out (by omega) 255 255 rfl 26
        obtain ⟨v4, w4, hrun4, hown4, t4, -, -⟩ := run_append_one (F := New w2) (fun k hk => Nat.le_trans t3.size hk) hown3 255 (by omega) 26
        obtain ⟨n4, hn4⟩ : ∃ n4, n4 = 1 + xs.length + 1 := ⟨_, rfl⟩
        rw [← hn4] at hown4
        clear hn4
        obtain ⟨a4, c4, rfl⟩ := hown4.shape
        have HRUN3 := Lib.hid hrun3
        have HRUN4 := Lib.hid (show (Builtin.append_ #[26, 26] 26 #[v3, .slice (some ⟨w3.heap.size, 0, none⟩) 1 1]).run Tryd.prog (w3.alloc (.cells #[.int .u8 255] 5)) = .ok (.slice a4 n4 c4) w4 from hrun4)
        have hb4 := New.below (t3.trans t4)
        have hr4 : Rd w4 (.slice a4 n4 c4) (255 :: xs ++ [255]) := by
          have := hown4
          rw [show bvs (255 :: xs) ++ [bv 255] = bvs (255 :: xs ++ [255]) by rw [bvs_append]; rfl] at this
          exact Own.rd this
        have HR4 := Lib.hid hr4
        have HX4 := Lib.hid (HR2.out.below hb4)
        have HC4 := Lib.hid ((Tch.of_below (F := fun _ => False) hb4).heap HC2.out id)
        have HB4 := Lib.hid (HB2.out.trans (hb4.mono HB2.out.size))
        obtain ⟨d0, d1, d2, d3, d4⟩ := conf_cells HC4.out
        clear hrun3 hown3 t3 hrun4 hown4 t4 hb4 hr4 HC2 HB2 HR2
        have hH := has_calls w4 m t p f ch 2
        have hflag := flag_of ⟨f, l4⟩ ch m t p (-1)
        simp only at hflag
        generalize hsb : (bits BinOp.and IntKind.i64 (f : Int) 2 != 0) = sb at hH hflag
        have HH := Lib.hid hH
        have HFL := Lib.hid hflag
        clear hH hflag hsb
        go_wp2_with (first | (at_builtin; refine wpList_append_eq rfl (.tmp 20) (.tmp 21) 26 rfl rfl rfl HRUN3.out ?_) | (at_builtin; refine wpList_append_eq rfl (.tmp 22) (.tmp 23) 26 rfl rfl rfl HRUN4.out ?_))
        refine HH.out.mono ?_
        rintro e w5 ⟨rfl, hb5⟩
        have HR5 := Lib.hid (HR4.out.below hb5)
        have HX5 := Lib.hid (HX4.out.below hb5)
        have HC5 := Lib.hid ((Tch.of_below (F := fun _ => False) hb5).heap HC4.out id)
        have HB5 := Lib.hid (HB4.out.trans (hb5.mono HB4.out.size))
        clear hb5 HR4 HX4 HC4 HB4 d0 d1 d2 d3 d4 HRUN3 HRUN4 HH
        obtain ⟨d0, d1, d2, d3, d4⟩ := conf_cells HC5.out
        have hW := implWrite_calls (w := w5.alloc (.cells #[.slice a4 n4 c4] 26)) m t p f ch l1 l2 l3 l4 (Wrs.one w5 HR5.out) (by simp; omega)
        have hout := out_escaped (c := ⟨m, t, p, ch, keepFl ch f, -1⟩) xs HNO.out
        rw [HFL.out] at hout
        have hfl1 : [255 :: xs ++ [255]].flatten = 255 :: xs ++ [255] := by simp
        rw [hfl1, hout] at hW
        have HW := Lib.hid hW
        clear hW hout hfl1 HFL
        have hba : Below w5.heap.size w5 (w5.alloc (.cells #[.slice a4 n4 c4] 26)) := (Below.refl _ w5).alloc (Nat.le_refl _) _
        have HBA := Lib.hid hba
        clear hba
        cases sb
        · go_wp2_with fail
          refine HW.out.mono ?_
          rintro e w6 ⟨v6, rfl, hr6, hb6⟩
          have hb56 := HBA.out.trans (hb6.mono HBA.out.size)
          have hR := HR5.out.below hb56
          have hSm := same_calls w6 hr6 hR
          rw [if_neg (by decide), decide_eq_true rfl] at hSm
          have HSM := Lib.hid hSm
          have HB6 := Lib.hid (HB5.out.trans (hb56.mono HB5.out.size))
          clear hr6 hb6 hb56 hR hSm
          go_wp2_with fail
          refine HSM.out.mono ?_
          rintro e w7 ⟨rfl, rfl⟩
          go_wp2_with fail
          go_ret
          exact ⟨rfl, HB6.out⟩
        · go_wp2_with fail
          refine HW.out.mono ?_
          rintro e w6 ⟨v6, rfl, hr6, hb6⟩
          have hb56 := HBA.out.trans (hb6.mono HBA.out.size)
          have hR := HX5.out.below hb56
          have hSm := same_calls w6 hr6 hR
          rw [if_pos (by first | trivial | rfl), decide_eq_true rfl] at hSm
          have HSM := Lib.hid hSm
          have HB6 := Lib.hid (HB5.out.trans (hb56.mono HB5.out.size))
          clear hr6 hb6 hb56 hR hSm
          go_wp2_with fail
          refine HSM.out.mono ?_
          rintro e w7 ⟨rfl, rfl⟩
          go_wp2_with fail
          go_ret
          exact ⟨rfl, HB6.out⟩
      · rw [decide_eq_false hs] at hS
        have HS := Lib.hid hS
        clear hS hs
        go_wp2_with fail
        refine HS.out.mono ?_
        rintro e w3 ⟨rfl, rfl⟩
        go_wp2_with fail
        go_ret
        exact ⟨rfl, HB2.out⟩
    · rw [decide_eq_false hv] at hV
      have HV := Lib.hid hV
      clear hV hv
      go_wp2_with fail
      refine HV.out.mono ?_
      rintro e w2 ⟨rfl, hb2⟩
      have HB2 := Lib.hid (HBB.out.trans (hb2.mono HBB.out.size))
      clear hb2
      go_wp2_with fail
      go_ret
      exact ⟨rfl, HB2.out⟩
  · go_enter Tryd.func4, Tryd.ntmps4
    go_wp2_with fail
    go_ret
    exact ⟨rfl, HB0.out⟩
end Go.Proofs.YtbagbfmklpklmaaDoor
