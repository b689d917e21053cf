/- Walks: spec.line. -/
import Derived.Test.YteildpeogbenbaaDoorSm
import Derived.Deep.CutRange
import Derived.Deep.CutBlock
import Derived.Deep.DeepCutAuto
namespace Go.Proofs.YteildpeogbenbaaDoor
open Go.RowKit Go.Tw Go.Sort
set_option maxRecDepth 100000

/-- Within a round: what has been written, and the cell's copy in block X. -/
structure LSt (base : World) (X : Nat) (cs : Array Value) (t7 : Value) (pre : List UInt8) (wx : World) : Prop where
  own : Own (New base) wx 5 1 t7 pre.length (bvs pre)
  tch : Tch (New base) base wx
  blk : wx.heap[X]? = some (.cells cs 55 (0, 0))
section
variable {base wx : World} {X : Nat} {cs : Array Value} {t7 : Value} {pre : List UInt8}
theorem LSt.kept {w' : World} (h : LSt base X cs t7 pre wx) (t : Tch (fun _ => False) wx w') : LSt base X cs t7 pre w' :=
  ⟨h.own.kept t (fun _ _ => id), h.tch.trans (t.mono (fun _ h => h.elim)), t.heap h.blk id⟩
theorem LSt.below {w' : World} (h : LSt base X cs t7 pre wx) (t : Below wx.heap.size wx w') : LSt base X cs t7 pre w' := h.kept (Tch.of_below t)
/-- Bytes are written. -/
theorem LSt.add (h : LSt base X cs t7 pre wx) {v : Value} {bs : List UInt8} (hrd : Rd wx v bs) (hb : pre.length + bs.length ≤ 10000000000000) (ty : TypeId) :
    ∃ ao n cp w', (Builtin.append_ #[26, 26] ty #[t7, v]).run Tryd.prog wx = .ok (.slice ao n cp) w' ∧ LSt base X cs (.slice ao n cp) (pre ++ bs) w' ∧ Tch (fun k => t7.ownBlock = some k) wx w' := by
  obtain ⟨v', w', hr, ho, ht, _⟩ := run_append_rd (F := New base) (fun k hk => Nat.le_trans h.tch.size hk) h.own hrd (by omega) ty
  rw [← List.length_append] at ho
  obtain ⟨ao, cp, rfl⟩ := ho.shape
  refine ⟨ao, _, cp, w', hr, ⟨ho, h.tch.trans (ht.mono (fun g e => h.own.mem g e)), ht.heap h.blk (fun e => ?_)⟩, ht⟩
  obtain ⟨cur, hh⟩ := h.own.block e
  exact absurd (Kind.ne ⟨_, _, hh⟩ ⟨_, _, h.blk⟩) (by decide)
theorem LSt.one (h : LSt base X cs t7 pre wx) (b : UInt8) (bi : Int) (hbi : bi = b.toNat) (hb : pre.length ≤ 9000000000000) (ty : TypeId) :
    ∃ ao n cp w', (Builtin.append_ #[26, 26] ty #[t7, .slice (some ⟨wx.heap.size, 0, none⟩) 1 1]).run Tryd.prog (wx.alloc (.cells #[.int .u8 bi] 5)) = .ok (.slice ao n cp) w' ∧ LSt base X cs (.slice ao n cp) (pre ++ [b]) w' := by
  subst hbi
  obtain ⟨v', w', hr, ho, ht, hg, _⟩ := run_append_one (F := New base) (fun k hk => Nat.le_trans h.tch.size hk) h.own b (by omega) ty
  have e1 : pre.length + 1 = (pre ++ [b]).length := by simp
  have e2 : bvs pre ++ [bv b] = bvs (pre ++ [b]) := by rw [bvs_append]; rfl
  rw [e1, e2] at ho
  obtain ⟨ao, cp, rfl⟩ := ho.shape
  have ta : Tch (fun k => t7.ownBlock = some k) wx w' := (Tch.alloc _ _ _).trans (Tch.grown hg (fun k e => e))
  refine ⟨ao, _, cp, w', hr, ho, h.tch.trans ht, ta.heap h.blk (fun e => ?_)⟩
  obtain ⟨cur, hh⟩ := h.own.block e
  exact absurd (Kind.ne ⟨_, _, hh⟩ ⟨_, _, h.blk⟩) (by decide)
end
theorem texts_mem {l : List SC} {x : SC} (h : x ∈ l) : x.text.length ≤ (texts l).length := by
  induction l with
  | nil => simp at h
  | cons y l ih =>
    rw [texts_cons, List.length_append]
    rcases List.mem_cons.1 h with rfl | h
    · omega
    · have := ih h; omega
/-- The padding at hand. -/
def PadAt (base : World) (X : Nat) (cs : Array Value) (t7 : Value) (pre pad : List UInt8) (t12 : Value) (wx : World) : Prop := LSt base X cs t7 pre wx ∧ Rd wx t12 pad ∧ ∀ g, t12.ownBlock = some g → t7.ownBlock ≠ some g

set_option maxHeartbeats 8000000 in
theorem line_calls (w : World) (m t p f : Nat) (hf : f < 64) (ch : UInt8) {v : Value} {LL : List (List SC)} (h : Lz w v LL) (hfit : FitT LL) (hm : m ≤ 1000) (ht : t ≤ 1000) (hp : p ≤ 1000) {i : Nat} {l : List SC} (hi : LL[i]? = some l) :
    Calls Tryd.prog 17 #[.agg #[.int .i64 m, .int .i64 t, .int .i64 p, .int .u8 ch.toNat, .int .i64 f], v, .int .i64 i] w (RdPost w (lineO (cfgOf m t p f ch) (Wd (cfgOf m t p f ch) (LL.map view) i) (view l))) := by
  obtain ⟨w1, hw1⟩ : ∃ w1, w1 = w.alloc (.cells #[.int .i64 m, .int .i64 t, .int .i64 p, .int .u8 ch.toNat, .int .i64 f] 23) := ⟨_, rfl⟩
  have hb0 : Below w.heap.size w w1 := hw1 ▸ (Below.refl _ w).alloc (Nat.le_refl _) _
  have hc0 : w1.heap[w.heap.size]? = some (.cells #[.int .i64 m, .int .i64 t, .int .i64 p, .int .u8 ch.toNat, .int .i64 f] 23 (0, 0)) := hw1 ▸ heap_alloc_new w _
  have hmem := List.mem_of_getElem? hi
  have hne := hfit.ne l hmem
  have hle := hfit.each l hmem
  have hlen := hfit.len
  have hil := (List.getElem?_eq_some_iff.1 hi).1
  obtain ⟨c, hc⟩ : ∃ c, c = cfgOf m t p f ch := ⟨_, rfl⟩
  have hcc : c.mn = m ∧ c.pd = p ∧ c.tb = t := by rw [hc]; exact ⟨rfl, rfl, rfl⟩
  rw [← hc, lineO_lnGo c _ hne]
  obtain ⟨fw, hfw⟩ : ∃ fw, fw = Wd c (LL.map view) i := ⟨_, rfl⟩
  have hfwl : ∀ j, fw j ≤ 1001000 := fun j => by rw [hfw]; exact cW_le hfit.toFit (by omega) (by omega) _ (fun ln hln => by obtain ⟨l, hl, rfl⟩ := List.mem_map.1 hln; exact ⟨l, hl, rfl⟩) i j
  rw [← hfw]
  obtain ⟨total, htot⟩ : ∃ total, total = lnGo c fw l.length 0 (c.flag 16) l := ⟨_, rfl⟩
  have htl : total.length ≤ 2000000000000 := by
    have h1 := lnGo_len (c := c) hfwl (by omega) l.length l 0 (c.flag 16)
    have h2 := hfit.txt l hmem
    have h3 : l.length * 1004000 ≤ 1000000 * 1004000 := Nat.mul_le_mul_right _ hle
    rw [htot]; omega
  have h16 := has_flag w1 m t p f hf ch 16 (by simp)
  have h4 : ∀ w', Calls Tryd.prog 12 #[.agg #[.int .i64 m, .int .i64 t, .int .i64 p, .int .u8 ch.toNat, .int .i64 f], .int .i64 4] w' fun e w'' => e = .returned (.bool (bits BinOp.and IntKind.i64 (f : Int) 4 != 0)) ∧ Below w'.heap.size w' w'' := fun w' => has_calls w' m t p f ch 4
  have hfl4 := flag_right ⟨f, hf⟩ m t p ch
  have h32 : ∀ w', Calls Tryd.prog 12 #[.agg #[.int .i64 m, .int .i64 t, .int .i64 p, .int .u8 ch.toNat, .int .i64 f], .int .i64 32] w' fun e w'' => e = .returned (.bool (c.flag 32)) ∧ Below w'.heap.size w' w'' := fun w' => by rw [hc]; exact has_flag w' m t p f hf ch 32 (by simp)
  simp only at hfl4
  rw [← hc] at h16 hfl4
  have hwid : ∀ w' {v' : Value}, Lz w' v' LL → ∀ j, (view l).has j = true → Calls Tryd.prog 30 #[.agg #[.int .i64 m, .int .i64 t, .int .i64 p, .int .u8 ch.toNat, .int .i64 f], v', .int .i64 i, .int .i64 j] w' (WdPost w' (fw j)) := fun w' v' h' j hj => by rw [hfw, hc]; exact width_calls w' m t p f hf ch h' hfit.toFit hm hp hi hj
  have hpad : ∀ w' (tw cl : Nat) (ut : Bool), tw ≤ 1000000000000 → cl ≤ 1000000000000 → Calls Tryd.prog 31 #[.agg #[.int .i64 m, .int .i64 t, .int .i64 p, .int .u8 ch.toNat, .int .i64 f], .int .i64 tw, .int .i64 cl, .bool ut] w' (RdNew w' (padB c tw cl ut)) := fun w' tw cl ut h1 h2 => by rw [hc]; exact padding_calls w' m t p f ch tw cl ut h1 h2 ht
  have hlz := h.below hb0
  obtain ⟨ao, cp, rfl, g1, g2, g3, g4⟩ := hlz.val
  obtain ⟨ad, lv0, rfl, -, -⟩ := g4 i hil
  have hsp := g3 ad rfl
  obtain ⟨k0, o0, sp⟩ := ad
  simp only at hsp
  subst hsp
  obtain ⟨d0, d1, d2, d3, d4⟩ := conf_at hc0
  have HFIT := Lib.hid hfit
  have HTOT := Lib.hid htot
  have HTL := Lib.hid htl
  have HFWL := Lib.hid hfwl
  have HTB := Lib.hid (show c.tb ≤ 1000 by omega)
  have H16 := Lib.hid h16
  have H4 := Lib.hid h4
  have HFL4 := Lib.hid hfl4
  have H32 := Lib.hid h32
  have HWID := Lib.hid hwid
  have HPAD := Lib.hid hpad
  have HLZ := Lib.hid hlz
  have HI := Lib.hid hi
  have HMEM := Lib.hid hmem
  have HB0 := Lib.hid hb0
  have HC0 := Lib.hid hc0
  rw [← htot]
  rw [hw1] at d0 d1 d2 d3 d4 H16 HLZ HB0 HC0
  clear hfit htot htl hfwl h16 h4 hfl4 h32 hwid hpad hlz hi hmem hb0 hc0 hcc hfw hc hw1 g3 g4 hne h
  unfold maxLen at g2
  go_enter Tryd.func17, Tryd.ntmps17
  go_wp2_with fail
  refine H16.out.mono ?_
  rintro e wa ⟨rfl, hba⟩
  have HBA := Lib.hid hba
  clear hba H16 d0 d1 d2 d3 d4
  obtain ⟨d0, d1, d2, d3, d4⟩ := conf_at ((Tch.of_below (F := fun _ => False) HBA.out).heap HC0.out id)
  obtain ⟨f16, hf16⟩ : ∃ f16, f16 = c.flag 16 := ⟨_, rfl⟩
  rw [← hf16]
  have HF16 := Lib.hid hf16
  clear hf16
  go_upto_region 3 with (fail)
  go_cut [9] from 15 to 84 (fun s9 wx => s9 = .bool (c.flag 4) ∧ Below wa.heap.size wa wx)
  case first =>
    obtain ⟨b4, hb4⟩ : ∃ b4, b4 = (bits BinOp.and IntKind.i64 (f : Int) 4 != 0) := ⟨_, rfl⟩
    have hh4 := H4.out wa
    rw [← hb4] at hh4 HFL4
    have HH4 := Lib.hid hh4
    have e9 := u8_eq (b := ch) (c := 9) (n := 9) rfl
    clear hb4 hh4 H4
    cases b4
    · go_wp2_with fail
      refine HH4.out.mono ?_
      rintro e wb ⟨rfl, hbb⟩
      have HBB := Lib.hid hbb
      clear hbb
      go_wp2_with fail
      go_meet
      exact ⟨by rw [HFL4.out]; rfl, HBB.out⟩
    · by_cases h9 : ch = 9
      · have h9' : ((ch.toNat : Int) != 9) = false := by rw [bne, e9, decide_eq_true h9]; rfl
        rw [decide_eq_true h9] at e9
        have H9 := Lib.hid h9
        clear h9
        go_wp2_with fail
        refine HH4.out.mono ?_
        rintro e wb ⟨rfl, hbb⟩
        have HBB := Lib.hid hbb
        obtain ⟨b0, b1, b2, b3, b4⟩ := conf_at ((Tch.of_below (F := fun _ => False) (HBA.out.trans (hbb.mono HBA.out.size))).heap HC0.out id)
        clear hbb
        go_wp2_with fail
        go_meet
        exact ⟨by rw [HFL4.out, H9.out]; rfl, HBB.out⟩
      · have h9' : ((ch.toNat : Int) != 9) = true := by rw [bne, e9, decide_eq_false h9]; rfl
        rw [decide_eq_false h9] at e9
        have H9 := Lib.hid h9
        clear h9
        go_wp2_with fail
        refine HH4.out.mono ?_
        rintro e wb ⟨rfl, hbb⟩
        have HBB := Lib.hid hbb
        obtain ⟨b0, b1, b2, b3, b4⟩ := conf_at ((Tch.of_below (F := fun _ => False) (HBA.out.trans (hbb.mono HBA.out.size))).heap HC0.out id)
        clear hbb
        go_wp2_with fail
        go_meet
        exact ⟨by rw [HFL4.out]; simpa using H9.out, HBB.out⟩
  case rest =>
    obtain ⟨rfl, hbb⟩ := hcut
    obtain ⟨base, rfl⟩ : ∃ base : World, base = wc := ⟨_, rfl⟩
    have hbw := HBA.out.trans (hbb.mono HBA.out.size)
    have HBW := Lib.hid (HB0.out.trans (hbw.mono HB0.out.size))
    have hcb := (Tch.of_below (F := fun _ => False) hbw).heap HC0.out id
    have HCB := Lib.hid hcb
    have HLB := Lib.hid (HLZ.out.below hbw)
    obtain ⟨d0, d1, d2, d3, d4⟩ := conf_at hcb
    obtain ⟨lv, hlv, hce⟩ := HLB.out.at HI.out
    obtain ⟨al, cl, rfl, q1, q2, q3, q4⟩ := hce.val
    have HQ3 := Lib.hid q3
    have HCE := Lib.hid hce
    obtain ⟨R, hR⟩ : ∃ R, R = c.flag 4 := ⟨_, rfl⟩
    rw [← hR]
    have HR := Lib.hid hR
    clear hbb hbw hcb hce q3 q4 hR HBA HC0 HB0 HLZ H4 HFL4
    unfold maxLen at q2
    go_wp2_with fail
    go_loopw [7, 8, 29] (fun t7 t8 t29 wr => LnRel base c fw l t7 t8 t29 wr) (fun _ _ t29 _ => l.length - (intOf t29).toNat)
    case atStart => exact ⟨0, f16, 0, [], Nat.zero_le _, rfl, rfl, by rw [HF16.out]; simp, Own.nil _ _ _ _, rfl, Tch.refl _ _⟩
    case round =>
      obtain ⟨j, ut, n, pre, hj, rfl, rfl, hgo, hown, rfl, tt⟩ := hrel
      have HGO := Lib.hid hgo
      have hpl : pre.length ≤ total.length := by rw [HTOT.out, ← hgo, List.length_append]; omega
      have htl := HTL.out
      have hpl2 : pre.length ≤ 2000000000000 := by omega
      clear hgo htl hpl
      obtain ⟨a7, c7, rfl⟩ := hown.shape
      by_cases hlt : j < l.length
      · obtain ⟨x, hx⟩ : ∃ x, x = l[j] := ⟨_, rfl⟩
        have hdr : l.drop j = x :: l.drop (j + 1) := by rw [List.drop_eq_getElem_cons hlt, hx]
        have HDR := Lib.hid hdr
        obtain ⟨ao2, cp2', e2, _, _, _, r4⟩ := HCE.out.val
        obtain ⟨ad2, tv, e3, c0, c1, c2, hrt⟩ := r4 j hlt
        rw [← hx] at c1 c2 hrt
        simp only [Value.slice.injEq] at e2
        obtain ⟨rfl, -, -⟩ := e2
        subst e3
        have hsp2 := HQ3.out ad2 rfl
        obtain ⟨k2, o2, sp2⟩ := ad2
        simp only at hsp2 c0 c1 c2
        subst hsp2
        rw [show o2 + 3 * j = o2 + j * 3 by omega] at c0 c1 c2
        have hxw := (HFIT.out.wid l HMEM.out x (hx ▸ List.getElem_mem hlt))
        obtain ⟨xw, hxw2⟩ : ∃ xw : Nat, x.width = xw := ⟨x.width.toNat, by omega⟩
        have HXW := Lib.hid hxw2
        have hxl : x.text.length ≤ 1000000 := by
          have h1 := HFIT.out.txt l HMEM.out
          have h2 := texts_mem (show x ∈ l from hx ▸ List.getElem_mem hlt)
          omega
        rw [hxw2] at c1 hxw
        have hxw3 : xw ≤ 1000000 := by omega
        obtain ⟨tn, htn⟩ : ∃ tn, tn = x.text.length := ⟨_, rfl⟩
        obtain ⟨ta, tc, rfl, -⟩ := hrt.val
        rw [← htn] at c0 hxl
        have HTN := Lib.hid htn
        have HRT := Lib.hid hrt
        rw [← htn] at HRT
        have hk2 := block_lt_of_cell c0
        have nk : ∀ {a : Addr} {u : Value}, base.cell? a = some u → wr.cell? a = some u := fun hc => tt.cell hc (by have := block_lt_of_cell hc; unfold New; omega)
        have e0 := nk c0
        have e1 := nk c1
        have e2 := nk c2
        have hst : LSt base wr.heap.size #[.slice ta tn tc, .int .i64 xw, .int .u8 x.fin.toNat] (.slice a7 pre.length c7) pre (wr.alloc (.cells #[.slice ta tn tc, .int .i64 xw, .int .u8 x.fin.toNat] 55)) :=
          ⟨hown.kept (Tch.alloc (fun _ => False) _ _) (fun _ _ => id), tt.trans (Tch.alloc _ _ _), heap_alloc_new wr _⟩
        have HST := Lib.hid hst
        have hXb : base.heap.size ≤ wr.heap.size := tt.size
        clear hst nk c0 c1 c2 hrt htn hxw2 hdr hx hown tt r4 hk2
        go_upto_region 7 with (fail)
        revert HST hXb
        generalize (wr.alloc (.cells #[.slice ta tn tc, .int .i64 xw, .int .u8 x.fin.toNat] 55)) = wA
        generalize wr.heap.size = X
        intro HST hXb
        clear e0 e1 e2 d0 d1 d2 d3 d4
        go_cut [39] from 34 to 83 (fun s39 wx => s39 = .bool (decide (0 < j) && c.flag 32) ∧ LSt base X #[.slice ta tn tc, .int .i64 xw, .int .u8 x.fin.toNat] (.slice a7 pre.length c7) pre wx)
        case first =>
          obtain ⟨d0, d1, d2, d3, d4⟩ := conf_at (HST.out.tch.heap HCB.out (by have := lt_of_heap HCB.out; unfold New; omega))
          by_cases hj0 : 0 < j
          · go_wp2_with fail
            refine (H32.out _).mono ?_
            rintro e wb ⟨rfl, hbb⟩
            have HBB := Lib.hid hbb
            clear hbb
            go_wp2_with fail
            go_meet
            exact ⟨by simp [hj0], HST.out.below HBB.out⟩
          · go_wp2_with fail
            go_meet
            exact ⟨by simp [hj0], HST.out⟩
        case rest =>
          obtain ⟨rfl, hst2⟩ := hcut
          clear HST
          go_upto_if 39 with (fail)
          go_cut [7] from 34 to 83 (fun s7 wx => LSt base X #[.slice ta tn tc, .int .i64 xw, .int .u8 x.fin.toNat] s7 (pre ++ barB c j) wx ∧ ∃ a n cp, s7 = .slice a n cp)
          case first =>
            by_cases hbar : 0 < j ∧ c.flag 32 = true
            · have hb1 : (decide (0 < j) && c.flag 32) = true := by simp [hbar.1, hbar.2]
              have hbb : barB c j = [124] := by unfold barB; rw [if_pos hbar]
              obtain ⟨a8, n8, c8, w8, hrun8, hst8⟩ := hst2.one 124 124 rfl (by omega) 26
              have HRUN8 := Lib.hid hrun8
              have HST8 := Lib.hid hst8
              have HBB := Lib.hid hbb
              rw [hb1]
              clear hb1 hbar hbb hrun8 hst8 hst2
              go_wp2_with (at_builtin; refine wpList_append_eq rfl (.tmp 40) (.tmp 41) 26 rfl rfl rfl HRUN8.out ?_)
              go_meet
              rw [HBB.out]
              exact ⟨HST8.out, _, _, _, rfl⟩
            · have hb1 : (decide (0 < j) && c.flag 32) = false := by
                rw [Bool.and_eq_false_iff]
                by_cases h0 : 0 < j
                · right; simpa [h0] using hbar
                · left; simpa using h0
              have hbb : barB c j = [] := by unfold barB; rw [if_neg hbar]
              have HST2 := Lib.hid hst2
              have HBB := Lib.hid hbb
              rw [hb1]
              clear hb1 hbar hbb hst2
              go_wp2_with fail
              go_meet
              rw [HBB.out, List.append_nil]
              exact ⟨HST2.out, _, _, _, rfl⟩
          case rest =>
            obtain ⟨hst3, a8, n8, c8, rfl⟩ := hcut
            have HST3 := Lib.hid hst3
            have hb1 : (barB c j).length ≤ 1 := by unfold barB; split <;> simp
            obtain ⟨pre2, hpre2⟩ : ∃ pre2, pre2 = pre ++ barB c j := ⟨_, rfl⟩
            have hpl3 : pre2.length ≤ 2000000000001 := by rw [hpre2, List.length_append]; omega
            rw [← hpre2] at HST3
            have HPRE2 := Lib.hid hpre2
            clear hst3 hst2 hpre2 hb1
            go_upto_region 10 with (fail)
            go_cut [8] from 34 to 83 (fun s8 wx => s8 = .bool (ut && x.text.isEmpty) ∧ LSt base X #[.slice ta tn tc, .int .i64 xw, .int .u8 x.fin.toNat] (.slice a8 n8 c8) pre2 wx)
            case first =>
              have e0 := cell_of_blk HST3.out.blk 0
              have e0' : _ = some (Value.slice ta tn tc) := e0
              have hem : x.text.isEmpty = decide (tn = 0) := by rw [HTN.out]; cases x.text <;> simp
              have HEM := Lib.hid hem
              clear e0 hem
              cases ut
              · go_wp2_with fail
                go_meet
                exact ⟨rfl, HST3.out⟩
              · by_cases hz : tn = 0
                · subst hz
                  go_wp2_with fail
                  go_meet
                  exact ⟨by rw [HEM.out]; rfl, HST3.out⟩
                · have hz1 : ((tn : Int) == 0) = false := by rw [beq_eq_false_iff_ne]; omega
                  have HZ2 := Lib.hid (decide_eq_false hz)
                  go_wp2_with fail
                  go_meet
                  exact ⟨by rw [HEM.out, HZ2.out]; rfl, HST3.out⟩
            case rest =>
              obtain ⟨rfl, hst4⟩ := hcut
              have HST4 := Lib.hid hst4
              clear HST3 hst4
              obtain ⟨ut2, hut2⟩ : ∃ ut2, ut2 = (ut && x.text.isEmpty) := ⟨_, rfl⟩
              rw [← hut2]
              have HUT2 := Lib.hid hut2
              clear hut2
              have hkl : k0 < base.heap.size := block_lt_of_cell hlv
              have hlvx : wc.cell? ⟨k0, o0 + i, none⟩ = some (.slice (some ⟨k2, o2, none⟩) l.length cl) := HST4.out.tch.cell hlv (by show ¬ base.heap.size ≤ k0; omega)
              have HCX := Lib.hid (column_calls wc (HCE.out.below (New.below HST4.out.tch)) j (by omega) (by omega))
              obtain ⟨hh, hhh⟩ : ∃ hh, hh = (view l).has j := ⟨_, rfl⟩
              rw [← hhh] at HCX
              have HHH := Lib.hid hhh
              clear hhh
              go_upto_if 55 with (go_at_call 29; (with_reducible refine HCX.out.mono ?_); rintro e w' ⟨rfl, rfl⟩)
              clear hlvx
              go_cut [12] from 34 to 83 (fun s12 wx => PadAt base X #[.slice ta tn tc, .int .i64 xw, .int .u8 x.fin.toNat] (.slice a8 n8 c8) pre2 (if j + 1 < l.length then padB c xw (fw j) ut2 else []) s12 wx)
              case first =>
                have hjh : (view l).has j = decide (j + 1 < l.length) := by
                  unfold Ln.has view; rw [decide_eq_decide]; simp; omega
                by_cases hcol : j + 1 < l.length
                · have hH := HHH.out.trans (hjh.trans (decide_eq_true hcol))
                  have HW := Lib.hid (HWID.out wc (HLB.out.below (New.below HST4.out.tch)) j (HHH.out.symm.trans hH))
                  have HCOL := Lib.hid hcol
                  obtain rfl := hH
                  obtain ⟨d0, d1, d2, d3, d4⟩ := conf_at (HST4.out.tch.heap HCB.out (by have := lt_of_heap HCB.out; unfold New; omega))
                  clear hjh hcol
                  go_wp2_with fail
                  refine HW.out.mono ?_
                  rintro e wd ⟨dd, rfl, hbd⟩
                  have HST5 := Lib.hid (HST4.out.below hbd)
                  clear d0 d1 d2 d3 d4 hbd HW
                  obtain ⟨d0, d1, d2, d3, d4⟩ := conf_at (HST5.out.tch.heap HCB.out (by have := lt_of_heap HCB.out; unfold New; omega))
                  have b51 : wd.cell? ⟨X, 1, none⟩ = some (.int .i64 xw) := cell_of_blk HST5.out.blk 1
                  have HPD := Lib.hid (HPAD.out wd xw (fw j) ut2 (by omega) (by have := HFWL.out j; omega))
                  go_wp2_with fail
                  refine HPD.out.mono ?_
                  rintro e we ⟨vp, rfl, hrp, hbe, hfr⟩
                  have HRP := Lib.hid hrp
                  have HFR := Lib.hid (show ∀ g, vp.ownBlock = some g → (Value.slice a8 n8 c8).ownBlock ≠ some g from fun g hg e => by have := HST5.out.own.lt e; have := hfr g hg; omega)
                  clear hfr
                  have HST6 := Lib.hid (HST5.out.below hbe)
                  clear hrp hbe d0 d1 d2 d3 d4 b51
                  go_wp2_with fail
                  go_meet
                  refine ⟨HST6.out, ?_, HFR.out⟩
                  rw [if_pos HCOL.out]; exact HRP.out
                · have hH := HHH.out.trans (hjh.trans (decide_eq_false hcol))
                  have HCOL := Lib.hid hcol
                  obtain rfl := hH
                  clear hjh hcol
                  go_wp2_with fail
                  go_meet
                  refine ⟨HST4.out, ?_, fun g hg => by simp [Value.ownBlock] at hg⟩
                  rw [if_neg HCOL.out]; exact Rd.nil _
              case rest =>
                obtain ⟨hst5, hrp, hne7⟩ := hcut
                obtain ⟨wz, rfl⟩ : ∃ wz : World, wz = wc := ⟨_, rfl⟩
                obtain ⟨ap, np, cpp, rfl⟩ := (show ∃ a n c, _ = Value.slice a n c from by obtain ⟨a, c, e, _⟩ := hrp.val; exact ⟨a, _, c, e⟩)
                obtain ⟨pad, hpad⟩ : ∃ pad, pad = (if j + 1 < l.length then padB c xw (fw j) ut2 else []) := ⟨_, rfl⟩
                have hpadl : pad.length ≤ 1003000 := by
                  rw [hpad]
                  split
                  · have h1 := padB_le c xw (fw j) ut2
                    have h2 := HFWL.out j
                    have h3 := HTB.out
                    omega
                  · simp
                rw [← hpad] at hrp
                have HPADE := Lib.hid hpad
                clear hpad
                have hrt := HRT.out.new hst5.tch
                have htnl : tn = x.text.length := HTN.out
                have b50 : wz.cell? ⟨X, 0, none⟩ = some (.slice ta tn tc) := cell_of_blk hst5.blk 0
                have hput : putB c x.text pad = (if R = true then pad ++ x.text else x.text ++ pad) := by unfold putB; rw [← HR.out]
                have HPUT := Lib.hid hput
                have hnew : ∀ (w9 : World) (v9 : Value), LSt base X #[.slice ta tn tc, .int .i64 xw, .int .u8 x.fin.toNat] v9 (pre2 ++ putB c x.text pad) w9 → LnRel base c fw l v9 (.bool ut2) (.int .i64 ((j : Int) + 1)) w9 := by
                  intro w9 v9 h9
                  refine ⟨j + 1, ut2, _, pre2 ++ putB c x.text pad, by omega, by go_num, rfl, ?_, h9.own, rfl, h9.tch⟩
                  rw [← HGO.out, HDR.out, lnGo, HPRE2.out, HXW.out]
                  simp only [List.append_assoc, HPADE.out, HUT2.out, Int.toNat_natCast]
                have HNEW := Lib.hid hnew
                cases R
                · obtain ⟨a1, n1, c1, w1', hrun1, hst6, htc1⟩ := hst5.add hrt (by omega) 26
                  have hrp1 : Rd w1' (.slice ap np cpp) pad := hrp.kept htc1 (fun _ g hg e => hne7 g hg e)
                  obtain ⟨a2, n2, c2, w2', hrun2, hst7, -⟩ := hst6.add hrp1 (by rw [List.length_append]; omega) 26
                  have HRUN1 := Lib.hid hrun1
                  have HRUN2 := Lib.hid hrun2
                  have hfin := HNEW.out w2' (.slice a2 n2 c2) (by rw [HPUT.out, if_neg (by simp), ← List.append_assoc]; exact hst7)
                  have HFIN := Lib.hid hfin
                  clear hst5 hrp hne7 hst6 hrp1 hst7 hrun1 hrun2 hrt hfin hput hnew htnl htc1 HNEW
                  go_wp2_with (first | (at_builtin; refine wpList_append_eq rfl (.tmp 77) (.tmp 79) 26 rfl rfl rfl HRUN1.out ?_) | (at_builtin; refine wpList_append_eq rfl (.tmp 80) (.tmp 81) 26 rfl rfl rfl HRUN2.out ?_))
                  go_roundw
                  case rel => first | exact HFIN.out | ((repeat apply Exists.intro); exact ⟨HFIN.out, rfl⟩)
                  case measure => simp [intOf]; omega
                · obtain ⟨a1, n1, c1, w1', hrun1, hst6, htc1⟩ := (hst5.kept (Tch.drew _ wz)).add hrp.drew (by omega) 26
                  have hrt1 : Rd w1' (.slice ta tn tc) x.text := HRT.out.new hst6.tch
                  obtain ⟨a2, n2, c2, w2', hrun2, hst7, -⟩ := hst6.add hrt1 (by rw [List.length_append]; omega) 26
                  have b51 : w1'.cell? ⟨X, 0, none⟩ = some (.slice ta tn tc) := cell_of_blk hst6.blk 0
                  have b52 : w2'.cell? ⟨X, 0, none⟩ = some (.slice ta tn tc) := cell_of_blk hst7.blk 0
                  have HRUN1 := Lib.hid hrun1
                  have HRUN2 := Lib.hid hrun2
                  have hfin := HNEW.out w2' (.slice a2 n2 c2) (by rw [HPUT.out, if_pos rfl, ← List.append_assoc]; exact hst7)
                  have HFIN := Lib.hid hfin
                  clear hst5 hrp hne7 hst6 hrt1 hst7 hrun1 hrun2 hrt hfin hput hnew htnl htc1 HNEW
                  go_wp2_with fail
                  refine wp_region_rl (fun w' => w' = wz.drew ∨ w' = w1') [0, 1, 3, 4] [2, 5] [6] 1 [_, _, _, _] [_, _] (by kernel_rfl) (by kernel_rfl) rfl rfl (fun _ _ d _ _ h => by cases d <;> exact h) (.inl rfl) ?_
                  iterate 4 (refine wpR_step rfl (fun K hK => ?_); go_simp; refine hK _ ?_; clear hK K)
                  refine wpR_nil ?_
                  refine wpE_step rfl (fun K hK => ?_)
                  refine wp_append_eq (.tmp 71) (.tmp 72) 26 rfl rfl rfl HRUN1.out ?_
                  go_simp
                  refine hK _ _ (.inr rfl) ?_
                  clear hK K
                  refine wpE_zero ?_
                  refine wpList_append_eq rfl (.tmp 73) (.tmp 75) 26 rfl rfl rfl HRUN2.out ?_
                  go_simp
                  refine wpL_end rfl ?_
                  iterate 1 (refine wpR_step rfl (fun K hK => ?_); go_simp; refine hK _ ?_; clear hK K)
                  refine wpR_nil ?_
                  go_wp2_with fail
                  go_roundw
                  case rel => first | exact HFIN.out | ((repeat apply Exists.intro); exact ⟨HFIN.out, rfl⟩)
                  case measure => simp [intOf]; omega
      · clear HFIT
        obtain rfl : j = l.length := by omega
        have HO := Lib.hid hown
        have T := Lib.hid tt
        have hend : pre = total := by
          have := HGO.out
          rw [List.drop_length] at this
          rw [HTOT.out, ← this]; simp [lnGo]
        have HE := Lib.hid hend
        clear hown tt hlt hj hend hpl2
        go_wp2_with fail
        go_ret
        refine ⟨_, rfl, ?_, HBW.out.trans ((New.below T.out).mono HBW.out.size)⟩
        rw [← HE.out]
        exact Own.rd HO.out
end Go.Proofs.YteildpeogbenbaaDoor
