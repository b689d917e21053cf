/- Walks: format. -/
import Derived.Test.YteildpeogbenbaaDoorWl
namespace Go.Proofs.YteildpeogbenbaaDoor
open Go.RowKit Go.Tw Go.Sort
set_option maxRecDepth 100000
section
variable {F : Nat → Prop} {w : World} {B S : Nat} {c : Cfg} {s : St}

/-- What format does. -/
def FmtPost (F : Nat → Prop) (w : World) (B S : Nat) (c : Cfg) (s : St) (d p0 l0 l1 : Nat) (e : Ending) (w' : World) : Prop :=
  (e = .returned (.int .i64 (p0 + SZ (seg s.lines l0 l1) : Nat)) ∧ Rep F w' B S c { s with out := s.out ++ fmtL c s.buf s.lines.length d s.ws l0 p0 (seg s.lines l0 l1) } ∧ Tch F w w') ∨ Stop F F w B S c (s.out ++ fmtL c s.buf s.lines.length d s.ws l0 p0 (seg s.lines l0 l1)) e w'

/-- The outer loop's relation. -/
def ORel (F : Nat → Prop) (w : World) (B S : Nat) (c : Cfg) (s : St) (d p0 l0 l1 : Nat) (t2 t8 t10 : Value) (wr : World) : Prop :=
  ∃ (a k k' : Nat) (X : List UInt8), l0 ≤ a ∧ a ≤ k ∧ k ≤ l1 ∧ (k' = k ∨ k' = l1 + 1 ∧ k = l1) ∧
    t2 = .int .i64 a ∧ t8 = .int .i64 (p0 + SZ (seg s.lines l0 a) : Nat) ∧ t10 = .int .i64 k' ∧
    X ++ (linesOut c s.ws s.buf s.lines.length a (p0 + SZ (seg s.lines l0 a)) (seg s.lines a k) ++ fmtL c s.buf s.lines.length (d + 1) s.ws k (p0 + SZ (seg s.lines l0 k)) (seg s.lines k l1)) = fmtL c s.buf s.lines.length (d + 1) s.ws l0 p0 (seg s.lines l0 l1) ∧
    Rep F wr B S c { s with out := s.out ++ X } ∧ Tch F w wr

/-- The inner loop's relation. -/
def CRel (F : Nat → Prop) (w : World) (B S : Nat) (c : Cfg) (s : St) (o : List UInt8) (k l1 : Nat) (t10 t12 t13 : Value) (wr : World) : Prop :=
  ∃ m : Nat, k ≤ m ∧ m ≤ l1 ∧ t10 = .int .i64 m ∧ t12 = .int .i64 (colM c s.ws.length (seg s.lines k m)) ∧ t13 = .bool (colD s.ws.length (seg s.lines k m)) ∧
    (∀ l ∈ seg s.lines k m, has s.ws.length l = true) ∧ Rep F wr B S c { s with out := o } ∧ Tch F w wr

/-- Behind the inner loop. -/
def CEnd (F : Nat → Prop) (w : World) (B S : Nat) (c : Cfg) (s : St) (o : List UInt8) (k l1 : Nat) (t10 t12 t13 : Value) (wr : World) : Prop :=
  ∃ m : Nat, k ≤ m ∧ m ≤ l1 ∧ t10 = .int .i64 m ∧ t12 = .int .i64 (colM c s.ws.length (seg s.lines k m)) ∧ t13 = .bool (colD s.ws.length (seg s.lines k m)) ∧
    (∀ l ∈ seg s.lines k m, has s.ws.length l = true) ∧ (∀ l, m < l1 → s.lines[m]? = some l → has s.ws.length l = false) ∧ Rep F wr B S c { s with out := o } ∧ Tch F w wr

theorem Fine.sub {l0 l1 a b : Nat} (hf : Fine c s l0 l1) (h1 : l0 ≤ a) (h2 : a ≤ b) (h3 : b ≤ l1) (o : List UInt8) : Fine c { s with out := o } a b :=
  ⟨hf.cs, h2, by have := hf.lel; simp only; omega, hf.few, hf.tb, hf.pd, hf.mn, hf.ws, hf.wn, hf.cols, fun l hl => by
    obtain ⟨i, i1, i2, i3⟩ := mem_seg hl
    exact hf.fit l (mem_seg_of i3 (by omega) (by omega)), hf.len⟩

theorem fmt_blk {lines : List (List PC)} {ws : List Nat} {buf : List UInt8} {n d k m l1 pk : Nat} (h1 : k < m) (h2 : m ≤ l1) (h3 : l1 ≤ lines.length) (hall : ∀ l ∈ seg lines k m, has ws.length l = true) (hend : ∀ l, m < l1 → lines[m]? = some l → has ws.length l = false) :
    fmtL c buf n (d + 1) ws k pk (seg lines k l1) = fmtL c buf n d (ws ++ [colW c ws.length (seg lines k m)]) k pk (seg lines k m) ++ fmtL c buf n (d + 1) ws m (pk + SZ (seg lines k m)) (seg lines m l1) := by
  obtain ⟨l, hl⟩ : ∃ l, lines[k]? = some l := ⟨lines[k], by simp⟩
  have e := seg_cons hl h1 (by omega)
  have e2 := seg_split (ls := lines) (a := k) (k := m) (b := l1) (by omega) h2 h3
  have hln := seg_len (ls := lines) (a := k) (b := m) (by omega)
  rw [e2, e, fmtL_blk k pk (by rw [← e]; exact hall), ← e, hln, show k + (m - k) = m by omega]
  intro x hx
  by_cases hm : m < l1
  · obtain ⟨y, hy⟩ : ∃ y, lines[m]? = some y := ⟨lines[m], by simp⟩
    rw [seg_cons hy hm h3] at hx
    simp at hx; subst hx
    exact hend _ hm hy
  · rw [show m = l1 by omega, seg_self] at hx; simp at hx
theorem fmt_next {lines : List (List PC)} {ws : List Nat} {buf : List UInt8} {n d m l1 pm : Nat} (h2 : m ≤ l1) (h3 : l1 ≤ lines.length) (hend : ∀ l, m < l1 → lines[m]? = some l → has ws.length l = false) :
    linesOut c ws buf n m pm (seg lines m (min (m + 1) l1)) ++ fmtL c buf n (d + 1) ws (min (m + 1) l1) (pm + SZ (seg lines m (min (m + 1) l1))) (seg lines (min (m + 1) l1) l1) = fmtL c buf n (d + 1) ws m pm (seg lines m l1) := by
  by_cases hm : m < l1
  · obtain ⟨y, hy⟩ : ∃ y, lines[m]? = some y := ⟨lines[m], by simp⟩
    rw [Nat.min_eq_left hm, seg_one hy, seg_cons hy hm h3, fmtL_no _ _ (hend y hm hy)]
    simp
  · obtain rfl : m = l1 := by omega
    rw [Nat.min_eq_right (by omega), seg_self]
    simp [linesOut]

/-- The round's end behind a block. -/
theorem ORel.next {d p0 l0 l1 a k m pa pk : Nat} {X o : List UInt8} {wr : World} (ha : l0 ≤ a) (hak : a ≤ k) (h1 : k < m) (h2 : m ≤ l1) (h3 : l1 ≤ s.lines.length) (hall : ∀ l ∈ seg s.lines k m, has s.ws.length l = true) (hend : ∀ l, m < l1 → s.lines[m]? = some l → has s.ws.length l = false)
    (hpa : pa = p0 + SZ (seg s.lines l0 a)) (hpk : pk = p0 + SZ (seg s.lines l0 k))
    (hX : X ++ (linesOut c s.ws s.buf s.lines.length a (p0 + SZ (seg s.lines l0 a)) (seg s.lines a k) ++ fmtL c s.buf s.lines.length (d + 1) s.ws k (p0 + SZ (seg s.lines l0 k)) (seg s.lines k l1)) = fmtL c s.buf s.lines.length (d + 1) s.ws l0 p0 (seg s.lines l0 l1))
    (ho : o = s.out ++ X ++ linesOut c s.ws s.buf s.lines.length a pa (seg s.lines a k))
    (hr : Rep F wr B S c { s with out := o ++ fmtL c s.buf s.lines.length d (s.ws ++ [colW c s.ws.length (seg s.lines k m)]) k pk (seg s.lines k m) }) (t : Tch F w wr) :
    ORel F w B S c s d p0 l0 l1 (.int .i64 m) (.int .i64 (pk + SZ (seg s.lines k m) : Nat)) (.int .i64 (m + 1 : Nat)) wr := by
  have e1 : pk + SZ (seg s.lines k m) = p0 + SZ (seg s.lines l0 m) := by
    rw [hpk, seg_split (a := l0) (k := k) (b := m) (by omega) (by omega) (by omega), SZ_append]; omega
  refine ⟨m, min (m + 1) l1, m + 1, X ++ linesOut c s.ws s.buf s.lines.length a pa (seg s.lines a k) ++ fmtL c s.buf s.lines.length d (s.ws ++ [colW c s.ws.length (seg s.lines k m)]) k pk (seg s.lines k m), by omega, by omega, by omega, by omega, rfl, by rw [e1], rfl, ?_, ?_, t⟩
  · have e2 : p0 + SZ (seg s.lines l0 (min (m + 1) l1)) = pk + SZ (seg s.lines k m) + SZ (seg s.lines m (min (m + 1) l1)) := by
      rw [e1, seg_split (a := l0) (k := m) (b := min (m + 1) l1) (by omega) (by omega) (by omega), SZ_append]; omega
    rw [e2, ← e1, fmt_next h2 h3 hend, ← hX, ← hpk, fmt_blk (m := m) h1 h2 h3 hall hend, ← hpa]
    simp [List.append_assoc]
  · rw [ho] at hr
    simpa [List.append_assoc] using hr

set_option maxHeartbeats 4000000 in
theorem format_step (d : Nat)
    (ih : ∀ (w : World) (s : St) (p0 l0 l1 : Nat), Env F w → Rep F w B S c s → Fine c s l0 l1 → p0 + SZ (seg s.lines l0 l1) ≤ s.buf.length → (∀ l ∈ seg s.lines l0 l1, s.ws.length < l.length ∧ l.length ≤ s.ws.length + d) → l0 < l1 →
      (s.out ++ fmtL c s.buf s.lines.length d s.ws l0 p0 (seg s.lines l0 l1)).length ≤ 130000000000000 →
      Calls Tryd.prog 51 #[.pointer (some ⟨B, 0, none⟩), .int .i64 p0, .int .i64 l0, .int .i64 l1] w (FmtPost F w B S c s d p0 l0 l1))
    (hF : Env F w) (hrep : Rep F w B S c s) (p0 l0 l1 : Nat) (hf : Fine c s l0 l1) (hsz : p0 + SZ (seg s.lines l0 l1) ≤ s.buf.length) (hd : ∀ l ∈ seg s.lines l0 l1, l.length ≤ s.ws.length + (d + 1))
    (hob : (s.out ++ fmtL c s.buf s.lines.length (d + 1) s.ws l0 p0 (seg s.lines l0 l1)).length ≤ 130000000000000) :
    Calls Tryd.prog 51 #[.pointer (some ⟨B, 0, none⟩), .int .i64 p0, .int .i64 l0, .int .i64 l1] w (FmtPost F w B S c s (d + 1) p0 l0 l1) := by
  have IH := Lib.hid ih
  have HF := Lib.hid hF
  have HS := Lib.hid hsz
  have HD := Lib.hid hd
  have HO := Lib.hid hob
  clear ih hsz hd hob
  have hw1 := hf.wn
  have hw2 := hf.le
  have hw3 := hf.lel
  have hw4 := hf.few
  have H0 : ORel F w B S c s d p0 l0 l1 (.int .i64 l0) (.int .i64 p0) (.int .i64 l0) w := by
    refine ⟨l0, l0, l0, [], Nat.le_refl _, Nat.le_refl _, hf.le, .inl rfl, rfl, by simp [seg_self], rfl, ?_, by simpa using hrep, Tch.refl _ _⟩
    simp [seg_self, linesOut]
  obtain ⟨bufv, lv, wv, ov, vs, hrp⟩ := hrep
  obtain ⟨aw, cw, rfl⟩ := hrp.parts.wds.shape
  have c20 : w.cell? ⟨B, 20, none⟩ = some (.slice aw s.ws.length cw) := cell_of_blk hrp.blk 20
  clear hrp
  go_enter Tryd.func51, Tryd.ntmps51
  go_wp2_with fail
  go_loopw [2, 8, 10] (fun t2 t8 t10 wr => ORel F w B S c s d p0 l0 l1 t2 t8 t10 wr) (fun _ _ t10 _ => l1 + 1 - (intOf t10).toNat)
  case atStart => exact H0
  case round =>
    clear c20 H0
    obtain ⟨a, k, k', X, ha, hak, hk, hk', rfl, rfl, rfl, hX, hr1, t1⟩ := hrel
    have hF1 : Env F wr := hF.to t1
    have HX := Lib.hid hX
    clear hX
    obtain ⟨pa, hpa⟩ : ∃ pa, pa = p0 + SZ (seg s.lines l0 a) := ⟨_, rfl⟩
    rw [← hpa]
    have HPA := Lib.hid hpa
    clear hpa
    by_cases hlt : k' < l1
    · obtain rfl : k' = k := by omega
      have hkl : k' < s.lines.length := by omega
      obtain ⟨l, hll⟩ : ∃ l, s.lines[k']? = some l := ⟨s.lines[k'], by simp⟩
      obtain ⟨L, al, cl, cv, e19, eL, hlm, hcells⟩ := hr1.line hll
      have HLL := Lib.hid hll
      have HC := Lib.hid hcells
      clear hll hcells
      have HR := Lib.hid hr1
      have HT := Lib.hid t1
      have HF1 := Lib.hid hF1
      clear hr1 t1 hF1
      by_cases hh : s.ws.length + 1 < l.length
      · have hh2 : has s.ws.length l = true := by simp [has]; omega
        have hxl := congrArg List.length HX.out
        rw [← HPA.out] at hxl
        obtain ⟨pk, hpk⟩ : ∃ pk, pk = p0 + SZ (seg s.lines l0 k') := ⟨_, rfl⟩
        have hsp : pa + SZ (seg s.lines a k') = pk := by
          rw [hpk, HPA.out, seg_split (a := l0) (k := a) (b := k') ha hak (by omega), SZ_append]; omega
        have hsp2 : pk + SZ (seg s.lines k' l1) = p0 + SZ (seg s.lines l0 l1) := by
          rw [hpk, seg_split (a := l0) (k := k') (b := l1) (by omega) hk (by omega), SZ_append]; omega
        have hN := stopUp (T' := s.out ++ fmtL c s.buf s.lines.length (d + 1) s.ws l0 p0 (seg s.lines l0 l1)) (writeLines_rep HF1.out HR.out pa a k' (hf.sub ha hak hk _) (by have := HS.out; simp only; omega) (by have := HO.out; simp only [List.length_append] at this hxl ⊢; omega)) HT.out (fun _ _ => id) (fmtL c s.buf s.lines.length (d + 1) s.ws k' (p0 + SZ (seg s.lines l0 k')) (seg s.lines k' l1)) (by rw [← HX.out, ← HPA.out]; simp only [List.append_assoc])
        dsimp only at hN
        rw [hsp] at hN
        have HN := Lib.hid hN
        have HPK := Lib.hid hpk
        have HSP := Lib.hid hsp
        have HSP2 := Lib.hid hsp2
        have HH := Lib.hid hh2
        clear hN hpk hsp hsp2 hxl hh2
        go_upto_region 10 with (go_at_call 53; (with_reducible refine HN.out.mono ?_); rintro e w7 hE; rcases hE with ⟨rfl, hw, ht7⟩ | hE; rotate_left; (obtain ⟨ch, rfl⟩ := hE.panic; exact And.intro rfl (Or.inr hE)); have HW := Lib.hid hw; have HT7 := Lib.hid ht7; clear hw ht7)
        obtain ⟨o7, ho7⟩ : ∃ o7, o7 = s.out ++ X ++ linesOut c s.ws s.buf s.lines.length a pa (seg s.lines a k') := ⟨_, rfl⟩
        rw [← ho7] at HW
        have HO7 := Lib.hid ho7
        have T7 := Lib.hid (HT.out.trans HT7.out)
        clear ho7 HT HT7 HR HN e19 eL HC
        obtain ⟨x1, x3, x12, -⟩ := HW.out.conf
        have C0 : CRel F w B S c s o7 k' l1 (.int .i64 k') (.int .i64 c.mn) (.bool true) w7 :=
          ⟨k', Nat.le_refl _, hk, rfl, by simp [seg_self, colM], by simp [seg_self, colD], by simp [seg_self], HW.out, T7.out⟩
        have HC0 := Lib.hid C0
        clear C0
        go_upto_block 2 with (fail)
        clear x1 x3 x12
        go_cut [10, 12, 13] (fun t10 t12 t13 wx => CEnd F w B S c s o7 k' l1 t10 t12 t13 wx)
        case first =>
          go_wp2_with fail
          go_loopw [10, 12, 13] (fun t10 t12 t13 wr => CRel F w B S c s o7 k' l1 t10 t12 t13 wr) (fun t10 _ _ _ => l1 - (intOf t10).toNat)
          case atStart => exact HC0.out
          case round =>
            clear HC0 HW T7 HO7
            obtain ⟨m, hkm, hml, rfl, rfl, rfl, hall, hr2, t2⟩ := hrel
            have HALL := Lib.hid hall
            have HR2 := Lib.hid hr2
            have T2 := Lib.hid t2
            clear hall
            by_cases hm : m < l1
            · have hml2 : m < s.lines.length := by omega
              obtain ⟨lm, hlm2⟩ : ∃ lm, s.lines[m]? = some lm := ⟨s.lines[m], by simp⟩
              obtain ⟨L, al, cl, cv, e19, eL, hlm3, hcells⟩ := hr2.line hlm2
              obtain ⟨x1, x3, x12, hBl⟩ := hr2.conf
              have HLM := Lib.hid hlm2
              have HC := Lib.hid hcells
              clear hlm2 hcells hr2 t2
              by_cases hhm : s.ws.length + 1 < lm.length
              · obtain ⟨p, hp⟩ : ∃ p, lm[s.ws.length]? = some p := ⟨lm[s.ws.length], by simp⟩
                obtain ⟨g, rfl, q0, q1, q2⟩ := HC.out _ p hp
                have hwd := hf.cols lm (List.mem_of_getElem? HLM.out) s.ws.length p hp hhm
                obtain ⟨wn, hwn⟩ : ∃ wn : Nat, p.width = wn := ⟨p.width.toNat, by omega⟩
                rw [hwn] at q1 hwd
                have hpd := hf.pd
                have hfin : ∀ wq, Rep F wq B S c { s with out := o7 } → Tch F w wq → CRel F w B S c s o7 k' l1 (.int .i64 (m + 1 : Nat)) (.int .i64 (max (colM c s.ws.length (seg s.lines k' m)) (wn + c.pd) : Nat)) (.bool (colD s.ws.length (seg s.lines k' m) && !(decide (0 < wn) || p.htab))) wq := by
                  intro wq h1 h2
                  have e1 : lm.getD s.ws.length default = p := by rw [List.getD_eq_getElem?_getD, hp]; rfl
                  refine ⟨m + 1, by omega, by omega, rfl, ?_, ?_, ?_, h1, h2⟩
                  · rw [seg_snoc HLM.out hkm, colM_snoc, e1, hwn]; rfl
                  · rw [seg_snoc HLM.out hkm, colD_snoc, e1, hwn]; simp
                  · intro l hl
                    rw [seg_snoc HLM.out hkm] at hl
                    rcases List.mem_append.1 hl with h | h
                    · exact HALL.out l h
                    · simp at h; subst h; simp [has]; omega
                have FIN := Lib.hid hfin
                clear hfin hwn HC hp
                revert FIN
                generalize colM c s.ws.length (seg s.lines k' m) = M
                generalize colD s.ws.length (seg s.lines k' m) = D
                generalize p.htab = hb at q2 ⊢
                intro FIN
                have hwr : IntKind.i64.wrap ((wn : Int) + c.pd) = (wn : Int) + c.pd := IntWalk.i64_in _ (by omega)
                go_wp2_with fail
                go_quiet (fail)
                clear hwr
                have HR3 := Lib.hid ((HR2.out.alloc (.cells #[.int .i64 p.size, .int .i64 wn, .bool hb] 73)).kept (Tch.drewN (fun _ => False) _ nq) (fun _ _ _ => id))
                have T3 := Lib.hid ((T2.out.trans (Tch.alloc F wr (.cells #[.int .i64 p.size, .int .i64 wn, .bool hb] 73))).trans (Tch.drewN _ _ nq))
                have hb1 : ((wr.alloc (.cells #[.int .i64 p.size, .int .i64 wn, .bool hb] 73)).drewN nq).cell? ⟨wr.heap.size, 1, none⟩ = some (.int .i64 wn) := cell_of_blk (heap_alloc_new wr _) 1
                have hb2 : ((wr.alloc (.cells #[.int .i64 p.size, .int .i64 wn, .bool hb] 73)).drewN nq).cell? ⟨wr.heap.size, 2, none⟩ = some (.bool hb) := cell_of_blk (heap_alloc_new wr _) 2
                clear HR2 T2 q0 q1 q2 e19 eL x1 x3 x12
                revert HR3 T3 hb1 hb2
                generalize (wr.alloc (.cells #[.int .i64 p.size, .int .i64 wn, .bool hb] 73)).drewN nq = w3
                generalize wr.heap.size = bx
                intro HR3 T3 hb1 hb2
                have hgt2 : decide ((M : Int) < (wn : Int) + c.pd) = decide (M < wn + c.pd) := by rw [decide_eq_decide]; omega
                go_upto_if 80 with (fail)
                go_cut [12] (fun t12 wx => t12 = .int .i64 (max M (wn + c.pd) : Nat) ∧ wx = w3)
                case first =>
                  by_cases hgt : M < wn + c.pd
                  · go_wp2_with fail
                    go_meet
                    refine ⟨?_, rfl⟩
                    rw [Nat.max_eq_right (by omega)]; simp
                  · go_wp2_with fail
                    go_meet
                    refine ⟨?_, rfl⟩
                    rw [Nat.max_eq_left (by omega)]
                case rest =>
                  obtain ⟨rfl, rfl⟩ := hcut
                  generalize max M (wn + c.pd) = M2 at FIN ⊢
                  clear hgt2
                  go_upto_region 20 with (fail)
                  go_cut [88] (fun t88 wx => t88 = .bool (decide (0 < wn) || hb) ∧ wx = wc)
                  case first =>
                    by_cases h0 : 0 < wn
                    · go_wp2_with fail
                      go_meet
                      simp [h0]
                    · go_wp2_with fail
                      go_meet
                      simp [h0]
                  case rest =>
                    obtain ⟨rfl, rfl⟩ := hcut
                    generalize (decide (0 < wn) || hb) = b8 at FIN ⊢
                    cases b8
                    · go_wp2_with fail
                      go_roundw
                      case rel => simpa using FIN.out _ HR3.out T3.out
                      case measure => simp [intOf]; omega
                    · go_wp2_with fail
                      go_roundw
                      case rel => simpa using FIN.out _ HR3.out T3.out
                      case measure => simp [intOf]; omega
              · go_wp2_with fail
                go_meet
                exact ⟨m, hkm, hml, rfl, rfl, rfl, HALL.out, fun l _ hl => by rw [HLM.out] at hl; cases hl; simp [has]; omega, HR2.out, T2.out⟩
            · clear hr2 t2
              go_wp2_with fail
              go_meet
              exact ⟨m, hkm, hml, rfl, rfl, rfl, HALL.out, fun l h => absurd h hm, HR2.out, T2.out⟩
        case rest =>
          clear HC0 HW T7
          obtain ⟨m, hkm, hml, rfl, rfl, rfl, hall, hend, hr3, t3⟩ := hcut
          have hkm2 : k' < m := by
            rcases Nat.lt_or_ge k' m with h | h
            · exact h
            · obtain rfl : m = k' := by omega
              have h1 := hend l hlt HLL.out
              rw [HH.out] at h1
              cases h1
          obtain ⟨-, -, x12, hBl⟩ := hr3.conf
          have HALL := Lib.hid hall
          have HEND := Lib.hid hend
          have HR3 := Lib.hid hr3
          have T3 := Lib.hid t3
          clear hall hend hr3 t3
          have hcw : colW c s.ws.length (seg s.lines k' m) ≤ 200000000000 := by
            refine colW_le _ _ _ (by have := hf.mn; omega) ?_
            intro x hx
            obtain ⟨i, i1, i2, i3⟩ := mem_seg hx
            have hhx := HALL.out x hx
            simp only [has, decide_eq_true_eq] at hhx
            have h1 := hf.cols x (List.mem_of_getElem? i3) s.ws.length x[s.ws.length] (by simp) hhx
            have h2 : x.getD s.ws.length default = x[s.ws.length] := by rw [List.getD_eq_getElem?_getD, List.getElem?_eq_getElem (by omega)]; rfl
            have h3 := hf.pd
            rw [h2]; omega
          obtain ⟨W, hW⟩ : ∃ W, W = colW c s.ws.length (seg s.lines k' m) := ⟨_, rfl⟩
          rw [← hW] at hcw
          have hW2 : W = if colD s.ws.length (seg s.lines k' m) = true ∧ c.flag 8 = true then 0 else colM c s.ws.length (seg s.lines k' m) := by rw [hW]; rfl
          have HW := Lib.hid hW
          clear hW
          generalize colM c s.ws.length (seg s.lines k' m) = M at hW2 ⊢
          generalize colD s.ws.length (seg s.lines k' m) = D at hW2 ⊢
          have HW2 := Lib.hid hW2
          clear hW2
          go_upto_region 22 with (fail)
          go_cut [97] (fun t97 wx => t97 = .bool (D && c.flag 8) ∧ wx = wc)
          case first =>
            cases D
            · go_wp2_with fail
              go_meet
              simp
            · go_wp2_with fail
              go_meet
              simp [Cfg.flag]
          case rest =>
            obtain ⟨rfl, rfl⟩ := hcut
            go_upto_if 97 with (fail)
            go_cut [12] (fun t12 wx => t12 = .int .i64 W ∧ wx = wc)
            case first =>
              by_cases hb : D = true ∧ c.flag 8 = true
              · have hb1 : (D && c.flag 8) = true := by simp [hb.1, hb.2]
                rw [hb1]
                have HB := Lib.hid hb
                clear hb hb1
                go_wp2_with fail
                go_meet
                refine ⟨?_, rfl⟩
                rw [HW2.out, if_pos HB.out]; rfl
              · have hb1 : (D && c.flag 8) = false := by
                  cases hD : D <;> simp [hD] at hb ⊢
                  exact hb
                rw [hb1]
                have HB := Lib.hid hb
                clear hb hb1
                go_wp2_with fail
                go_meet
                refine ⟨?_, rfl⟩
                rw [HW2.out, if_neg HB.out]
            case rest =>
              obtain ⟨rfl, rfl⟩ := hcut
              clear HW2 x12
              obtain ⟨bufv, lv, wv, ov, vs, hrp⟩ := HR3.out
              obtain ⟨i0, hi, hz0, hz1, hz2⟩ := info_parts Tryd.info_int
              have c20 : wc.cell? ⟨B, 20, none⟩ = some wv := cell_of_blk hrp.blk 20
              go_upto_region 25 with (at_builtin; refine wpList_append_Own rfl (.tmp 102) (.tmp 104) 75 rfl F 3 i0 (.int .i64 0) 1 8 Tryd.underlying75 hi hz0 hz1 hz2 rfl (by decide) wv _ _ rfl (hrp.parts.wds.kept (Tch.alloc (fun _ => False) wc _) (fun _ _ => id)) ⟨wc.heap.size, 0, none⟩ 1 1 [.int .i64 W] rfl rfl ?c2 ?c3 ?c4 ?c5 ?c6 ?_)
              case c2 =>
                intro j u hj
                match j, hj with
                | 0, hj => simpa [Addr.add] using hj
              case c3 => simp [Value.oneCell']
              case c4 => unfold maxLen; omega
              case c5 => omega
              case c6 =>
                intro k hk
                have h1 := T3.out.size
                simp at hk
                exact hF.new k (by omega)
              intro v8 w8 hown hgrow hblk
              obtain ⟨ao8, cp8, rfl⟩ := hown.shape
              have hBne : wv.ownBlock ≠ some B := hrp.parts.wds.ne hrp.blk (by decide)
              have hP1 := hrp.parts.alloc (.cells #[.int .i64 W] 3)
              have hP2 := hP1.wdsGrown (x := W) hown rfl rfl hgrow
              have hB8 : w8.heap[B]? = some (.cells (wcells S c bufv s.pos s.csize s.cw false s.en lv wv) 77 (0, 0)) := by
                rw [hgrow.block B (by simp; omega) (fun e => hBne e.symm)]
                exact (Tch.alloc (fun _ => False) wc _).heap hrp.blk id
              have f20 := frozen_of_blk hB8 20
              have d20 : w8.cell? ⟨B, 20, none⟩ = some wv := cell_of_blk hB8 20
              have e1 := blk_set hB8 20 (.slice ao8 (s.ws.length + 1) cp8)
              have R9 : Rep F (w8.setCell ⟨B, 20, none⟩ (.slice ao8 (s.ws.length + 1) cp8)) B S c { s with out := o7, ws := s.ws ++ [W] } :=
                ⟨bufv, lv, _, ov, vs, by rw [e1]; simp [wcells], hrp.FB, hP2.setB hB8 20 (.slice ao8 (s.ws.length + 1) cp8)⟩
              have T9 : Tch F wc (w8.setCell ⟨B, 20, none⟩ (.slice ao8 (s.ws.length + 1) cp8)) := ((Tch.alloc F wc _).trans (Tch.grown hgrow (fun k e => hrp.parts.wds.mem k e))).trans (Tch.setCell _ hrp.FB _)
              have HR9 := Lib.hid R9
              have HT9 := Lib.hid (T3.out.trans T9)
              clear R9 T9 e1 hB8 hP1 hP2 hgrow hblk hown hrp c20
              go_upto_region 25 with (fail)
              revert HR9 HT9
              generalize w8.setCell ⟨B, 20, none⟩ (.slice ao8 (s.ws.length + 1) cp8) = w9
              intro HR9 HT9
              clear f20 d20
              have hxl := congrArg List.length HX.out
              rw [← HPA.out, ← HPK.out, fmt_blk (m := m) hkm2 hml hw3 HALL.out HEND.out, ← HW.out] at hxl
              have hsp3 : pk + SZ (seg s.lines k' m) ≤ p0 + SZ (seg s.lines l0 l1) := by
                have h1 := HSP2.out
                rw [seg_split (a := k') (k := m) (b := l1) (by omega) hml (by omega), SZ_append] at h1
                omega
              have hfine : Fine c { s with out := o7, ws := s.ws ++ [W] } k' m := by
                refine ⟨hf.cs, hkm, by simp only; omega, hf.few, hf.tb, hf.pd, hf.mn, ?_, ?_, hf.cols, ?_, hf.len⟩
                · intro i
                  simp only [List.getD_eq_getElem?_getD]
                  rcases Nat.lt_trichotomy i s.ws.length with h | h | h
                  · rw [List.getElem?_append_left h, ← List.getD_eq_getElem?_getD]; exact hf.ws i
                  · subst h; simp; omega
                  · rw [List.getElem?_eq_none (by simp; omega)]; simp
                · have hxm := HALL.out
                  obtain ⟨i, hi2⟩ : ∃ x, x ∈ seg s.lines k' m := ⟨l, mem_seg_of HLL.out (Nat.le_refl _) hkm2⟩
                  have h1 := hf.len l (List.mem_of_getElem? HLL.out)
                  simp; omega
                · intro x hx i p hp hi2
                  obtain ⟨q, i1, i2, i3⟩ := mem_seg hx
                  have hhx := HALL.out x hx
                  simp only [has, decide_eq_true_eq] at hhx
                  simp only [List.length_append, List.length_cons, List.length_nil] at hi2
                  have hc := hf.cols x (List.mem_of_getElem? i3) i p hp (by omega)
                  refine ⟨hc.1, ?_⟩
                  simp only [List.getD_eq_getElem?_getD]
                  by_cases h : i < s.ws.length
                  · rw [List.getElem?_append_left h, ← List.getD_eq_getElem?_getD]
                    exact (hf.fit x (mem_seg_of i3 (by omega) (by omega)) i p hp h).2
                  · obtain rfl : i = s.ws.length := by omega
                    have h1 := le_colW (c := c) s.ws.length (seg s.lines k' m) x hx
                    rw [← HW.out, List.getD_eq_getElem?_getD, hp] at h1
                    simpa using h1
              have hN := IH.out w9 { s with out := o7, ws := s.ws ++ [W] } pk k' m (hF.to HT9.out) HR9.out hfine (by have := HS.out; simp only; omega)
                (by
                  intro x hx
                  obtain ⟨q, i1, i2, i3⟩ := mem_seg hx
                  have hhx := HALL.out x hx
                  simp only [has, decide_eq_true_eq] at hhx
                  have h1 := HD.out x (mem_seg_of i3 (by omega) (by omega))
                  simp; omega) hkm2
                (by have := HO.out; simp only [List.length_append] at this hxl ⊢; rw [HO7.out]; simp only [List.length_append]; omega)
              obtain ⟨pm, hpm⟩ : ∃ pm, pm = pk + SZ (seg s.lines k' m) := ⟨_, rfl⟩
              unfold FmtPost at hN
              have hxe := HX.out
              rw [← HPA.out, ← HPK.out, fmt_blk (m := m) hkm2 hml hw3 HALL.out HEND.out, ← HW.out] at hxe
              have hN := stopUp (T' := s.out ++ fmtL c s.buf s.lines.length (d + 1) s.ws l0 p0 (seg s.lines l0 l1)) hN HT9.out (fun _ _ => id) (fmtL c s.buf s.lines.length (d + 1) s.ws m (pk + SZ (seg s.lines k' m)) (seg s.lines m l1)) (by rw [← hxe, HO7.out]; simp only [List.append_assoc])
              clear hxe
              dsimp only at hN
              rw [← hpm] at hN
              have HN := Lib.hid hN
              have HPM := Lib.hid hpm
              clear hN hpm hxl hsp3 hfine
              go_upto_region 26 with (go_at_call 51; (with_reducible refine HN.out.mono ?_); rintro e w10 hE; rcases hE with ⟨rfl, hw, ht7⟩ | hE; rotate_left; (obtain ⟨ch, rfl⟩ := hE.panic; exact And.intro rfl (Or.inr hE)); have HR10 := Lib.hid hw; have T10 := Lib.hid (HT9.out.trans ht7); clear hw ht7)
              clear HN HR9 HT9
              obtain ⟨bufv, lv, wv2, ov, vs, hrp⟩ := HR10.out
              obtain ⟨aw2, cw2, rfl⟩ := hrp.parts.wds.shape
              have c20 : w10.cell? ⟨B, 20, none⟩ = some (.slice aw2 (s.ws.length + 1) cw2) := by have := cell_of_blk hrp.blk 20; rw [this]; simp [wcells]
              have f20 := frozen_of_blk hrp.blk 20
              have hcc : s.ws.length + 1 ≤ cw2 := by
                rcases hrp.parts.wds.row.2 with ⟨_, h0⟩ | ⟨g, cap, cur, e, _, hg, hc, _⟩
                · simp at h0
                · simp only [Value.slice.injEq] at e; simp at hc; omega
              have hcm : cw2 ≤ 9223372036854775807 := by
                rcases hrp.parts.wds.row.2 with ⟨_, h0⟩ | ⟨g, cap, cur, e, _, hg, hc, hm, _⟩
                · simp at h0
                · simp only [Value.slice.injEq] at e; unfold maxLen at hm; omega
              obtain ⟨n1, hn1⟩ : ∃ n1, n1 = s.ws.length + 1 := ⟨_, rfl⟩
              rw [← hn1] at c20 hcc
              have hq2 : (0 : Int) ≤ (n1 : Int) - 1 := by omega
              have hq3 : (n1 : Int) - 1 ≤ (cw2 : Int) := by omega
              have hq4 : (1 : Int) ≤ (n1 : Int) := by omega
              have hq1 : IntKind.i64.wrap ((n1 : Int) - 1) = (n1 : Int) - 1 := IntWalk.i64_in _ (by omega)
              have hq5 : ((n1 : Int) - 1).toNat = n1 - 1 := by omega
              have HRP := Lib.hid hrp
              have HN1 := Lib.hid hn1
              clear hrp hn1
              refine wp_region_rf (fun w' => w' = w10.drew) [0, 1, 2, 3, 4, 5, 6, 7, 8, 9, 10, 11, 12, 13] [14] 0 [_, _, _, _, _, _, _, _, _, _, _, _, _, _] [_] (by kernel_rfl) (by kernel_rfl) rfl rfl (fun _ _ d _ _ h => by cases d <;> exact h) rfl ?_
              iterate 14 (refine wpR_step rfl (fun K hK => ?_); go_simp; refine hK _ ?_; clear hK K)
              refine wpR_nil (wpE_zero ?_)
              clear hq1 hq5
              go_wp2_with fail
              go_roundw
              case rel =>
                have hd := HRP.out.kept (Tch.drew (fun _ => False) w10) (fun _ _ _ => id)
                have e1 := blk_set hd.blk 20 (.slice aw2 (n1 - 1) cw2)
                have ho : Own F w10.drew 3 1 (.slice aw2 (n1 - 1) cw2) s.ws.length (ivs s.ws) := by
                  have h1 := hd.parts.wds
                  simp only [List.length_append, List.length_cons, List.length_nil, Nat.zero_add, ivs_append] at h1
                  rw [HN1.out, Nat.add_sub_cancel]
                  exact Own.pop h1
                have hR : Rep F (w10.drew.setCell ⟨B, 20, none⟩ (.slice aw2 (n1 - 1) cw2)) B S c { s with out := o7 ++ fmtL c s.buf s.lines.length d (s.ws ++ [W]) k' pk (seg s.lines k' m) } :=
                  ⟨bufv, lv, _, ov, vs, by rw [e1]; simp [wcells], hd.FB, (hd.parts.withWds ho).setB hd.blk 20 _⟩
                have hT : Tch F w (w10.drew.setCell ⟨B, 20, none⟩ (.slice aw2 (n1 - 1) cw2)) := (T10.out.trans (Tch.drew _ _)).trans (Tch.setCell _ hd.FB _)
                rw [HW.out] at hR
                have := ORel.next ha hak hkm2 hml hw3 HALL.out HEND.out HPA.out HPK.out HX.out HO7.out hR hT
                rw [← HPM.out] at this
                exact this
              case measure => simp [intOf]; omega
      · go_wp2_with fail
        go_roundw
        case rel =>
          have hh2 : has s.ws.length l = false := by simp [has]; omega
          refine ⟨a, k' + 1, k' + 1, X, ha, by omega, by omega, .inl rfl, rfl, by rw [HPA.out], rfl, ?_, HR.out, HT.out⟩
          rw [← HX.out, seg_snoc HLL.out hak, seg_cons HLL.out hlt hw3, fmtL_no _ _ hh2, linesOut_append, seg_len (by omega), seg_snoc HLL.out (by omega)]
          have e1 : p0 + SZ (seg s.lines l0 a) + (List.map sizeOfCells (seg s.lines a k')).sum = p0 + SZ (seg s.lines l0 k') := by
            rw [seg_split (a := l0) (k := a) (b := k') ha hak (by omega), SZ_append]; unfold SZ; omega
          rw [e1, show a + (k' - a) = k' by omega]
          simp [Nat.add_assoc]
        case measure => simp [intOf]; omega
    · have HR := Lib.hid hr1
      have HT := Lib.hid t1
      have HF1 := Lib.hid hF1
      clear hr1 t1 hF1
      obtain rfl : k = l1 := by omega
      have hxl := congrArg List.length HX.out
      rw [seg_self, fmtL_nil, List.append_nil] at hxl
      rw [← HPA.out] at hxl
      have hsp : pa + SZ (seg s.lines a k) = p0 + SZ (seg s.lines l0 k) := by
        rw [HPA.out, seg_split (a := l0) (k := a) (b := k) ha hak (by omega), SZ_append]; omega
      have HN := Lib.hid (stopUp (T' := s.out ++ fmtL c s.buf s.lines.length (d + 1) s.ws l0 p0 (seg s.lines l0 k)) (writeLines_rep HF1.out HR.out pa a k (hf.sub ha hak (Nat.le_refl _) _) (by have := HS.out; simp only; omega) (by have := HO.out; simp only [List.length_append] at this hxl ⊢; omega)) HT.out (fun _ _ => id) [] (by have h9 := HX.out; rw [seg_self, fmtL_nil, List.append_nil, ← HPA.out] at h9; rw [← h9]; simp only [List.append_assoc, List.append_nil]))
      have HSP := Lib.hid hsp
      clear hxl hsp
      go_wp2_with (go_at_call 53; (with_reducible refine HN.out.mono ?_); rintro e w7 hE; rcases hE with ⟨rfl, hw, ht7⟩ | hE; rotate_left; (obtain ⟨ch, rfl⟩ := hE.panic; exact And.intro rfl (Or.inr hE)); have HW := Lib.hid hw; have HT7 := Lib.hid ht7; clear hw ht7)
      go_ret
      have hX2 := HX.out
      rw [seg_self, fmtL_nil, List.append_nil, ← HPA.out] at hX2
      refine Or.inl ⟨?_, ?_, HT.out.trans HT7.out⟩
      · show Ending.returned (Value.int IntKind.i64 ((pa : Int) + (SZ (seg s.lines a k) : Nat))) = _
        rw [← HSP.out]; simp
      have := HW.out
      rw [List.append_assoc, hX2] at this
      exact this
end
end Go.Proofs.YteildpeogbenbaaDoor
