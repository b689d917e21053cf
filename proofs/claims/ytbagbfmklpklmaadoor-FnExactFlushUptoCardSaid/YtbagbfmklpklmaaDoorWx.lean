/- Walks: impl.Flush; what a writer gives behind other output. -/
import Derived.Test.YtbagbfmklpklmaaDoorWw
namespace Go.Proofs.YtbagbfmklpklmaaDoor
open Go.RowKit Go.Tw Go.Sort
set_option maxRecDepth 100000

section
variable {c : Cfg}
/-- The same, behind other output. -/
def St.pre (o : List UInt8) (s : St) : St := { s with out := o ++ s.out }
theorem flush_pre (o : List UInt8) (s : St) : (s.pre o).flush c = (s.flush c).pre o := by
  unfold St.flush St.rest St.pre St.term St.endEsc
  split
  · split <;> simp [List.append_assoc]
  · simp [List.append_assoc]
theorem step_pre (o : List UInt8) (s : St) (b : UInt8) : (s.pre o).step c b = (s.step c b).pre o := by
  have h1 : (s.pre o).upd = s.upd.pre o := rfl
  have h2 : ∀ (t : St) (x : Bool), (t.pre o).term x = (t.term x).pre o := fun _ _ => rfl
  have h3 : ∀ (t : St), (t.pre o).line = t.line.pre o := fun _ => rfl
  have h4 : ∀ (t : St) (x : UInt8), (t.pre o).put x = (t.put x).pre o := fun _ _ => rfl
  have h5 : ∀ (t : St) (x : UInt8), (t.pre o).esc x = (t.esc x).pre o := fun _ _ => rfl
  have h6 : ∀ (t : St), (t.pre o).endEsc c = (t.endEsc c).pre o := fun _ => rfl
  have h7 : ∀ (t : St) (x : List UInt8), (t.pre o).more x = (t.more x).pre o := fun t x => by simp [St.pre, St.more, List.append_assoc]
  have h8 : ∀ (t : St), (t.pre o).nl c = (t.nl c).pre o := fun t => by
    unfold St.nl
    have : (t.pre o).lines = t.lines := rfl
    rw [this]
    split
    · rw [h3, flush_pre]
    · rfl
  have h9 : ∀ (t : St), (t.pre o).ff c = (t.ff c).pre o := fun t => by
    unfold St.ff
    split
    · rw [h3, flush_pre, h7]
    · rw [h3, flush_pre]
  have h10 : (s.pre o).en = s.en := rfl
  have h11 : (if c.flag 2 = true then s.upd.pre o else (s.upd.put 255).pre o) = St.pre o (if c.flag 2 = true then s.upd else s.upd.put 255) := by split <;> rfl
  have h12 : (if b = 255 ∧ c.flag 2 = true then s.pre o else (s.put b).pre o) = St.pre o (if b = 255 ∧ c.flag 2 = true then s else s.put b) := by split <;> rfl
  unfold St.step
  simp only [h10, h1, h2, h8, h9, h4, h5, h11, h12, h6]
  split
  · split
    · rfl
    · split
      · rfl
      · split
        · rfl
        · split
          · rfl
          · split
            · rfl
            · split
              · rfl
              · split <;> rfl
  · split <;> rfl
theorem steps_pre (o : List UInt8) : ∀ (bs : List UInt8) (s : St), bs.foldl (St.step c) (s.pre o) = (bs.foldl (St.step c) s).pre o := by
  intro bs
  induction bs with
  | nil => intro s; rfl
  | cons b bs ih => intro s; simp only [List.foldl_cons]; rw [step_pre, ih]
theorem flush_new (o bs : List UInt8) : (bs.foldl (St.step c) (St.new o)).flush c = St.new (o ++ outOf c bs) := by
  have e : St.new o = (St.new []).pre o := by simp [St.new, St.pre]
  rw [e, steps_pre, flush_pre]
  rfl

theorem outOf_le (g : Good2 c (St.new []) 0) (bs : List UInt8) (h : bs.length ≤ 1000000) : (outOf c bs).length ≤ 16000000 * bs.length + 6000000 := by
  have gs := g.steps bs (by omega)
  have hc := gs.cost
  have hf := gs.toGood.flush
  have e1 : cellsOf (St.flush c (bs.foldl (St.step c) (St.new []))).lines = 0 := rfl
  have e2 : (St.flush c (bs.foldl (St.step c) (St.new []))).lines.length = 1 := rfl
  rw [e1, e2] at hf
  unfold outOf
  omega
theorem flatMap_len {bss : List (List UInt8)} (f : List UInt8 → List UInt8) (h : ∀ b : List UInt8, b ∈ bss → (f b).length ≤ 16000000 * b.length + 6000000) : (bss.flatMap f).length ≤ 16000000 * (bss.flatten.length + bss.length) := by
  induction bss with
  | nil => simp
  | cons b bss ih =>
    have h1 := h b (by simp)
    have h2 := ih (fun x hx => h x (by simp [hx]))
    simp only [List.flatMap_cons, List.flatten_cons, List.length_append, List.length_cons]
    omega
theorem good_flushed (g : Good2 c (St.new []) 0) (bss : List (List UInt8)) (j : Nat) (h : bss.flatten.length + bss.length ≤ 1000000) (hj : j ≤ bss.length) : Good2 c (St.new ((bss.take j).flatMap (outOf c))) ((bss.take j).flatten.length + j) := by
  have hl := take_flatten_le (bss := bss) j
  have hle := flatMap_len (bss := bss.take j) (outOf c) (fun b hb => outOf_le g b (by
    have : b ∈ bss := List.mem_of_mem_take hb
    have h2 : b.length ≤ bss.flatten.length := by
      clear h hl hj hb
      induction bss with
      | nil => cases this
      | cons x r ih =>
        rw [List.flatten_cons, List.length_append]
        rcases List.mem_cons.1 this with rfl | h
        · omega
        · have := ih h; omega
    omega))
  have hlen : (bss.take j).length = j := by simp; omega
  rw [hlen] at hle
  have e1 : cellsOf [[]] = 0 := rfl
  refine ⟨⟨g.room, g.mn, g.tb, g.pd, by omega, .inl rfl, rfl, by simp [St.new], Nat.le_refl _, rfl, ?_, ⟨Int.le_refl _, ?_⟩, ?_⟩, fun h => by simp [St.new] at h⟩
  · simp only [St.new, e1, List.length_nil, List.length_cons]; omega
  · simp only [St.new, List.length_nil]; omega
  · intro l hl p hp
    simp [St.new] at hl; subst hl; simp at hp
end

section
variable {F : Nat → Prop} {w : World} {B S : Nat} {c : Cfg}

/-- The loop over the writes, each flushed. -/
def IFRel (F : Nat → Prop) (w : World) (B S : Nat) (c : Cfg) (bss : List (List UInt8)) (t16 : Value) (wr : World) : Prop :=
  ∃ j : Nat, j ≤ bss.length ∧ t16 = .int .i64 j ∧ Rep F wr B S c (St.new ((bss.take j).flatMap (outOf c))) ∧ Tch F w wr

set_option maxHeartbeats 2000000 in
theorem implFlush_calls (mn tb pd fl : Nat) (ch : UInt8) (hmn : mn ≤ 1000) (htb : tb ≤ 1000) (hpd : pd ≤ 1000) (hfl : fl < 64) {v : Value} {bss : List (List UInt8)} (hw : Wrs w v bss) (hb : bss.flatten.length + bss.length ≤ 1000000) :
    Calls Tryd.prog 20 #[.agg #[.int .i64 mn, .int .i64 tb, .int .i64 pd, .int .u8 ch.toNat, .int .i64 fl], v] w (RdPost w (bss.flatMap (outOf ⟨mn, tb, pd, ch, keepFl ch fl, -1⟩))) := by
  obtain ⟨ao, cp, rfl, hbl, hcells⟩ := hw.val
  have hB := begin_calls (F := fun k => w.heap.size ≤ k) (S := w.heap.size + 1) (w := (w.alloc (.cells #[.int .i64 mn, .int .i64 tb, .int .i64 pd, .int .u8 ch.toNat, .int .i64 fl] 23)).alloc (.cells #[.slice none 0 0, .int .i64 (-1)] 43)) (fun k hk => by simp at hk; omega) (-1) (by omega) (by have := heap_alloc_new (w.alloc (.cells #[.int .i64 mn, .int .i64 tb, .int .i64 pd, .int .u8 ch.toNat, .int .i64 fl] 23)) (.cells #[.slice none 0 0, .int .i64 (-1)] 43); simpa using this) mn tb pd fl ch hmn htb hpd hfl
  have e2 : ((w.alloc (.cells #[.int .i64 mn, .int .i64 tb, .int .i64 pd, .int .u8 ch.toNat, .int .i64 fl] 23)).alloc (.cells #[.slice none 0 0, .int .i64 (-1)] 43)).heap.size = w.heap.size + 2 := by simp
  rw [e2] at hB
  clear e2
  obtain ⟨c, hc⟩ : ∃ c : Cfg, c = ⟨mn, tb, pd, ch, keepFl ch fl, -1⟩ := ⟨_, rfl⟩
  have gnew : Good2 c (St.new []) 0 := Good2.new c (by rw [hc]; exact (by decide : (-1 : Int) < 0)) (by rw [hc]; exact hmn) (by rw [hc]; exact htb) (by rw [hc]; exact hpd)
  have GNEW := Lib.hid (fun (j : Nat) (hj : j ≤ bss.length) => good_flushed gnew bss j (by omega) hj)
  rw [← hc] at hB ⊢
  clear hc
  have HB := Lib.hid hB
  have HC := Lib.hid hcells
  clear hB hcells hw
  go_enter Tryd.func20, Tryd.ntmps20
  go_wp2_with (go_at_call 24; (with_reducible refine HB.out.mono ?_); rintro ed w2 ⟨rfl, hr, t⟩; have HR0 := Lib.hid hr; have T0 := Lib.hid (((Tch.alloc _ w _).trans (Tch.alloc _ _ _)).trans t); clear hr t HB)
  obtain ⟨F, hFe⟩ : ∃ F : Nat → Prop, F = fun k => w.heap.size ≤ k := ⟨_, rfl⟩
  rw [← hFe] at HR0 T0
  have hF : ∀ k, w.heap.size ≤ k → F k := fun k hk => by rw [hFe]; exact hk
  have hFn : ∀ k, k < w.heap.size → ¬ F k := fun k hk h => by rw [hFe] at h; exact absurd hk (Nat.not_lt.2 h)
  have HF := Lib.hid hF
  have HFN := Lib.hid hFn
  clear hF hFn hFe
  have hsp : w.heap.size + 1 + 2 = w.heap.size + 3 := rfl
  clear hsp
  generalize w.heap.size + 2 + 1 = B at HR0 ⊢
  have HW1 := Lib.hid (show w.heap.size ≤ w.heap.size + 1 by omega)
  generalize w.heap.size + 1 = S at HR0 HW1 ⊢
  have I0 : IFRel F w B S c bss (.int .i64 0) w2 := ⟨0, Nat.zero_le _, rfl, by simpa using HR0.out, T0.out⟩
  have HI0 := Lib.hid I0
  clear I0
  go_wp2_with fail
  go_loopw [16] (fun t16 wr => IFRel F w B S c bss t16 wr) (fun t16 _ => bss.length - (intOf t16).toNat)
  case atStart => exact HI0.out
  case round =>
    clear HI0 HR0 T0
    obtain ⟨j, hj, rfl, hr, t⟩ := hrel
    have HR := Lib.hid hr
    have T := Lib.hid t
    clear hr t
    have hfl2 := take_flatten_le (bss := bss) j
    have gj := GNEW.out j hj
    by_cases hlt : j < bss.length
    · obtain ⟨ad, u, rfl, hsp, hcu, hru⟩ := HC.out j hlt
      obtain ⟨k0, o0, sp0⟩ := ad
      simp only at hsp hcu
      subst hsp
      have hcu2 : wr.cell? ⟨k0, o0 + j, none⟩ = some u := T.out.cell hcu (HFN.out _ (block_lt_of_cell hcu))
      have hru2 : Rw wr u bss[j] := hru.kept T.out (fun hne g hg => HFN.out _ ((hru.rd hne).lt hne hg))
      obtain ⟨au, cu, rfl⟩ : ∃ au cu, u = .slice au bss[j].length cu := hru.shape
      have hfl3 : (bss.take j).flatten.length + j + bss[j].length ≤ 1000000 := by
        have h1 := take_flatten_le (bss := bss) (j + 1)
        rw [take_flatten hlt, List.length_append] at h1
        omega
      obtain ⟨g, cap, w3, hrun, hg, hc1, hc2, hown, hbel⟩ := run_copy wr hru2 (by omega) 26
      have hF3 : ∀ k, w3.heap.size ≤ k → But F g k := by
        intro k hk
        have h1 := hown.lt (g := g) rfl
        have h2 := T.out.size
        exact ⟨HF.out k (by omega), by omega⟩
      have hR3 : Rep (But F g) w3 B S c (St.new ((bss.take j).flatMap (outOf c))) := (HR.out.but g hg).below hbel
      have hcell3 : ∀ i (h : i < bss[j].length), w3.cell? ⟨g, 0 + i, none⟩ = some (bv bss[j][i]) := by
        intro i hi
        obtain ⟨ao, cp, e, _, _, _, _, h5⟩ := (Own.rd hown).val
        obtain ⟨ad, ea, hcc⟩ := h5 i hi
        simp only [Value.slice.injEq] at e
        rw [← e.1] at ea
        cases ea
        exact hcc
      have hN := Write_calls hF3 hR3 gj hcell3 (fun h => h.2 rfl) hc1 hc2 hfl3
      have gN := Lib.hid (gj.steps bss[j] hfl3).toGood
      have HFN2 := Lib.hid (show (bss[j].foldl (St.step c) (St.new ((bss.take j).flatMap (outOf c)))).flush c = St.new ((bss.take (j + 1)).flatMap (outOf c)) by
        rw [flush_new, List.take_succ_eq_append_getElem hlt, List.flatMap_append]
        simp)
      have HN := Lib.hid hN
      have T3 := Lib.hid (T.out.trans (Tch.of_below hbel))
      have HRUN := Lib.hid hrun
      clear hN hF3 hR3 hcell3 hown hbel hrun hru hru2 hcu
      go_wp2_with (first | (at_builtin; refine wpList_append_eq rfl (.tmp 21) (.tmp 22) 26 rfl rfl rfl HRUN.out ?_) | (go_at_call 25; (with_reducible refine HN.out.mono ?_); rintro ed w4 ⟨rfl, hr, t⟩; have HR4 := Lib.hid hr.unbut; have T4 := Lib.hid (T3.out.trans (t.mono (fun k h => h.1))); clear hr t; have HNF := Lib.hid (Flush_calls (fun k hk => HF.out k (Nat.le_trans T4.out.size hk)) HR4.out gN.out)) | (go_at_call 26; (with_reducible refine HNF.out.mono ?_); rintro ed w5 ⟨rfl, hr, t⟩; have HR5 := Lib.hid hr; have T5 := Lib.hid (T4.out.trans t); clear hr t))
      go_roundw
      case rel => exact ⟨j + 1, by omega, rfl, by rw [← HFN2.out]; exact HR5.out, T5.out⟩
      case measure => simp [intOf]; omega
    · obtain rfl : j = bss.length := by omega
      rw [List.take_length] at HR
      obtain ⟨bufv, lv, wv, ov, vs, hrp⟩ := HR.out
      have cS : wr.cell? ⟨S, 0, none⟩ = some ov := cell_of_blk hrp.parts.sink 0
      have HRP := Lib.hid hrp
      clear hrp
      go_wp2_with fail
      go_ret
      exact ⟨ov, rfl, Own.rd HRP.out.parts.out, T.out.below (Nat.le_refl _) HFN.out⟩
end
end Go.Proofs.YtbagbfmklpklmaaDoor
