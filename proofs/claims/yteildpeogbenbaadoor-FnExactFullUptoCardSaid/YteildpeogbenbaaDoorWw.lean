/- Walks: impl.Full: what a sink with room gets. -/
import Derived.Test.YteildpeogbenbaaDoorWv
import Derived.Test.YteildpeogbenbaaDoorIs
namespace Go.Proofs.YteildpeogbenbaaDoor
open Go.RowKit Go.Tw Go.Sort
set_option maxRecDepth 100000

/-- A slice that reads as texts. -/
structure Wrs (w : World) (v : Value) (bss : List (List UInt8)) : Prop where
  val : ∃ ao cp, v = .slice ao bss.length cp ∧ bss.length ≤ 9223372036854775807 ∧ ∀ j (h : j < bss.length), ∃ ad u, ao = some ad ∧ ad.spot = none ∧ w.cell? ⟨ad.block, ad.off + j, none⟩ = some u ∧ Rw w u bss[j]

theorem Wrs.one (w : World) {u : Value} {bs : List UInt8} (h : Rd w u bs) : Wrs (w.alloc (.cells #[u] 26)) (.slice (some ⟨w.heap.size, 0, none⟩) 1 1) [bs] := by
  refine ⟨_, _, rfl, by simp, fun j hj => ?_⟩
  have : j = 0 := by simp at hj; omega
  subst this
  exact ⟨_, u, rfl, rfl, cell_of_blk (heap_alloc_new w _) 0, .inl (h.below ((Below.refl _ w).alloc (Nat.le_refl _) _))⟩

theorem Good2.new (c : Cfg) {p : Prop} (_ : p) (h1 : c.mn ≤ 1000) (h2 : c.tb ≤ 1000) (h3 : c.pd ≤ 1000) : Good2 c (St.new []) 0 := by
  have e1 : cellsOf [[]] = 0 := rfl
  refine ⟨⟨trivial, h1, h2, h3, by omega, .inl rfl, rfl, by simp [St.new], Nat.le_refl _, rfl, ?_, ⟨Int.le_refl _, ?_⟩, ?_⟩, fun h => by simp [St.new] at h⟩
  · simp only [St.new, e1, List.length_nil, List.length_cons]; omega
  · simp only [St.new, List.length_nil]; omega
  · intro l hl p hp
    simp [St.new] at hl; subst hl; simp at hp

/-- What a writer gives of a text, flushed at the end. -/
def outOf (c : Cfg) (bs : List UInt8) : List UInt8 := ((bs.foldl (St.step c) (St.new [])).flush c).out

def RdPost (w : World) (bs : List UInt8) (e : Ending) (w' : World) : Prop := ∃ v, e = .returned v ∧ Rd w' v bs ∧ Below w.heap.size w w'

section
variable {F : Nat → Prop} {w : World} {B S : Nat} {c : Cfg}

/-- The loop over the writes. -/
def IWRel (F : Nat → Prop) (w : World) (B S : Nat) (c : Cfg) (bss : List (List UInt8)) (t16 : Value) (wr : World) : Prop :=
  ∃ j : Nat, j ≤ bss.length ∧ t16 = .int .i64 j ∧ Rep F wr B S c ((bss.take j).flatten.foldl (St.step c) (St.new [])) ∧ Tch F w wr

theorem take_flatten {bss : List (List UInt8)} {j : Nat} (h : j < bss.length) : (bss.take (j + 1)).flatten = (bss.take j).flatten ++ bss[j] := by
  rw [List.take_succ_eq_append_getElem h, List.flatten_append]; rw [List.flatten_cons, List.flatten_nil, List.append_nil]
theorem take_flatten_le {bss : List (List UInt8)} (j : Nat) : (bss.take j).flatten.length ≤ bss.flatten.length := by
  have h := congrArg List.length (congrArg List.flatten (List.take_append_drop j bss))
  rw [List.flatten_append, List.length_append] at h
  omega

/-- What Full gives: the first bytes, and whether there are more. -/
def FullPost (w : World) (O : List UInt8) (r : Nat) (e : Ending) (w' : World) : Prop :=
  ∃ v, e = .returned (.tuple #[v, .bool (decide (r < O.length)), .bool (decide (r < O.length))]) ∧ Rd w' v (O.take r) ∧ Below w.heap.size w w'

theorem full_end {w w' : World} {O : List UInt8} {r : Nat} {ov : Value} {o x : List UInt8} (hrd : Rd w' ov o) (hl : (o.length : Int) = (r : Int)) (h1 : o ++ x = O) (h2 : x ≠ []) (hb : Below w.heap.size w w') : FullPost w O r (.returned (.tuple #[ov, .bool true, .bool true])) w' := by
  have h3 : 0 < x.length := List.length_pos_iff.2 h2
  have h4 : r < O.length := by rw [← h1, List.length_append]; omega
  have h5 : O.take r = o := by rw [← h1, List.take_append_of_le_length (by omega), List.take_of_length_le (by omega)]
  exact ⟨ov, by rw [decide_eq_true h4], by rw [h5]; exact hrd, hb⟩

theorem out_part {bss : List (List UInt8)} (j : Nat) : ∃ x, ((bss.take j).flatten.foldl (St.step c) (St.new [])).out ++ x = outOf c bss.flatten := by
  have e : bss.flatten = (bss.take j).flatten ++ (bss.drop j).flatten := by rw [← List.flatten_append, List.take_append_drop]
  obtain ⟨x, hx⟩ := steps_out (c := c) (bss.drop j).flatten ((bss.take j).flatten.foldl (St.step c) (St.new []))
  rw [← List.foldl_append, ← e] at hx
  exact ⟨x ++ _, by rw [← List.append_assoc, hx]; rfl⟩

set_option maxHeartbeats 4000000 in
theorem implFull_calls (hE : ∃ ea, w.cell? ⟨0, 0, none⟩ = some (.iface 116 (.pointer (some ea)))) (mn tb pd fl : Nat) (ch : UInt8) (hmn : mn ≤ 1000) (htb : tb ≤ 1000) (hpd : pd ≤ 1000) (hfl : fl < 64) {v : Value} {bss : List (List UInt8)} (hw : Wrs w v bss) (hb : bss.flatten.length ≤ 2400000) (room : Int) (r : Nat) (hr : (r : Int) = max 0 room) (hrm : r ≤ 9223372036854775807) :
    Calls Tryd.prog 8 #[.agg #[.int .i64 mn, .int .i64 tb, .int .i64 pd, .int .u8 ch.toNat, .int .i64 fl], v, .int .i64 room] w (FullPost w (outOf ⟨mn, tb, pd, ch, keepFl ch fl, r⟩ bss.flatten) r) := by
  obtain ⟨ao, cp, rfl, hbl, hcells⟩ := hw.val
  have hB := begin_calls (F := fun k => w.heap.size ≤ k) (S := w.heap.size + 1) (w := (w.alloc (.cells #[.int .i64 mn, .int .i64 tb, .int .i64 pd, .int .u8 ch.toNat, .int .i64 fl] 23)).alloc (.cells #[.slice none 0 0, .int .i64 r] 44)) (fun k hk => by simp at hk; omega) r (by omega) (by omega) (by have := heap_alloc_new (w.alloc (.cells #[.int .i64 mn, .int .i64 tb, .int .i64 pd, .int .u8 ch.toNat, .int .i64 fl] 23)) (.cells #[.slice none 0 0, .int .i64 r] 44); simpa using this) mn tb pd fl ch hmn htb hpd hfl
  have e2 : ((w.alloc (.cells #[.int .i64 mn, .int .i64 tb, .int .i64 pd, .int .u8 ch.toNat, .int .i64 fl] 23)).alloc (.cells #[.slice none 0 0, .int .i64 r] 44)).heap.size = w.heap.size + 2 := by simp
  rw [e2] at hB
  clear e2
  obtain ⟨c, hc⟩ : ∃ c : Cfg, c = ⟨mn, tb, pd, ch, keepFl ch fl, r⟩ := ⟨_, rfl⟩
  have hcr : c.room = r := by rw [hc]
  have gnew : Good2 c (St.new []) 0 := Good2.new c (p := True) trivial (by rw [hc]; exact hmn) (by rw [hc]; exact htb) (by rw [hc]; exact hpd)
  rw [← hc] at hB ⊢
  clear hc
  have HCR := Lib.hid hcr
  have HB := Lib.hid hB
  have HC := Lib.hid hcells
  have HE := Lib.hid hE
  have hmax : max (0 : Int) room = (r : Int) := hr.symm
  obtain ⟨O, hO⟩ : ∃ O, O = outOf c bss.flatten := ⟨_, rfl⟩
  rw [← hO]
  have HO := Lib.hid hO
  clear hB hcells hw hcr hE hO hr
  go_enter Tryd.func8, Tryd.ntmps8
  go_wp2_with (go_at_call 19; (with_reducible refine HB.out.mono ?_); rintro ed w2 ⟨rfl, hr, t⟩; have HR0 := Lib.hid hr; have T0 := Lib.hid (((Tch.alloc _ w _).trans (Tch.alloc _ _ _)).trans t); clear hr t HB)
  obtain ⟨F, hFe⟩ : ∃ F : Nat → Prop, F = fun k => w.heap.size ≤ k := ⟨_, rfl⟩
  rw [← hFe] at HR0 T0
  have hEV : Env F w := ⟨fun k hk => by rw [hFe]; exact hk, by obtain ⟨ea, he⟩ := HE.out; have := block_lt_of_cell he; rw [hFe]; exact Nat.not_le.2 this, HE.out⟩
  have hFn : ∀ k, k < w.heap.size → ¬ F k := fun k hk h => by rw [hFe] at h; exact absurd hk (Nat.not_lt.2 h)
  have HEV := Lib.hid hEV
  have HFN := Lib.hid hFn
  clear hEV hFn hFe HE
  generalize w.heap.size + 2 + 1 = B at HR0 ⊢
  have HW1 := Lib.hid (show w.heap.size ≤ w.heap.size + 1 by omega)
  generalize w.heap.size + 1 = S at HR0 HW1 ⊢
  have I0 : IWRel F w B S c bss (.int .i64 0) w2 := ⟨0, Nat.zero_le _, rfl, by simpa using HR0.out, T0.out⟩
  have HI0 := Lib.hid I0
  clear I0 hmax
  go_wp2_with fail
  go_loopw [25] (fun t25 wr => IWRel F w B S c bss t25 wr) (fun t25 _ => bss.length - (intOf t25).toNat)
  case atStart => exact HI0.out
  case round =>
    clear HI0 HR0 T0
    obtain ⟨j, hj, rfl, hr, t⟩ := hrel
    have HR := Lib.hid hr
    have T := Lib.hid t
    clear hr t
    have hfl2 := take_flatten_le (bss := bss) j
    have gj := gnew.steps (bss.take j).flatten (by omega)
    rw [Nat.zero_add] at gj
    by_cases hlt : j < bss.length
    · obtain ⟨ad, u, rfl, hsp, hcu, hru⟩ := HC.out j hlt
      obtain ⟨k0, o0, sp0⟩ := ad
      simp only at hsp hcu
      subst hsp
      have hcu2 : wr.cell? ⟨k0, o0 + j, none⟩ = some u := T.out.cell hcu (HFN.out _ (block_lt_of_cell hcu))
      have hru2 : Rw wr u bss[j] := hru.kept T.out (fun hne g hg => HFN.out _ ((hru.rd hne).lt hne hg))
      obtain ⟨au, cu, rfl⟩ : ∃ au cu, u = .slice au bss[j].length cu := hru.shape
      have hfl3 : (bss.take j).flatten.length + bss[j].length ≤ 2400000 := by
        have h1 := take_flatten_le (bss := bss) (j + 1)
        rw [take_flatten hlt, List.length_append] at h1
        omega
      obtain ⟨g, cap, w3, hrun, hg, hc1, hc2, hown, hbel⟩ := run_copy wr hru2 (by omega) 26
      have hev3 : Env F w3 := (HEV.out.to T.out).step (Tch.of_below (F := fun _ => False) hbel) id
      have hgl := hown.lt (g := g) rfl
      have hF3 : Env (But F g) w3 := ⟨fun k hk => ⟨hev3.new k hk, by omega⟩, fun h => hev3.out h.1, hev3.err⟩
      have hR3 : Rep (But F g) w3 B S c ((bss.take j).flatten.foldl (St.step c) (St.new [])) := (HR.out.but g hg).below hbel
      have hcell3 : ∀ i (h : i < bss[j].length), w3.cell? ⟨g, 0 + i, none⟩ = some (bv bss[j][i]) := by
        intro i hi
        obtain ⟨ao, cp, e, _, _, _, _, h5⟩ := (Own.rd hown).val
        obtain ⟨ad, ea, hcc⟩ := h5 i hi
        simp only [Value.slice.injEq] at e
        rw [← e.1] at ea
        cases ea
        exact hcc
      have hN := Write_calls hF3 hR3 gj hcell3 (fun h => h.2 rfl) hc1 hc2 hfl3
      rw [← List.foldl_append, ← take_flatten hlt] at hN
      have HN := Lib.hid hN
      have T3 := Lib.hid (T.out.trans (Tch.of_below hbel))
      have HRUN := Lib.hid hrun
      clear hN hev3 hF3 hR3 hcell3 hown hbel hrun hru hru2 hcu
      go_wp2_with (at_builtin; refine wpList_append_eq rfl (.tmp 31) (.tmp 32) 26 rfl rfl rfl HRUN.out ?_)
      refine HN.out.mono ?_
      rintro ed w4 (⟨rfl, hr, t⟩ | ⟨n4, ea, rfl, hce, s', ht, bufv, lv, wv, ov, vs, hrp, hl, ⟨x, h1, h2⟩, t⟩)
      · have HR4 := Lib.hid hr
        have T4 := Lib.hid (T3.out.trans (t.mono (fun k h => h.1)))
        clear hr t
        go_wp2_with fail
        go_roundw
        case rel => exact ⟨j + 1, by omega, rfl, HR4.out.unbut, T4.out⟩
        case measure => simp [intOf]; omega
      · have cS : w4.cell? ⟨S, 0, none⟩ = some ov := cell_of_blk hrp.parts.sink 0
        have HRD := Lib.hid (Own.rd hrp.parts.out)
        have HL := Lib.hid hl
        have HX := Lib.hid (And.intro h1 h2)
        have T4 := Lib.hid (T3.out.trans (t.mono (fun k h => h.1)))
        clear hrp hl h1 h2 t
        go_wp2_with fail
        refine wp_region_rf (fun w' => w' = w4.drew) [0, 1, 2, 3, 4, 5] [6, 7, 8, 9] 4 [_, _, _, _, _, _] [_, _, _, _] (by kernel_rfl) (by kernel_rfl) rfl rfl (fun _ _ d _ _ h => by cases d <;> exact h) rfl ?_
        iterate 6 (refine wpR_step rfl (fun K hK => ?_); go_simp; refine hK _ ?_; clear hK K)
        refine wpR_nil ?_
        refine wpE_step rfl (fun K hK => ?_)
        go_simp
        refine (is_same ea w4.drew).mono ?_
        rintro e w5 ⟨rfl, rfl⟩
        refine hK _ _ rfl ?_
        clear hK K
        iterate 3 (refine wpE_step rfl (fun K hK => ?_); go_simp; refine hK _ _ rfl ?_; clear hK K)
        refine wpE_zero ?_
        go_wp2_with fail
        refine bodyPost_ret (v := .tuple #[ov, .bool true, .bool true]) (by simp [results, Tryd.results8, go_sem]) rfl ?_
        obtain ⟨y, hy⟩ := out_part (c := c) (bss := bss) (j + 1)
        exact full_end (x := x ++ y) HRD.out.drew (HL.out.trans HCR.out) (by rw [← List.append_assoc, HX.out.1, hy, HO.out]) (by simp [HX.out.2]) ((T4.out.trans (Tch.drew _ _)).below (Nat.le_refl _) HFN.out)
    · obtain rfl : j = bss.length := by omega
      rw [List.take_length] at HR gj
      have HN := Lib.hid (Flush_calls (HEV.out.to T.out) HR.out gj.toGood)
      go_wp2_with fail
      refine HN.out.mono ?_
      rintro ed w4 (⟨rfl, hr, t⟩ | ⟨ea, rfl, hce, s', ht, bufv, lv, wv, ov, vs, hrp, hl, ⟨x, h1, h2⟩, t⟩)
      · obtain ⟨bufv, lv, wv, ov, vs, hrp⟩ := hr
        have cS : w4.cell? ⟨S, 0, none⟩ = some ov := cell_of_blk hrp.parts.sink 0
        have HRP := Lib.hid hrp
        have T4 := Lib.hid (T.out.trans t)
        clear hrp t
        go_wp2_with fail
        refine bodyPost_ret (v := .tuple #[ov, .bool false, .bool false]) (by simp [results, Tryd.results8, go_sem]) rfl ?_
        have hfit := HRP.out.parts.fits.1
        have hO2 : O = (St.flush c (List.foldl (St.step c) (St.new []) bss.flatten)).out := HO.out
        rw [← hO2, HCR.out] at hfit
        have hrd := Own.rd HRP.out.parts.out
        rw [← hO2] at hrd
        have hle : O.length ≤ r := by omega
        exact ⟨ov, by rw [decide_eq_false (by omega)], by rw [List.take_of_length_le hle]; exact hrd, T4.out.below (Nat.le_refl _) HFN.out⟩
      · have cS : w4.cell? ⟨S, 0, none⟩ = some ov := cell_of_blk hrp.parts.sink 0
        have HRD := Lib.hid (Own.rd hrp.parts.out)
        have HL := Lib.hid hl
        have HX := Lib.hid (And.intro h1 h2)
        have T4 := Lib.hid (T.out.trans t)
        clear hrp hl h1 h2 t
        go_wp2_with fail
        refine wp_region_rf (fun w' => w' = w4.drew) [0, 1, 2, 3, 4, 5] [6, 7, 8, 9] 4 [_, _, _, _, _, _] [_, _, _, _] (by kernel_rfl) (by kernel_rfl) rfl rfl (fun _ _ d _ _ h => by cases d <;> exact h) rfl ?_
        iterate 6 (refine wpR_step rfl (fun K hK => ?_); go_simp; refine hK _ ?_; clear hK K)
        refine wpR_nil ?_
        refine wpE_step rfl (fun K hK => ?_)
        go_simp
        refine (is_same ea w4.drew).mono ?_
        rintro e w5 ⟨rfl, rfl⟩
        refine hK _ _ rfl ?_
        clear hK K
        iterate 3 (refine wpE_step rfl (fun K hK => ?_); go_simp; refine hK _ _ rfl ?_; clear hK K)
        refine wpE_zero ?_
        go_wp2_with fail
        refine bodyPost_ret (v := .tuple #[ov, .bool true, .bool true]) (by simp [results, Tryd.results8, go_sem]) rfl ?_
        exact full_end (x := x) HRD.out.drew (HL.out.trans HCR.out) (by rw [HX.out.1, HO.out]; rfl) HX.out.2 ((T4.out.trans (Tch.drew _ _)).below (Nat.le_refl _) HFN.out)
end
end Go.Proofs.YteildpeogbenbaaDoor
