/- 'FnOneLine': a line of one column is its cell, padded, and the rest. -/
import Derived.Test.YtaagcdlghoiolaaDoorCards
import Derived.Test.YtaagcdlghoiolaaDoorTie
import Derived.Test.YtaagcdlghoiolaaDoorVe
import Derived.Test.YtaagcdlghoiolaaDoorQe
import Derived.Test.YtaagcdlghoiolaaDoorLe
import Derived.Test.YtaagcdlghoiolaaDoorPo
import Derived.Test.YtaagcdlghoiolaaDoorOrx
import Derived.WalkKit
import Derived.ProofKit
import Derived.OpenShut
import Derived.Deep.DeepHandedRow
import Derived.Deep.DeepWitnessRowRef
namespace Go.Proofs.YtaagcdlghoiolaaDoor
open Go.RowKit Go.Tw Go.Sort
set_option maxRecDepth 100000

theorem conv_bytes (w : World) (l : List UInt8) (hl : l.length ≤ 1000000000000) : ∃ cp wz, (convert 9 24 (.string ⟨l.toArray⟩)).run Tryd.prog w = .ok (.slice (some ⟨w.heap.size, 0, none⟩) l.length cp) wz ∧ Rd wz (.slice (some ⟨w.heap.size, 0, none⟩) l.length cp) l ∧ Below w.heap.size w wz :=
  ⟨_, _, Lib.run_convert_string_bytes w 9 24 5 ⟨l.toArray⟩ Tryd.underlying9 Tryd.underlying24 Tryd.underlying5, Rd.bytes w l hl⟩
theorem flag_zero {m t p : Nat} {ch : UInt8} (h : ch ≠ 9) (k : Int) (hk : k ∈ flagsL) : (cfgOf m t p 0 ch).flag k = false := by
  unfold Cfg.flag cfgOf keepFl
  simp only [h, if_false]
  revert k
  decide
theorem ends_zero {m t p : Nat} {ch : UInt8} (h : ch ≠ 9) {s : List UInt8} (hs : ∀ x ∈ s, x ≠ 255) : ∀ x ∈ s, endOf (cfgOf m t p 0 ch) x = 0 := by
  intro x hx
  have h1 := flag_zero (m := m) (t := t) (p := p) h 1 (by simp [flagsL])
  unfold endOf
  rw [if_neg (hs x hx), if_neg (fun e => by rw [h1] at e; exact absurd e.2 (by simp)), if_neg (fun e => by rw [h1] at e; exact absurd e.2 (by simp))]
def OlRel (base : World) (xa : List UInt8) (ch : UInt8) (ra K : Nat) (t7 t8 : Value) (wr : World) : Prop :=
  ∃ (j : Nat) (v : Value), v = t7 ∧ j ≤ K ∧ t8 = .int .i64 ((ra + j : Nat) : Int) ∧ Own (New base) wr 5 1 v (xa.length + j) (bvs (xa ++ List.replicate j ch)) ∧ Tch (New base) base wr

set_option maxHeartbeats 8000000 in
theorem oneLine_calls (w : World) (mn tb pd fl : Int) (ch : UInt8) {va vb : Value} {a b : List UInt8} (h : Rd w va a) (hb : Rd w vb b) (hT : Lib.Utf8Tabs 1 2 w) :
    Calls Tryd.prog 7 #[.agg #[.int .i64 mn, .int .i64 tb, .int .i64 pd, .int .u8 ch.toNat, .int .i64 fl], va, vb] w fun e w' => e = .returned (.bool true) ∧ Below w.heap.size w w' := by
  have L0 := Lib.hid (LS.start (mn := mn) (tb := tb) (pd := pd) (ch := ch) (fl := fl) h)
  have HT := Lib.hid hT
  have HRA := Lib.hid h
  have HRB := Lib.hid hb
  obtain ⟨ao, cp, rfl, g1, g2⟩ := L0.out.shape
  obtain ⟨bo, bp, rfl, g3, g4, -⟩ := hb.val
  unfold maxLen at g4
  clear h hb hT
  by_cases hla : a.length ≤ 2147483647
  rotate_left
  · go_enter Tryd.func7, Tryd.ntmps7
    go_wp2_with fail
    go_ret
    exact ⟨rfl, L0.out.bel⟩
  by_cases hlb : b.length ≤ 2147483647
  rotate_left
  · go_enter Tryd.func7, Tryd.ntmps7
    go_wp2_with fail
    go_ret
    exact ⟨rfl, L0.out.bel⟩
  go_enter Tryd.func7, Tryd.ntmps7
  go_wp2_with fail
  refine (specWord_calls _ L0.out.rd (by omega)).mono ?_
  rintro e w1 ⟨v1, rfl, hr1, hb1⟩
  obtain ⟨xa, hxa⟩ : ∃ x, x = wrd a := ⟨_, rfl⟩
  have hlxa : xa.length ≤ a.length := by rw [hxa]; exact List.length_filter_le _ _
  have HWxa := Lib.hid (show ∀ y ∈ xa, brk y = false ∧ y ≠ 255 from fun y hy => wrd_mem (by rw [← hxa]; exact hy))
  rw [← hxa] at hr1
  have L1 := Lib.hid (L0.out.step hb1)
  have HA1 := Lib.hid hr1
  obtain ⟨a1, c1, rfl, -, q1, -⟩ := hr1.val
  unfold maxLen at q1
  clear hb1 hr1 L0 hxa
  go_wp2_with fail
  refine (specWord_calls _ (HRB.out.below L1.out.bel) (by omega)).mono ?_
  rintro e w2 ⟨v2, rfl, hr2, hb2⟩
  obtain ⟨xb, hxb⟩ : ∃ x, x = wrd b := ⟨_, rfl⟩
  have hlxb : xb.length ≤ b.length := by rw [hxb]; exact List.length_filter_le _ _
  have HWxb := Lib.hid (show ∀ y ∈ xb, brk y = false ∧ y ≠ 255 from fun y hy => wrd_mem (by rw [← hxb]; exact hy))
  rw [← hxb] at hr2
  have L2 := Lib.hid (L1.out.step hb2)
  have HB2 := Lib.hid hr2
  have HA2 := Lib.hid (HA1.out.below hb2)
  obtain ⟨a2, c2, rfl, -, q2, -⟩ := hr2.val
  unfold maxLen at q2
  clear hb2 hr2 L1 HA1 hxb
  obtain ⟨d0, d1, d2, d3, d4⟩ := L2.out.cells
  have hV := valid_calls w2 mn tb pd fl ch
  by_cases hv : Vld mn tb pd fl
  rotate_left
  · rw [decide_eq_false hv] at hV
    have HV := Lib.hid hV
    clear hV hv
    go_wp2_with fail
    refine HV.out.mono ?_
    rintro e w3 ⟨rfl, hb3⟩
    have L3 := Lib.hid (L2.out.step hb3)
    clear hb3
    go_wp2_with fail
    go_ret
    exact ⟨rfl, L3.out.bel⟩
  rw [decide_eq_true hv] at hV
  have HV := Lib.hid hV
  obtain ⟨⟨y1, z1⟩, ⟨y2, z2⟩, ⟨y3, z3⟩, -, -⟩ := hv
  clear hV
  obtain ⟨m, rfl⟩ := Int.eq_ofNat_of_zero_le y1
  obtain ⟨t, rfl⟩ := Int.eq_ofNat_of_zero_le y2
  obtain ⟨p, rfl⟩ := Int.eq_ofNat_of_zero_le y3
  have l1 : m ≤ 1000 := by omega
  have l2 : t ≤ 1000 := by omega
  have l3 : p ≤ 1000 := by omega
  clear y1 z1 y2 z2 y3 z3
  go_wp2_with fail
  refine HV.out.mono ?_
  rintro e w3 ⟨rfl, hb3⟩
  have L3 := Lib.hid (L2.out.step hb3)
  have HA3 := Lib.hid (HA2.out.below hb3)
  have HB3 := Lib.hid (HB2.out.below hb3)
  clear hb3 L2 HA2 HB2 HV d0 d1 d2 d3 d4
  obtain ⟨d0, d1, d2, d3, d4⟩ := L3.out.cells
  have e9 := u8_eq (b := ch) (c := 9) (n := 9) rfl
  by_cases h9 : ch = 9
  · rw [decide_eq_true h9] at e9
    clear h9
    go_wp2_with fail
    go_ret
    exact ⟨rfl, L3.out.bel⟩
  rw [decide_eq_false h9] at e9
  have H9 := Lib.hid h9
  clear h9
  by_cases g127 : ch.toNat ≤ 127
  rotate_left
  · have h127 : (127 : Int) < (ch.toNat : Int) := by omega
    have h127b : decide ((127 : Int) < (ch.toNat : Int)) = true := decide_eq_true h127
    have h127c : 127 < ch.toNat := by omega
    go_wp2_with fail
    go_ret
    exact ⟨rfl, L3.out.bel⟩
  have h127 : ¬ ((127 : Int) < (ch.toNat : Int)) := by omega
  have h127b : decide ((127 : Int) < (ch.toNat : Int)) = false := decide_eq_false h127
  have h127c : ¬ (127 < ch.toNat) := by omega
  by_cases hf0 : fl = 0
  rotate_left
  · have hf1 : (fl != 0) = true := by simpa using hf0
    go_wp2_with fail
    go_ret
    exact ⟨rfl, L3.out.bel⟩
  subst hf0
  go_wp2_with fail
  refine (text_calls _ HA3.out (Utf8Tabs_below HT.out L3.out.bel) (by omega)).mono ?_
  rintro e w4 ⟨⟨xt, rfl⟩, hb4⟩
  have L4 := Lib.hid (L3.out.step hb4)
  have HA4 := Lib.hid (HA3.out.below hb4)
  have HB4 := Lib.hid (HB3.out.below hb4)
  clear hb4 L3 HA3 HB3 d0 d1 d2 d3 d4 h127 h127b h127c e9
  cases xt
  · go_wp2_with fail
    go_ret
    exact ⟨rfl, L4.out.bel⟩
  go_wp2_with fail
  refine (text_calls _ HB4.out (Utf8Tabs_below HT.out L4.out.bel) (by omega)).mono ?_
  rintro e w5 ⟨⟨xt, rfl⟩, hb5⟩
  have L5 := Lib.hid (L4.out.step hb5)
  have HA5 := Lib.hid (HA4.out.below hb5)
  have HB5 := Lib.hid (HB4.out.below hb5)
  clear hb5 L4 HA4 HB4
  cases xt
  · go_wp2_with fail
    go_ret
    exact ⟨rfl, L5.out.bel⟩
  go_wp2_with fail
  have HS := small_calls w5 HA5.out
  by_cases hsxa : xa.length ≤ 3000
  rotate_left
  · rw [decide_eq_false hsxa] at HS
    have HS2 := Lib.hid HS
    clear HS
    refine HS2.out.mono ?_
    rintro e wq ⟨rfl, rfl⟩
    go_wp2_with fail
    go_ret
    exact ⟨rfl, L5.out.bel⟩
  rw [decide_eq_true hsxa] at HS
  refine HS.mono ?_
  rintro e wq ⟨rfl, rfl⟩
  clear HS
  go_wp2_with fail
  have HS := small_calls w5 HB5.out
  by_cases hsxb : xb.length ≤ 3000
  rotate_left
  · rw [decide_eq_false hsxb] at HS
    have HS2 := Lib.hid HS
    clear HS
    refine HS2.out.mono ?_
    rintro e wq ⟨rfl, rfl⟩
    go_wp2_with fail
    go_ret
    exact ⟨rfl, L5.out.bel⟩
  rw [decide_eq_true hsxb] at HS
  refine HS.mono ?_
  rintro e wq ⟨rfl, rfl⟩
  clear HS
  obtain ⟨aA0, pA0, xA0, hrA0, hoA0, tA0⟩ := bld_copy (Tch.refl (New w5) w5) HA5.out (by omega) 24
  have HRUNA0 := Lib.hid hrA0
  have hRn := runes_calls xA0 (HA5.out.below (New.below tA0)) (by omega)
  obtain ⟨ra, hra⟩ : ∃ r, r = rc xa := ⟨_, rfl⟩
  have hral : ra ≤ xa.length := by rw [hra]; exact rc_le xa
  rw [← hra] at hRn
  have HRA0 := Lib.hid hra
  have HRN := Lib.hid hRn
  clear hra hRn
  obtain ⟨d0, d1, d2, d3, d4⟩ := L5.out.cells
  go_wp2_with (first | (at_builtin; refine wpList_append_eq rfl (.tmp 59) (.tmp 60) 24 rfl rfl rfl HRUNA0.out ?_))
  refine HRN.out.mono ?_
  rintro e w6 ⟨rfl, hb6⟩
  have hG6 : Tch (New w5) w5 w6 := tA0.trans (Tch.of_below hb6)
  have hO6 : Own (New w5) w6 5 1 (.slice aA0 xa.length pA0) xa.length (bvs xa) := hoA0.kept (Tch.of_below (F := fun _ => False) hb6) (fun _ _ h => h)
  obtain ⟨NN, hK0⟩ : ∃ K, K = max m (ra + p) - ra := ⟨_, rfl⟩
  have hkm : ra + NN = max m (ra + p) := by omega
  have HK0 := Lib.hid hK0
  have H0 := Lib.hid (show OlRel w5 xa ch ra NN (.slice aA0 xa.length pA0) (.int .i64 ra) w6 from ⟨0, _, rfl, Nat.zero_le _, rfl, by simpa using hO6, hG6⟩)
  clear HRN hb6 hG6 hO6 hoA0 tA0 hrA0 HRUNA0 hK0 d0 d1 d2 d3 d4
  go_wp2_with fail
  go_loopw [7, 8] (fun t7 t8 wr => OlRel w5 xa ch ra NN t7 t8 wr) (fun _ t8 _ => (ra + NN) - (intOf t8).toNat)
  case atStart => exact H0.out
  case round =>
    clear H0
    obtain ⟨j, v7, rfl, hj, rfl, hown, tt⟩ := hrel
    obtain ⟨a7, c7, rfl⟩ := hown.shape
    have LR := Lib.hid (L5.out.step (New.below tt))
    have HRr := Lib.hid (HA5.out.below (New.below tt))
    have HO := Lib.hid hown
    have TT := Lib.hid tt
    clear hown tt
    obtain ⟨d0, d1, d2, d3, d4⟩ := LR.out.cells
    have k0 : ∀ (p' : Regrown), (grow (redrawn wr p'.d) p'.os).cell? ⟨w.heap.size, 0, none⟩ = some (.int .i64 m) := fun p' => cell_regrown d0 p'.d p'.os
    have k1 : ∀ (p' : Regrown), (grow (redrawn wr p'.d) p'.os).cell? ⟨w.heap.size, 1, none⟩ = some (.int .i64 t) := fun p' => cell_regrown d1 p'.d p'.os
    have k2 : ∀ (p' : Regrown), (grow (redrawn wr p'.d) p'.os).cell? ⟨w.heap.size, 2, none⟩ = some (.int .i64 p) := fun p' => cell_regrown d2 p'.d p'.os
    have k3 : ∀ (p' : Regrown), (grow (redrawn wr p'.d) p'.os).cell? ⟨w.heap.size, 3, none⟩ = some (.int .u8 ch.toNat) := fun p' => cell_regrown d3 p'.d p'.os
    have k4 : ∀ (p' : Regrown), (grow (redrawn wr p'.d) p'.os).cell? ⟨w.heap.size, 4, none⟩ = some (.int .i64 0) := fun p' => cell_regrown d4 p'.d p'.os
    go_wp2_with fail
    refine wp_region_stages [([0, 1, 2, 3, 5, 6], [4, 7, 8, 9])] (by kernel_rfl) (by kernel_rfl) (by kernel_rfl) (fun _ _ d _ _ h => by cases d <;> exact h) ?_
    refine ⟨(fun w' => ∃ p' : Regrown, w' = grow (redrawn wr p'.d) p'.os), ⟨⟨wr.drawn + 1, #[]⟩, by rw [grow_empty]; rfl⟩, ?_⟩
    refine wpR_of (lr := [_, _, _, _, _, _]) rfl ?_
    iterate 6 (refine wpR_step rfl (fun K hK => ?_); go_simp; refine hK _ ?_; clear hK K)
    refine wpR_nil ?_
    clear k0 k1 k2 k3 k4
    have t2 : Tch (New wr) wr wr.drew := Tch.drew _ _
    generalize wr.drew = wd at t2 ⊢
    refine wpX_one 4 _ (by kernel_rfl) rfl rfl (fun K hK => ?_)
    go_simp
    have hRn := runes_calls wd (HRr.out.below (New.below t2)) (by omega)
    rw [← HRA0.out] at hRn
    refine hRn.mono ?_
    rintro e w9 ⟨rfl, hb9⟩
    have hb19 := (New.below t2).trans (hb9.mono (New.below t2).size)
    refine hK _ _ (regrown_of_below hb19) ?_
    clear hK K hRn
    have hwr : IntKind.i64.wrap ((ra : Int) + (p : Int)) = (ra : Int) + (p : Int) := by rw [wrap64_eq']; omega
    refine wpX_one 7 _ (by kernel_rfl) rfl rfl (fun K hK => ?_)
    go_simp
    refine hK _ _ (regrown_of_below hb19) ?_
    clear hK K
    refine wpX_one 8 _ (by kernel_rfl) rfl rfl (fun K hK => ?_)
    go_simp
    refine hK _ _ (regrown_of_below hb19) ?_
    clear hK K
    by_cases hlt : j < NN
    · have hlt2 : ((ra : Int) + (j : Int)) < max (m : Int) ((ra : Int) + (p : Int)) := by omega
      refine wpX_one 9 _ (by kernel_rfl) rfl rfl (fun K hK => ?_)
      go_simp
      refine hK _ _ (regrown_of_below hb19) ?_
      clear hK K
      refine wpX_end (stg_nil ?_)
      have LB := Lib.hid (LR.out.step hb19)
      have hob := HO.out.kept (Tch.of_below (F := fun _ => False) hb19) (fun _ _ h => h)
      have tb := TT.out.trans (Tch.of_below hb19)
      obtain ⟨aN, cN, wN, hrN, hoN, tN⟩ := bld_one tb hob ch (by omega) 24
      have HRUNN := Lib.hid hrN
      have HON := Lib.hid hoN
      have TN := Lib.hid tN
      clear hob tb hrN hoN tN hb19 t2 d0 d1 d2 d3 d4
      obtain ⟨d0, d1, d2, d3, d4⟩ := LB.out.cells
      go_wp2_with (at_builtin; refine wpList_append_eq rfl (.tmp 76) (.tmp 79) 24 rfl rfl rfl HRUNN.out ?_)
      go_roundw
      case rel =>
        refine ⟨j + 1, _, rfl, by omega, by go_num, ?_, TN.out⟩
        rw [List.replicate_succ', ← List.append_assoc]
        exact HON.out
      case measure => simp [intOf]; omega
    · obtain rfl : j = NN := by omega
      have hlt2 : ¬ ((ra : Int) + (j : Int)) < max (m : Int) ((ra : Int) + (p : Int)) := by omega
      refine wpX_one 9 _ (by kernel_rfl) rfl rfl (fun K hK => ?_)
      go_simp
      refine hK _ _ (regrown_of_below hb19) ?_
      clear hK K
      refine wpX_end (stg_nil ?_)
      have LE := Lib.hid (LR.out.step hb19)
      have hob := HO.out.kept (Tch.of_below (F := fun _ => False) hb19) (fun _ _ h => h)
      have tb := TT.out.trans (Tch.of_below hb19)
      obtain ⟨aP, cP, wP, hrP, hoP, tP⟩ := bld_rd tb hob (HB5.out.below (New.below tb)) (by omega) 24
      obtain ⟨aQ, cQ, wQ, hrQ, hoQ, tQ⟩ := bld_one tP hoP 10 (by omega) 24
      have HRUNP := Lib.hid hrP
      have HRUNQ := Lib.hid (show (Builtin.append_ #[24, 24] 24 #[.slice aP (xa.length + j + xb.length) cP, .slice (some ⟨wP.heap.size, 0, none⟩) 1 1]).run Tryd.prog (wP.alloc (.cells #[.int .u8 10] 5)) = .ok (.slice aQ (xa.length + j + xb.length + 1) cQ) wQ from hrQ)
      have LQ := Lib.hid (L5.out.step (New.below tQ))
      have HWQ := Lib.hid (Own.rd hoQ)
      have h1 := (HA5.out.below (New.below tQ)).str
      have h2 := (HB5.out.below (New.below tQ)).str
      obtain ⟨s, hs0⟩ : ∃ s, s = xa ++ 9 :: (xb ++ [10]) := ⟨_, rfl⟩
      have hsl : s.length = xa.length + xb.length + 2 := by rw [hs0]; simp; omega
      obtain ⟨cz, wZ, h3, hrZ, hbZ⟩ := conv_bytes wQ s (by omega)
      have hcat : (⟨xa.toArray⟩ ++ ⟨#[9]⟩ ++ ⟨xb.toArray⟩ ++ ⟨#[10]⟩ : ByteArray) = ⟨s.toArray⟩ := by
        rw [hs0]
        apply ByteArray.ext
        simp
      rw [← hcat] at h3
      have HS0 := Lib.hid hs0
      have HSLN := Lib.hid hsl
      clear hsl
      have LZ := Lib.hid (LQ.out.step hbZ)
      have HSZ := Lib.hid hrZ
      have HWZ := Lib.hid (HWQ.out.below hbZ)
      clear hcat hrZ hbZ hs0
      clear hob tb hrP hoP tP hrQ hoQ tQ hb19 t2 d0 d1 d2 d3 d4
      obtain ⟨d0, d1, d2, d3, d4⟩ := LQ.out.cells
      go_wp2_with (first | (at_builtin; refine wpList_append_eq rfl (.tmp 81) (.tmp 82) 24 rfl rfl rfl HRUNP.out ?_) | (at_builtin; refine wpList_append_eq rfl (.tmp 83) (.tmp 84) 24 rfl rfl rfl HRUNQ.out ?_))
      refine (write_one wZ m t p 0 (by omega) ch HSZ.out (by have := HSLN.out; omega) l1 l2 l3).mono ?_
      rintro e w10 ⟨v10, rfl, hr10, hb10⟩
      have L10 := Lib.hid (LZ.out.step hb10)
      have hfo : formatO (cfgOf m t p 0 ch) s = xa ++ List.replicate j ch ++ xb ++ [10] := by
        rw [HS0.out]
        refine (format_one (c := cfgOf m t p 0 ch) (flag_zero H9.out 4 (by simp [flagsL])) (flag_zero H9.out 8 (by simp [flagsL])) (flag_zero H9.out 16 (by simp [flagsL])) (flag_zero H9.out 32 (by simp [flagsL])) H9.out (fun y hy => (HWxa.out y hy).1) (fun y hy => (HWxb.out y hy).1) (ends_zero H9.out ?_)).trans ?_
        · intro y hy
          simp only [List.mem_append, List.mem_cons, List.not_mem_nil, or_false] at hy
          rcases hy with hy | hy | hy | hy
          · exact (HWxa.out y hy).2
          · rw [hy]; decide
          · exact (HWxb.out y hy).2
          · rw [hy]; decide
        · rw [HK0.out, HRA0.out]
          simp [cfgOf]
      obtain ⟨fo, hfe⟩ : ∃ x, x = formatO (cfgOf m t p 0 ch) s := ⟨_, rfl⟩
      rw [← hfe] at hr10 hfo
      have hSm := same_calls w10 hr10 (HWZ.out.below hb10)
      rw [decide_eq_true hfo] at hSm
      have HSM := Lib.hid hSm
      obtain ⟨a10, c10, rfl, -⟩ := hr10.val
      clear hb10 hr10 hSm hfo hfe
      go_wp2_with fail
      refine HSM.out.mono ?_
      rintro e wq ⟨rfl, rfl⟩
      go_wp2_with fail
      go_ret
      exact ⟨rfl, L10.out.bel⟩
end Go.Proofs.YtaagcdlghoiolaaDoor

namespace Go.Proofs.YtaagcdlghoiolaaDoor.fnOneLine
open Go.ChangeShapes Go.WideShapes Go.ChangeAt Go.RowKit
set_option maxRecDepth 100000

theorem own : ownKnob Tryd.prog.godebug = none := by kernel_rfl

theorem contract (H : Type) (enc : TypeId × Value → H) (W : World) (base : Nat) (args : Array Value) (ds gs : List (DataW H)) (before : List MemPlace)
    (hval : ∀ (j : Nat) t v, Tryd.f7.params[j]? = some t → args[j]? = some v → Value.okWide Tryd.prog W .any base t v)
    (hW : DataW.Whole enc Tryd.prog Tryd.f7.params.toList Rows.fnOneLineSpec.vars false W args.toList ds gs before)
    (hL : laidMetH Tryd.prog Rows.fnOneLineRow.laid W) :
    Calls Tryd.prog 7 args W fun e W' => ∃ v, e = .returned v ∧ Rows.fnOneLineSpec.post enc Tryd.prog Tryd.f7 false true false false W args v W' := by
  have hW' := hW
  obtain ⟨p, q, hA0, hV, rfl, hfz, hnd⟩ := hW
  have hA : DataW.TrodAll enc Tryd.prog W 0 (fun _ => true) true Tryd.f7.params.toList args.toList ds p := hA0
  rw [Tryd.params7] at hA hval
  obtain ⟨v0, vs0, d0, ds0, p0, q0, hargs, rfl, rfl, h0, r0⟩ := trodAll_cons hA
  obtain ⟨v1, vs1, d1, ds1, p1, q1, rfl, rfl, rfl, h1, r1⟩ := trodAll_cons r0
  obtain ⟨v2, vs2, d2, ds2, p2, q2, rfl, rfl, rfl, h2, r2⟩ := trodAll_cons r1
  obtain ⟨rfl, rfl, rfl⟩ := trodAll_nil r2
  obtain rfl : args = #[v0, v1, v2] := by cases args; simp_all
  obtain ⟨mn0, tb0, pd0, fl0, ch0, rfl⟩ := open_conf (hval 0 _ _ rfl rfl)
  obtain ⟨bs1, hrd1⟩ := open_rd (hval 1 _ _ rfl rfl) h1
  obtain ⟨bs2, hrd2⟩ := open_rd (hval 2 _ _ rfl rfl) h2
  refine (oneLine_calls W mn0 tb0 pd0 fl0 ch0 hrd1 hrd2 (tabs_of hL)).mono fun e W' ⟨he, hb⟩ => ?_
  subst he
  refine ⟨_, rfl, law_post rfl ?_ (by kernel_rfl) ?_ hW' hb⟩
  · intro ds hds
    match ds, hds with
    | [a, b, c], _ => rfl
  · rw [Tryd.params7]
    intro t ht
    simp at ht
    first | (rcases ht with rfl | rfl | rfl <;> exact of_decide_eq_true (by kernel_rfl)) | (rcases ht with rfl | rfl <;> exact of_decide_eq_true (by kernel_rfl))

theorem laid_met (os : Os) : laidMet Tryd.prog Rows.fnOneLineRow.laid ((laidWorld os).forCall (fun _ _ => 0) ⟨#[], #[conf0, .slice none 0 0, .slice none 0 0], []⟩).memory :=
  laidMet_of_run' 8 (by kernel_rfl) (by kernel_rfl)
theorem reads (os : Os) {H : Type} (enc : TypeId × Value → H) : ∃ places, DataW.whole enc Tryd.prog ((laidWorld os).forCall (fun _ _ => 0) ⟨#[], #[conf0, .slice none 0 0, .slice none 0 0], []⟩).memory Tryd.f7.params.toList Rows.fnOneLineSpec.vars false (#[conf0, .slice none 0 0, .slice none 0 0] : Array Value).toList 8 = some ([.agg [.lit (.int .i64 0), .lit (.int .i64 0), .lit (.int .i64 0), .lit (.int .u8 0), .lit (.int .i64 0)], .nil, .nil], [], places) :=
  ⟨[], by kernel_rfl⟩

set_option maxRecDepth 100000 in
theorem lifted (os : Os) (started : os.Started) (H : Type) (enc : TypeId × Value → H) (F : Stop.Interp) :
    ReturnsInHanded {} Tryd.checked os 7 .any ((OpenSpec.ofChange Rows.fnOneLineSpec).preRow enc Tryd.prog Tryd.f7 Rows.fnOneLineRow.domain false Rows.fnOneLineRow.laid) (((OpenSpec.ofChange Rows.fnOneLineSpec).at F).post enc Tryd.prog Tryd.f7 false true false false) := by
  obtain ⟨places, hx⟩ := reads os enc
  refine returnsInHanded_of_row (C := Tryd.checked) (s := OpenSpec.ofChange Rows.fnOneLineSpec) own started (by kernel_rfl) Tryd.func7
    (witness_row_at (enc := enc) (C := Tryd.checked) false (laidWorld os) #[conf0, .slice none 0 0, .slice none 0 0] rfl (by kernel_rfl) (by kernel_rfl) (by kernel_rfl)
      (OpenSpec.preRow_of_cond 8 hx (by kernel_rfl) (fun k hk => by cases hk) (by kernel_rfl) (laid_met os))) ?_
  intro W base args ds gs before hval hW _ _ _ hL _ _
  exact contract H enc W base args ds gs before hval hW hL

theorem said : Rows.FnOneLineSaid :=
  OpenClaim.holds_of_cond 7 Tryd.f7 rfl rfl rfl rfl rfl rfl rfl ⟨rfl, rfl, rfl, rfl, rfl⟩ rfl rfl rfl rfl rfl (by kernel_rfl) Tryd.func7 (by kernel_rfl)
    (of_decide_eq_true (by kernel_rfl)) (by unfold Func.isWrapper; first | (rw [if_pos (by decide +kernel)]; kernel_rfl) | (rw [if_neg (by decide +kernel)]; exact ⟨rfl, rfl⟩))
    (fun os started H enc _ F => by rw [OpenClaim.pre_eq_preRow]; exact lifted os started H enc F)

theorem plain (f : FuncId) (fn : Func) (hf : Tryd.pinned.checked.prog.funcNamed "loop.example/pub-tabcolumns/laws.FnOneLine" = some f) (hfn : Tryd.pinned.checked.prog.funcs[f]? = some fn) :
    true = Tryd.pinned.checked.prog.looks [] ∧ ∀ (j : Nat) t, fn.params[j]? = some t → Tryd.pinned.checked.prog.wantsStandIn t = false := by
  obtain rfl : f = 7 := Option.some.inj ((show Tryd.prog.funcNamed "loop.example/pub-tabcolumns/laws.FnOneLine" = some 7 by kernel_rfl).symm.trans hf) |>.symm
  obtain rfl : fn = Tryd.f7 := (Option.some.inj (Tryd.func7.symm.trans hfn)).symm
  refine ⟨by kernel_rfl, fun j t ht => ?_⟩
  rw [Tryd.params7] at ht
  have hm := Array.mem_of_getElem? ht
  simp at hm
  rcases hm with rfl | rfl
  · exact (show Tryd.prog.wantsStandIn 23 = false by kernel_rfl)
  · exact (show Tryd.prog.wantsStandIn 24 = false by kernel_rfl)

theorem card : Rows.FnOneLineCardSaid :=
  Claim7.holds_tied_plain_at .later [] _ _ _ _ said (fun _ h => by cases h) (by kernel_rfl) (fun _ h => by cases h) fnOneLine_row_tie rfl ⟨rfl, rfl⟩ (by kernel_rfl) rfl plain (by kernel_rfl)
end Go.Proofs.YtaagcdlghoiolaaDoor.fnOneLine

namespace Go.Proofs.YtaagcdlghoiolaaDoor
theorem fnOneLine_card : Rows.FnOneLineCardSaid := fnOneLine.card
#print axioms fnOneLine_card
end Go.Proofs.YtaagcdlghoiolaaDoor
