/- 'FnTwoLines': two lines of one column are padded to the wider cell. -/
import Derived.Test.YtaagcdlghoiolaaDoorCards
import Derived.Test.YtaagcdlghoiolaaDoorTie
import Derived.Test.YtaagcdlghoiolaaDoorVe
import Derived.Test.YtaagcdlghoiolaaDoorQe
import Derived.Test.YtaagcdlghoiolaaDoorLe
import Derived.Test.YtaagcdlghoiolaaDoorPo
import Derived.Test.YtaagcdlghoiolaaDoorOrx
import Derived.WalkKit
import Derived.ProofKit
import Derived.OpenShut
import Derived.Deep.DeepHandedRow
import Derived.Deep.DeepWitnessRowRef
namespace Go.Proofs.YtaagcdlghoiolaaDoor
open Go.RowKit Go.Tw Go.Sort
set_option maxRecDepth 100000

theorem conv_bytes (w : World) (l : List UInt8) (hl : l.length ≤ 1000000000000) : ∃ cp wz, (convert 9 24 (.string ⟨l.toArray⟩)).run Tryd.prog w = .ok (.slice (some ⟨w.heap.size, 0, none⟩) l.length cp) wz ∧ Rd wz (.slice (some ⟨w.heap.size, 0, none⟩) l.length cp) l ∧ Below w.heap.size w wz :=
  ⟨_, _, Lib.run_convert_string_bytes w 9 24 5 ⟨l.toArray⟩ Tryd.underlying9 Tryd.underlying24 Tryd.underlying5, Rd.bytes w l hl⟩
theorem flag_zero {m t p : Nat} {ch : UInt8} (h : ch ≠ 9) (k : Int) (hk : k ∈ flagsL) : (cfgOf m t p 0 ch).flag k = false := by
  unfold Cfg.flag cfgOf keepFl
  simp only [h, if_false]
  revert k
  decide
theorem ends_zero {m t p : Nat} {ch : UInt8} (h : ch ≠ 9) {s : List UInt8} (hs : ∀ x ∈ s, x ≠ 255) : ∀ x ∈ s, endOf (cfgOf m t p 0 ch) x = 0 := by
  intro x hx
  have h1 := flag_zero (m := m) (t := t) (p := p) h 1 (by simp [flagsL])
  unfold endOf
  rw [if_neg (hs x hx), if_neg (fun e => by rw [h1] at e; exact absurd e.2 (by simp)), if_neg (fun e => by rw [h1] at e; exact absurd e.2 (by simp))]
def OlRel (base : World) (xa : List UInt8) (ch : UInt8) (ra K : Nat) (t7 t8 : Value) (wr : World) : Prop :=
  ∃ (j : Nat) (v : Value), v = t7 ∧ j ≤ K ∧ t8 = .int .i64 ((ra + j : Nat) : Int) ∧ Own (New base) wr 5 1 v (xa.length + j) (bvs (xa ++ List.replicate j ch)) ∧ Tch (New base) base wr

def tlPre (P1 P2 : List UInt8) : Nat → List UInt8
  | 0 => []
  | 1 => P1
  | _ => P1 ++ P2
def TlRel (base : World) (P1 P2 : List UInt8) (t8 t77 : Value) (wr : World) : Prop :=
  ∃ (j n : Nat) (v : Value), v = t8 ∧ j ≤ 2 ∧ t77 = .int .i64 j ∧ n = (tlPre P1 P2 j).length ∧ Own (New base) wr 5 1 v n (bvs (tlPre P1 P2 j)) ∧ Tch (New base) base wr

set_option maxHeartbeats 8000000 in
theorem twoLines_calls (w : World) (mn tb pd fl : Int) (ch : UInt8) {va vb : Value} {a b : List UInt8} (h : Rd w va a) (hb : Rd w vb b) (hT : Lib.Utf8Tabs 1 2 w) :
    Calls Tryd.prog 3 #[.agg #[.int .i64 mn, .int .i64 tb, .int .i64 pd, .int .u8 ch.toNat, .int .i64 fl], va, vb] w fun e w' => e = .returned (.bool true) ∧ Below w.heap.size w w' := by
  have L0 := Lib.hid (LS.start (mn := mn) (tb := tb) (pd := pd) (ch := ch) (fl := fl) h)
  have HT := Lib.hid hT
  have HRA := Lib.hid h
  have HRB := Lib.hid hb
  obtain ⟨ao, cp, rfl, g1, g2⟩ := L0.out.shape
  obtain ⟨bo, bp, rfl, g3, g4, -⟩ := hb.val
  unfold maxLen at g4
  clear h hb hT
  by_cases hla : a.length ≤ 2147483647
  rotate_left
  · go_enter Tryd.func3, Tryd.ntmps3
    go_wp2_with fail
    go_ret
    exact ⟨rfl, L0.out.bel⟩
  by_cases hlb : b.length ≤ 2147483647
  rotate_left
  · go_enter Tryd.func3, Tryd.ntmps3
    go_wp2_with fail
    go_ret
    exact ⟨rfl, L0.out.bel⟩
  go_enter Tryd.func3, Tryd.ntmps3
  go_wp2_with fail
  refine (specWord_calls _ L0.out.rd (by omega)).mono ?_
  rintro e w1 ⟨v1, rfl, hr1, hb1⟩
  obtain ⟨xa, hxa⟩ : ∃ x, x = wrd a := ⟨_, rfl⟩
  have hlxa : xa.length ≤ a.length := by rw [hxa]; exact List.length_filter_le _ _
  have HWxa := Lib.hid (show ∀ y ∈ xa, brk y = false ∧ y ≠ 255 from fun y hy => wrd_mem (by rw [← hxa]; exact hy))
  rw [← hxa] at hr1
  have L1 := Lib.hid (L0.out.step hb1)
  have HA1 := Lib.hid hr1
  obtain ⟨a1, c1, rfl, -, q1, -⟩ := hr1.val
  unfold maxLen at q1
  clear hb1 hr1 L0 hxa
  go_wp2_with fail
  refine (specWord_calls _ (HRB.out.below L1.out.bel) (by omega)).mono ?_
  rintro e w2 ⟨v2, rfl, hr2, hb2⟩
  obtain ⟨xb, hxb⟩ : ∃ x, x = wrd b := ⟨_, rfl⟩
  have hlxb : xb.length ≤ b.length := by rw [hxb]; exact List.length_filter_le _ _
  have HWxb := Lib.hid (show ∀ y ∈ xb, brk y = false ∧ y ≠ 255 from fun y hy => wrd_mem (by rw [← hxb]; exact hy))
  rw [← hxb] at hr2
  have L2 := Lib.hid (L1.out.step hb2)
  have HB2 := Lib.hid hr2
  have HA2 := Lib.hid (HA1.out.below hb2)
  obtain ⟨a2, c2, rfl, -, q2, -⟩ := hr2.val
  unfold maxLen at q2
  clear hb2 hr2 L1 HA1 hxb
  obtain ⟨d0, d1, d2, d3, d4⟩ := L2.out.cells
  have hV := valid_calls w2 mn tb pd fl ch
  by_cases hv : Vld mn tb pd fl
  rotate_left
  · rw [decide_eq_false hv] at hV
    have HV := Lib.hid hV
    clear hV hv
    go_wp2_with fail
    refine HV.out.mono ?_
    rintro e w3 ⟨rfl, hb3⟩
    have L3 := Lib.hid (L2.out.step hb3)
    clear hb3
    go_wp2_with fail
    go_ret
    exact ⟨rfl, L3.out.bel⟩
  rw [decide_eq_true hv] at hV
  have HV := Lib.hid hV
  obtain ⟨⟨y1, z1⟩, ⟨y2, z2⟩, ⟨y3, z3⟩, -, -⟩ := hv
  clear hV
  obtain ⟨m, rfl⟩ := Int.eq_ofNat_of_zero_le y1
  obtain ⟨t, rfl⟩ := Int.eq_ofNat_of_zero_le y2
  obtain ⟨p, rfl⟩ := Int.eq_ofNat_of_zero_le y3
  have l1 : m ≤ 1000 := by omega
  have l2 : t ≤ 1000 := by omega
  have l3 : p ≤ 1000 := by omega
  clear y1 z1 y2 z2 y3 z3
  go_wp2_with fail
  refine HV.out.mono ?_
  rintro e w3 ⟨rfl, hb3⟩
  have L3 := Lib.hid (L2.out.step hb3)
  have HA3 := Lib.hid (HA2.out.below hb3)
  have HB3 := Lib.hid (HB2.out.below hb3)
  clear hb3 L2 HA2 HB2 HV d0 d1 d2 d3 d4
  obtain ⟨d0, d1, d2, d3, d4⟩ := L3.out.cells
  have e9 := u8_eq (b := ch) (c := 9) (n := 9) rfl
  by_cases h9 : ch = 9
  · rw [decide_eq_true h9] at e9
    clear h9
    go_wp2_with fail
    go_ret
    exact ⟨rfl, L3.out.bel⟩
  rw [decide_eq_false h9] at e9
  have H9 := Lib.hid h9
  clear h9
  by_cases g127 : ch.toNat ≤ 127
  rotate_left
  · have h127 : (127 : Int) < (ch.toNat : Int) := by omega
    have h127b : decide ((127 : Int) < (ch.toNat : Int)) = true := decide_eq_true h127
    have h127c : 127 < ch.toNat := by omega
    go_wp2_with fail
    go_ret
    exact ⟨rfl, L3.out.bel⟩
  have h127 : ¬ ((127 : Int) < (ch.toNat : Int)) := by omega
  have h127b : decide ((127 : Int) < (ch.toNat : Int)) = false := decide_eq_false h127
  have h127c : ¬ (127 < ch.toNat) := by omega
  by_cases hf0 : fl = 0
  rotate_left
  · have hf1 : (fl != 0) = true := by simpa using hf0
    go_wp2_with fail
    go_ret
    exact ⟨rfl, L3.out.bel⟩
  subst hf0
  go_wp2_with fail
  refine (text_calls _ HA3.out (Utf8Tabs_below HT.out L3.out.bel) (by omega)).mono ?_
  rintro e w4 ⟨⟨xt, rfl⟩, hb4⟩
  have L4 := Lib.hid (L3.out.step hb4)
  have HA4 := Lib.hid (HA3.out.below hb4)
  have HB4 := Lib.hid (HB3.out.below hb4)
  clear hb4 L3 HA3 HB3 d0 d1 d2 d3 d4 h127 h127b h127c e9
  cases xt
  · go_wp2_with fail
    go_ret
    exact ⟨rfl, L4.out.bel⟩
  go_wp2_with fail
  refine (text_calls _ HB4.out (Utf8Tabs_below HT.out L4.out.bel) (by omega)).mono ?_
  rintro e w5 ⟨⟨xt, rfl⟩, hb5⟩
  have L5 := Lib.hid (L4.out.step hb5)
  have HA5 := Lib.hid (HA4.out.below hb5)
  have HB5 := Lib.hid (HB4.out.below hb5)
  clear hb5 L4 HA4 HB4
  cases xt
  · go_wp2_with fail
    go_ret
    exact ⟨rfl, L5.out.bel⟩
  go_wp2_with fail
  have HS := small_calls w5 HA5.out
  by_cases hsxa : xa.length ≤ 3000
  rotate_left
  · rw [decide_eq_false hsxa] at HS
    have HS2 := Lib.hid HS
    clear HS
    refine HS2.out.mono ?_
    rintro e wq ⟨rfl, rfl⟩
    go_wp2_with fail
    go_ret
    exact ⟨rfl, L5.out.bel⟩
  rw [decide_eq_true hsxa] at HS
  refine HS.mono ?_
  rintro e wq ⟨rfl, rfl⟩
  clear HS
  go_wp2_with fail
  have HS := small_calls w5 HB5.out
  by_cases hsxb : xb.length ≤ 3000
  rotate_left
  · rw [decide_eq_false hsxb] at HS
    have HS2 := Lib.hid HS
    clear HS
    refine HS2.out.mono ?_
    rintro e wq ⟨rfl, rfl⟩
    go_wp2_with fail
    go_ret
    exact ⟨rfl, L5.out.bel⟩
  rw [decide_eq_true hsxb] at HS
  refine HS.mono ?_
  rintro e wq ⟨rfl, rfl⟩
  clear HS
  obtain ⟨ra, hra⟩ : ∃ r, r = rc xa := ⟨_, rfl⟩
  obtain ⟨rb, hrb⟩ : ∃ r, r = rc xb := ⟨_, rfl⟩
  have hral : ra ≤ xa.length := by rw [hra]; exact rc_le xa
  have hrbl : rb ≤ xb.length := by rw [hrb]; exact rc_le xb
  have HRA0 := Lib.hid hra
  have HRB0 := Lib.hid hrb
  obtain ⟨K, hK0⟩ : ∃ K, K = max m (max ra rb + p) := ⟨_, rfl⟩
  have hKa : ra ≤ K := by omega
  have hKb : rb ≤ K := by omega
  have hKl : K ≤ 20000 := by omega
  have HK0 := Lib.hid hK0
  have hwr : IntKind.i64.wrap (max (ra : Int) (rb : Int) + (p : Int)) = max (ra : Int) (rb : Int) + (p : Int) := by rw [wrap64_eq']; omega
  have hwd : max (m : Int) (max (ra : Int) (rb : Int) + (p : Int)) = (K : Int) := by omega
  clear hra hrb hK0
  obtain ⟨d0, d1, d2, d3, d4⟩ := L5.out.cells
  have k0 : ∀ (p' : Regrown), (grow (redrawn w5 p'.d) p'.os).cell? ⟨w.heap.size, 0, none⟩ = some (.int .i64 m) := fun p' => cell_regrown d0 p'.d p'.os
  have k1 : ∀ (p' : Regrown), (grow (redrawn w5 p'.d) p'.os).cell? ⟨w.heap.size, 1, none⟩ = some (.int .i64 t) := fun p' => cell_regrown d1 p'.d p'.os
  have k2 : ∀ (p' : Regrown), (grow (redrawn w5 p'.d) p'.os).cell? ⟨w.heap.size, 2, none⟩ = some (.int .i64 p) := fun p' => cell_regrown d2 p'.d p'.os
  have k3 : ∀ (p' : Regrown), (grow (redrawn w5 p'.d) p'.os).cell? ⟨w.heap.size, 3, none⟩ = some (.int .u8 ch.toNat) := fun p' => cell_regrown d3 p'.d p'.os
  have k4 : ∀ (p' : Regrown), (grow (redrawn w5 p'.d) p'.os).cell? ⟨w.heap.size, 4, none⟩ = some (.int .i64 0) := fun p' => cell_regrown d4 p'.d p'.os
  go_wp2_with fail
  refine wp_region_stages [([0, 1, 2, 4, 7, 8], [3, 5, 6, 9, 10, 11])] (by kernel_rfl) (by kernel_rfl) (by kernel_rfl) (fun _ _ d _ _ h => by cases d <;> exact h) ?_
  refine ⟨(fun w' => ∃ p' : Regrown, w' = grow (redrawn w5 p'.d) p'.os), ⟨⟨w5.drawn + 1, #[]⟩, by rw [grow_empty]; rfl⟩, ?_⟩
  refine wpR_of (lr := [_, _, _, _, _, _]) rfl ?_
  iterate 6 (refine wpR_step rfl (fun K hK => ?_); go_simp; refine hK _ ?_; clear hK K)
  refine wpR_nil ?_
  clear k0 k1 k2 k3 k4 d0 d1 d2 d3 d4
  have t2 : Tch (New w5) w5 w5.drew := Tch.drew _ _
  generalize w5.drew = wd at t2 ⊢
  refine wpX_one 3 _ (by kernel_rfl) rfl rfl (fun J hK => ?_)
  go_simp
  have hRn := runes_calls wd (HA5.out.below (New.below t2)) (by omega)
  rw [← HRA0.out] at hRn
  refine hRn.mono ?_
  rintro e w6 ⟨rfl, hb6⟩
  have hb16 := (New.below t2).trans (hb6.mono (New.below t2).size)
  refine hK _ _ (regrown_of_below hb16) ?_
  clear hK J hRn
  refine wpX_one 5 _ (by kernel_rfl) rfl rfl (fun J hK => ?_)
  go_simp
  have hRn := runes_calls w6 (HB5.out.below hb16) (by omega)
  rw [← HRB0.out] at hRn
  refine hRn.mono ?_
  rintro e w7 ⟨rfl, hb7⟩
  have hb17 := hb16.trans (hb7.mono hb16.size)
  refine hK _ _ (regrown_of_below hb17) ?_
  clear hK J hRn
  refine wpX_one 6 _ (by kernel_rfl) rfl rfl (fun J hK => ?_)
  go_simp
  refine hK _ _ (regrown_of_below hb17) ?_
  clear hK J
  refine wpX_one 9 _ (by kernel_rfl) rfl rfl (fun J hK => ?_)
  go_simp
  refine hK _ _ (regrown_of_below hb17) ?_
  clear hK J
  refine wpX_one 10 _ (by kernel_rfl) rfl rfl (fun J hK => ?_)
  go_simp
  refine hK _ _ (regrown_of_below hb17) ?_
  clear hK J
  refine wpX_one 11 _ (by kernel_rfl) rfl rfl (fun J hK => ?_)
  go_simp
  refine hK _ _ (regrown_of_below hb17) ?_
  clear hK J
  refine wpX_end (stg_nil ?_)
  have L7 := Lib.hid (L5.out.step hb17)
  have HA7 := Lib.hid (HA5.out.below hb17)
  have HB7 := Lib.hid (HB5.out.below hb17)
  clear hb17 hb16 hb6 hb7 t2 hwr hwd L5 HA5 HB5
  obtain ⟨P1, hP1⟩ : ∃ x, x = xa ++ List.replicate (K - ra) ch ++ [120, 10] := ⟨_, rfl⟩
  obtain ⟨P2, hP2⟩ : ∃ x, x = xb ++ List.replicate (K - rb) ch ++ [120, 10] := ⟨_, rfl⟩
  have HP1 := Lib.hid hP1
  have HP2 := Lib.hid hP2
  have HPL := Lib.hid (show P1.length ≤ 30000 ∧ P2.length ≤ 30000 by rw [hP1, hP2]; simp; omega)
  have HSxa := Lib.hid hsxa
  have HSxb := Lib.hid hsxb
  obtain ⟨wB, hwB⟩ : ∃ x, x = w7.alloc (.cells #[.slice a1 xa.length c1, .slice a2 xb.length c2] 24) := ⟨_, rfl⟩
  have hbB : Below w7.heap.size w7 wB := by rw [hwB]; exact (Below.refl _ w7).alloc (Nat.le_refl _) _
  have hcB : wB.heap[w7.heap.size]? = some (.cells #[.slice a1 xa.length c1, .slice a2 xb.length c2] 24 (0, 0)) := by rw [hwB]; exact heap_alloc_new w7 _
  have CB0 := Lib.hid (show wB.cell? ⟨w7.heap.size, 0, none⟩ = some (.slice a1 xa.length c1) from cell_of_blk hcB 0)
  have CB1 := Lib.hid (show wB.cell? ⟨w7.heap.size, 1, none⟩ = some (.slice a2 xb.length c2) from cell_of_blk hcB 1)
  have BS := Lib.hid (show w7.heap.size < wB.heap.size by rw [hwB]; simp)
  have LB := Lib.hid (L7.out.step hbB)
  have HAB := Lib.hid (HA7.out.below hbB)
  have HBB := Lib.hid (HB7.out.below hbB)
  have HWB := Lib.hid hwB
  have H0 := Lib.hid (show TlRel wB P1 P2 (.slice none 0 0) (.int .i64 0) wB from ⟨0, 0, _, rfl, by omega, rfl, rfl, Own.nil _ _ _ _, Tch.refl _ _⟩)
  clear hP1 hP2 hbB hcB hwB L7 HA7 HB7
  go_wp2_with fail
  rw [← HWB.out]
  go_loopw [8, 77] (fun t8 t77 wr => TlRel wB P1 P2 t8 t77 wr) (fun _ t77 _ => 2 - (intOf t77).toNat)
  case atStart => exact H0.out
  case round =>
    clear H0 HWB
    obtain ⟨j, n, v8, rfl, hj, rfl, rfl, hown, tt⟩ := hrel
    obtain ⟨a8, c8, rfl⟩ := hown.shape
    have HO := Lib.hid hown
    have T := Lib.hid tt
    clear hown tt
    obtain rfl | rfl | rfl : j = 0 ∨ j = 1 ∨ j = 2 := by omega
    · have hcl : wr.cell? ⟨w7.heap.size, 0, none⟩ = some (.slice a1 xa.length c1) := T.out.cell CB0.out (show ¬ wB.heap.size ≤ w7.heap.size from by have := BS.out; omega)
      have hbB := New.below T.out
      have hpl := HPL.out
      have hsX := HSxa.out
      obtain ⟨aP, cP, wP, hrP, hoP, tP⟩ := bld_rd T.out HO.out (HAB.out.below hbB) (by simp only [tlPre]; (try simp); omega) 24
      have hRn := runes_calls wP (HAB.out.below (New.below tP)) (by omega)
      rw [← HRA0.out] at hRn
      have HRN := Lib.hid hRn
      have HOP := Lib.hid hoP
      have TP := Lib.hid tP
      have HRUNP := Lib.hid hrP
      clear hrP hRn hoP tP hbB hpl hsX
      go_wp2_with (at_builtin; refine wpList_append_eq rfl (.tmp 81) (.tmp 82) 24 rfl rfl rfl HRUNP.out ?_)
      refine HRN.out.mono ?_
      rintro e w9 ⟨rfl, hb9⟩
      have ho9 := HOP.out.kept (Tch.of_below (F := fun _ => False) hb9) (fun _ _ h => h)
      have t9 := TP.out.trans (Tch.of_below hb9)
      obtain ⟨Q, hQ⟩ : ∃ x, x = tlPre P1 P2 0 ++ xa := ⟨_, rfl⟩
      have hq0 : Q.length = (tlPre P1 P2 0).length + xa.length := by rw [hQ]; simp
      have HQ := Lib.hid hQ
      have HQL := Lib.hid (show Q.length ≤ 40000 by have := HPL.out; have := HSxa.out; rw [hq0]; simp only [tlPre]; (try simp); omega)
      have H1 := Lib.hid (show OlRel wB Q ch ra (K - ra) (.slice aP ((tlPre P1 P2 0).length + xa.length) cP) (.int .i64 ra) w9 from ⟨0, _, rfl, Nat.zero_le _, rfl, by rw [hq0, List.replicate_zero, List.append_nil, hQ]; exact ho9, t9⟩)
      clear hQ hq0 HRN HOP TP HRUNP hb9 ho9 t9 HO T hcl
      go_wp2_with fail
      go_loopw [8, 11] (fun t8 t11 wr => OlRel wB Q ch ra (K - ra) t8 t11 wr) (fun _ t11 _ => K - (intOf t11).toNat)
      case atStart => exact H1.out
      case round =>
        clear H1
        obtain ⟨i, v8, rfl, hi, rfl, hown, tt⟩ := hrel
        obtain ⟨a8, c8, rfl⟩ := hown.shape
        have LR := Lib.hid (LB.out.step (New.below tt))
        have hql := HQL.out
        by_cases hlt : i < K - ra
        · have hlt2 : (ra : Int) + (i : Int) < (K : Int) := by omega
          obtain ⟨aN, cN, wN, hrN, hoN, tN⟩ := bld_one tt hown ch (by omega) 24
          have HRUNN := Lib.hid hrN
          have HON := Lib.hid hoN
          have TN := Lib.hid tN
          clear hown tt hrN hoN tN hql
          obtain ⟨d0, d1, d2, d3, d4⟩ := LR.out.cells
          go_wp2_with (at_builtin; refine wpList_append_eq rfl (.tmp 91) (.tmp 94) 24 rfl rfl rfl HRUNN.out ?_)
          go_roundw
          case rel =>
            refine ⟨i + 1, _, rfl, by omega, by go_num, ?_, TN.out⟩
            rw [List.replicate_succ', ← List.append_assoc]
            exact HON.out
          case measure => simp [intOf]; omega
        · obtain rfl : i = K - ra := by omega
          have hlt2 : ¬ (ra : Int) + ((K - ra : Nat) : Int) < (K : Int) := by omega
          obtain ⟨aS, cS, wS, hrS, hoS', tS⟩ := bld_str tt hown ⟨#[120, 10]⟩ (by show _ + 2 ≤ 1000000000000; omega) 24
          have HRUNS := Lib.hid (show (Builtin.append_ #[24, 9] 24 #[.slice a8 (Q.length + (K - ra)) c8, .string ⟨#[120, 10]⟩]).run Tryd.prog wr = .ok (.slice aS (Q.length + (K - ra) + 2) cS) wS from hrS)
          have hoS : Own (New wB) wS 5 1 (.slice aS (Q.length + (K - ra) + 2) cS) (Q.length + (K - ra) + 2) (bvs (Q ++ List.replicate (K - ra) ch ++ [120, 10])) := hoS'
          have he : tlPre P1 P2 1 = Q ++ List.replicate (K - ra) ch ++ [120, 10] := by
            show P1 = _
            rw [HQ.out, HP1.out]
            simp [tlPre]
          have HE := Lib.hid he
          have HOS := Lib.hid hoS
          have TS := Lib.hid tS
          clear hown tt hrS hoS' hoS tS he hql LR
          go_wp2_with (at_builtin; refine wpList_append_eq2 rfl (.tmp 96) (.const (.string ⟨#[120, 10]⟩)) 24 9 rfl rfl rfl HRUNS.out ?_)
          go_roundw
          case rel =>
            refine ⟨1, Q.length + (K - ra) + 2, _, rfl, by omega, by go_num, by rw [HE.out]; simp [Nat.add_assoc], ?_, TS.out⟩
            rw [HE.out]
            exact HOS.out
          case measure => simp [intOf]
    · have hcl : wr.cell? ⟨w7.heap.size, 1, none⟩ = some (.slice a2 xb.length c2) := T.out.cell CB1.out (show ¬ wB.heap.size ≤ w7.heap.size from by have := BS.out; omega)
      have hbB := New.below T.out
      have hpl := HPL.out
      have hsX := HSxb.out
      obtain ⟨aP, cP, wP, hrP, hoP, tP⟩ := bld_rd T.out HO.out (HBB.out.below hbB) (by simp only [tlPre]; (try simp); omega) 24
      have hRn := runes_calls wP (HBB.out.below (New.below tP)) (by omega)
      rw [← HRB0.out] at hRn
      have HRN := Lib.hid hRn
      have HOP := Lib.hid hoP
      have TP := Lib.hid tP
      have HRUNP := Lib.hid hrP
      clear hrP hRn hoP tP hbB hpl hsX
      go_wp2_with (at_builtin; refine wpList_append_eq rfl (.tmp 81) (.tmp 82) 24 rfl rfl rfl HRUNP.out ?_)
      refine HRN.out.mono ?_
      rintro e w9 ⟨rfl, hb9⟩
      have ho9 := HOP.out.kept (Tch.of_below (F := fun _ => False) hb9) (fun _ _ h => h)
      have t9 := TP.out.trans (Tch.of_below hb9)
      obtain ⟨Q, hQ⟩ : ∃ x, x = tlPre P1 P2 1 ++ xb := ⟨_, rfl⟩
      have hq0 : Q.length = (tlPre P1 P2 1).length + xb.length := by rw [hQ]; simp
      have HQ := Lib.hid hQ
      have HQL := Lib.hid (show Q.length ≤ 40000 by have := HPL.out; have := HSxb.out; rw [hq0]; simp only [tlPre]; (try simp); omega)
      have H1 := Lib.hid (show OlRel wB Q ch rb (K - rb) (.slice aP ((tlPre P1 P2 1).length + xb.length) cP) (.int .i64 rb) w9 from ⟨0, _, rfl, Nat.zero_le _, rfl, by rw [hq0, List.replicate_zero, List.append_nil, hQ]; exact ho9, t9⟩)
      clear hQ hq0 HRN HOP TP HRUNP hb9 ho9 t9 HO T hcl
      go_wp2_with fail
      go_loopw [8, 11] (fun t8 t11 wr => OlRel wB Q ch rb (K - rb) t8 t11 wr) (fun _ t11 _ => K - (intOf t11).toNat)
      case atStart => exact H1.out
      case round =>
        clear H1
        obtain ⟨i, v8, rfl, hi, rfl, hown, tt⟩ := hrel
        obtain ⟨a8, c8, rfl⟩ := hown.shape
        have LR := Lib.hid (LB.out.step (New.below tt))
        have hql := HQL.out
        by_cases hlt : i < K - rb
        · have hlt2 : (rb : Int) + (i : Int) < (K : Int) := by omega
          obtain ⟨aN, cN, wN, hrN, hoN, tN⟩ := bld_one tt hown ch (by omega) 24
          have HRUNN := Lib.hid hrN
          have HON := Lib.hid hoN
          have TN := Lib.hid tN
          clear hown tt hrN hoN tN hql
          obtain ⟨d0, d1, d2, d3, d4⟩ := LR.out.cells
          go_wp2_with (at_builtin; refine wpList_append_eq rfl (.tmp 91) (.tmp 94) 24 rfl rfl rfl HRUNN.out ?_)
          go_roundw
          case rel =>
            refine ⟨i + 1, _, rfl, by omega, by go_num, ?_, TN.out⟩
            rw [List.replicate_succ', ← List.append_assoc]
            exact HON.out
          case measure => simp [intOf]; omega
        · obtain rfl : i = K - rb := by omega
          have hlt2 : ¬ (rb : Int) + ((K - rb : Nat) : Int) < (K : Int) := by omega
          obtain ⟨aS, cS, wS, hrS, hoS', tS⟩ := bld_str tt hown ⟨#[120, 10]⟩ (by show _ + 2 ≤ 1000000000000; omega) 24
          have HRUNS := Lib.hid (show (Builtin.append_ #[24, 9] 24 #[.slice a8 (Q.length + (K - rb)) c8, .string ⟨#[120, 10]⟩]).run Tryd.prog wr = .ok (.slice aS (Q.length + (K - rb) + 2) cS) wS from hrS)
          have hoS : Own (New wB) wS 5 1 (.slice aS (Q.length + (K - rb) + 2) cS) (Q.length + (K - rb) + 2) (bvs (Q ++ List.replicate (K - rb) ch ++ [120, 10])) := hoS'
          have he : tlPre P1 P2 2 = Q ++ List.replicate (K - rb) ch ++ [120, 10] := by
            show P1 ++ P2 = _
            rw [HQ.out, HP2.out]
            simp [tlPre]
          have HE := Lib.hid he
          have HOS := Lib.hid hoS
          have TS := Lib.hid tS
          clear hown tt hrS hoS' hoS tS he hql LR
          go_wp2_with (at_builtin; refine wpList_append_eq2 rfl (.tmp 96) (.const (.string ⟨#[120, 10]⟩)) 24 9 rfl rfl rfl HRUNS.out ?_)
          go_roundw
          case rel =>
            refine ⟨2, Q.length + (K - rb) + 2, _, rfl, by omega, by go_num, by rw [HE.out]; simp [Nat.add_assoc], ?_, TS.out⟩
            rw [HE.out]
            exact HOS.out
          case measure => simp [intOf]
    · have LQ := Lib.hid (LB.out.step (New.below T.out))
      have h1 := (HAB.out.below (New.below T.out)).str
      have h2 := (HBB.out.below (New.below T.out)).str
      have HWQ := Lib.hid (Own.rd HO.out)
      have hsA := HSxa.out
      have hsB := HSxb.out
      obtain ⟨s, hs0⟩ : ∃ s, s = xa ++ (9 :: 120 :: 10 :: (xb ++ [9, 120, 10])) := ⟨_, rfl⟩
      have hsl : s.length = xa.length + xb.length + 6 := by rw [hs0]; simp; omega
      obtain ⟨cz, wZ, h3, hrZ, hbZ⟩ := conv_bytes wr s (by omega)
      have hcat : (⟨xa.toArray⟩ ++ ⟨#[9, 120, 10]⟩ ++ ⟨xb.toArray⟩ ++ ⟨#[9, 120, 10]⟩ : ByteArray) = ⟨s.toArray⟩ := by
        rw [hs0]
        apply ByteArray.ext
        simp
      rw [← hcat] at h3
      have HS0 := Lib.hid hs0
      have HSLN := Lib.hid hsl
      have LZ := Lib.hid (LQ.out.step hbZ)
      have HSZ := Lib.hid hrZ
      have HWZ := Lib.hid (HWQ.out.below hbZ)
      clear hcat hrZ hbZ hs0 hsl HO T
      obtain ⟨d0, d1, d2, d3, d4⟩ := LQ.out.cells
      go_wp2_with fail
      refine (write_one wZ m t p 0 (by omega) ch HSZ.out (by have := HSLN.out; omega) l1 l2 l3).mono ?_
      rintro e w10 ⟨v10, rfl, hr10, hb10⟩
      have L10 := Lib.hid (LZ.out.step hb10)
      have hfo : formatO (cfgOf m t p 0 ch) s = tlPre P1 P2 2 := by
        rw [HS0.out]
        refine (format_two (c := cfgOf m t p 0 ch) (flag_zero H9.out 4 (by simp [flagsL])) (flag_zero H9.out 8 (by simp [flagsL])) (flag_zero H9.out 16 (by simp [flagsL])) (flag_zero H9.out 32 (by simp [flagsL])) H9.out (fun y hy => (HWxa.out y hy).1) (fun y hy => (HWxb.out y hy).1) (ends_zero H9.out ?_)).trans ?_
        · intro y hy
          simp only [List.mem_append, List.mem_cons, List.not_mem_nil, or_false] at hy
          rcases hy with hy | hy | hy | hy | hy | hy | hy | hy
          · exact (HWxa.out y hy).2
          · rw [hy]; decide
          · rw [hy]; decide
          · rw [hy]; decide
          · exact (HWxb.out y hy).2
          · rw [hy]; decide
          · rw [hy]; decide
          · rw [hy]; decide
        · show _ = P1 ++ P2
          rw [HP1.out, HP2.out, HK0.out, HRA0.out, HRB0.out]
          simp [cfgOf]
      obtain ⟨fo, hfe⟩ : ∃ x, x = formatO (cfgOf m t p 0 ch) s := ⟨_, rfl⟩
      rw [← hfe] at hr10 hfo
      have hSm := same_calls w10 hr10 (HWZ.out.below hb10)
      rw [decide_eq_true hfo] at hSm
      have HSM := Lib.hid hSm
      obtain ⟨a10, c10, rfl, -⟩ := hr10.val
      clear hb10 hr10 hSm hfo hfe
      go_wp2_with fail
      refine HSM.out.mono ?_
      rintro e wq ⟨rfl, rfl⟩
      go_wp2_with fail
      go_ret
      exact ⟨rfl, L10.out.bel⟩
end Go.Proofs.YtaagcdlghoiolaaDoor

namespace Go.Proofs.YtaagcdlghoiolaaDoor.fnTwoLines
open Go.ChangeShapes Go.WideShapes Go.ChangeAt Go.RowKit
set_option maxRecDepth 100000

theorem own : ownKnob Tryd.prog.godebug = none := by kernel_rfl

theorem contract (H : Type) (enc : TypeId × Value → H) (W : World) (base : Nat) (args : Array Value) (ds gs : List (DataW H)) (before : List MemPlace)
    (hval : ∀ (j : Nat) t v, Tryd.f3.params[j]? = some t → args[j]? = some v → Value.okWide Tryd.prog W .any base t v)
    (hW : DataW.Whole enc Tryd.prog Tryd.f3.params.toList Rows.fnTwoLinesSpec.vars false W args.toList ds gs before)
    (hL : laidMetH Tryd.prog Rows.fnTwoLinesRow.laid W) :
    Calls Tryd.prog 3 args W fun e W' => ∃ v, e = .returned v ∧ Rows.fnTwoLinesSpec.post enc Tryd.prog Tryd.f3 false true false false W args v W' := by
  have hW' := hW
  obtain ⟨p, q, hA0, hV, rfl, hfz, hnd⟩ := hW
  have hA : DataW.TrodAll enc Tryd.prog W 0 (fun _ => true) true Tryd.f3.params.toList args.toList ds p := hA0
  rw [Tryd.params3] at hA hval
  obtain ⟨v0, vs0, d0, ds0, p0, q0, hargs, rfl, rfl, h0, r0⟩ := trodAll_cons hA
  obtain ⟨v1, vs1, d1, ds1, p1, q1, rfl, rfl, rfl, h1, r1⟩ := trodAll_cons r0
  obtain ⟨v2, vs2, d2, ds2, p2, q2, rfl, rfl, rfl, h2, r2⟩ := trodAll_cons r1
  obtain ⟨rfl, rfl, rfl⟩ := trodAll_nil r2
  obtain rfl : args = #[v0, v1, v2] := by cases args; simp_all
  obtain ⟨mn0, tb0, pd0, fl0, ch0, rfl⟩ := open_conf (hval 0 _ _ rfl rfl)
  obtain ⟨bs1, hrd1⟩ := open_rd (hval 1 _ _ rfl rfl) h1
  obtain ⟨bs2, hrd2⟩ := open_rd (hval 2 _ _ rfl rfl) h2
  refine (twoLines_calls W mn0 tb0 pd0 fl0 ch0 hrd1 hrd2 (tabs_of hL)).mono fun e W' ⟨he, hb⟩ => ?_
  subst he
  refine ⟨_, rfl, law_post rfl ?_ (by kernel_rfl) ?_ hW' hb⟩
  · intro ds hds
    match ds, hds with
    | [a, b, c], _ => rfl
  · rw [Tryd.params3]
    intro t ht
    simp at ht
    first | (rcases ht with rfl | rfl | rfl <;> exact of_decide_eq_true (by kernel_rfl)) | (rcases ht with rfl | rfl <;> exact of_decide_eq_true (by kernel_rfl))

theorem laid_met (os : Os) : laidMet Tryd.prog Rows.fnTwoLinesRow.laid ((laidWorld os).forCall (fun _ _ => 0) ⟨#[], #[conf0, .slice none 0 0, .slice none 0 0], []⟩).memory :=
  laidMet_of_run' 8 (by kernel_rfl) (by kernel_rfl)
theorem reads (os : Os) {H : Type} (enc : TypeId × Value → H) : ∃ places, DataW.whole enc Tryd.prog ((laidWorld os).forCall (fun _ _ => 0) ⟨#[], #[conf0, .slice none 0 0, .slice none 0 0], []⟩).memory Tryd.f3.params.toList Rows.fnTwoLinesSpec.vars false (#[conf0, .slice none 0 0, .slice none 0 0] : Array Value).toList 8 = some ([.agg [.lit (.int .i64 0), .lit (.int .i64 0), .lit (.int .i64 0), .lit (.int .u8 0), .lit (.int .i64 0)], .nil, .nil], [], places) :=
  ⟨[], by kernel_rfl⟩

set_option maxRecDepth 100000 in
theorem lifted (os : Os) (started : os.Started) (H : Type) (enc : TypeId × Value → H) (F : Stop.Interp) :
    ReturnsInHanded {} Tryd.checked os 3 .any ((OpenSpec.ofChange Rows.fnTwoLinesSpec).preRow enc Tryd.prog Tryd.f3 Rows.fnTwoLinesRow.domain false Rows.fnTwoLinesRow.laid) (((OpenSpec.ofChange Rows.fnTwoLinesSpec).at F).post enc Tryd.prog Tryd.f3 false true false false) := by
  obtain ⟨places, hx⟩ := reads os enc
  refine returnsInHanded_of_row (C := Tryd.checked) (s := OpenSpec.ofChange Rows.fnTwoLinesSpec) own started (by kernel_rfl) Tryd.func3
    (witness_row_at (enc := enc) (C := Tryd.checked) false (laidWorld os) #[conf0, .slice none 0 0, .slice none 0 0] rfl (by kernel_rfl) (by kernel_rfl) (by kernel_rfl)
      (OpenSpec.preRow_of_cond 8 hx (by kernel_rfl) (fun k hk => by cases hk) (by kernel_rfl) (laid_met os))) ?_
  intro W base args ds gs before hval hW _ _ _ hL _ _
  exact contract H enc W base args ds gs before hval hW hL

theorem said : Rows.FnTwoLinesSaid :=
  OpenClaim.holds_of_cond 3 Tryd.f3 rfl rfl rfl rfl rfl rfl rfl ⟨rfl, rfl, rfl, rfl, rfl⟩ rfl rfl rfl rfl rfl (by kernel_rfl) Tryd.func3 (by kernel_rfl)
    (of_decide_eq_true (by kernel_rfl)) (by unfold Func.isWrapper; first | (rw [if_pos (by decide +kernel)]; kernel_rfl) | (rw [if_neg (by decide +kernel)]; exact ⟨rfl, rfl⟩))
    (fun os started H enc _ F => by rw [OpenClaim.pre_eq_preRow]; exact lifted os started H enc F)

theorem plain (f : FuncId) (fn : Func) (hf : Tryd.pinned.checked.prog.funcNamed "loop.example/pub-tabcolumns/laws.FnTwoLines" = some f) (hfn : Tryd.pinned.checked.prog.funcs[f]? = some fn) :
    true = Tryd.pinned.checked.prog.looks [] ∧ ∀ (j : Nat) t, fn.params[j]? = some t → Tryd.pinned.checked.prog.wantsStandIn t = false := by
  obtain rfl : f = 3 := Option.some.inj ((show Tryd.prog.funcNamed "loop.example/pub-tabcolumns/laws.FnTwoLines" = some 3 by kernel_rfl).symm.trans hf) |>.symm
  obtain rfl : fn = Tryd.f3 := (Option.some.inj (Tryd.func3.symm.trans hfn)).symm
  refine ⟨by kernel_rfl, fun j t ht => ?_⟩
  rw [Tryd.params3] at ht
  have hm := Array.mem_of_getElem? ht
  simp at hm
  rcases hm with rfl | rfl
  · exact (show Tryd.prog.wantsStandIn 23 = false by kernel_rfl)
  · exact (show Tryd.prog.wantsStandIn 24 = false by kernel_rfl)

theorem card : Rows.FnTwoLinesCardSaid :=
  Claim7.holds_tied_plain_at .later [] _ _ _ _ said (fun _ h => by cases h) (by kernel_rfl) (fun _ h => by cases h) fnTwoLines_row_tie rfl ⟨rfl, rfl⟩ (by kernel_rfl) rfl plain (by kernel_rfl)
end Go.Proofs.YtaagcdlghoiolaaDoor.fnTwoLines

namespace Go.Proofs.YtaagcdlghoiolaaDoor
theorem fnTwoLines_card : Rows.FnTwoLinesCardSaid := fnTwoLines.card
#print axioms fnTwoLines_card
end Go.Proofs.YtaagcdlghoiolaaDoor
