/- Walks: the reference's width. Printed by gen_XSg.py. -/
import Derived.Test.YteildpeogbenbaaDoorSf
import Derived.Test.YteildpeogbenbaaDoorPf
namespace Go.Proofs.YteildpeogbenbaaDoor
open Go.RowKit Go.Tw Go.Sort
set_option maxRecDepth 100000

theorem cM_le {c : Cfg} {j : Nat} {b : List (List SC)} {B : Nat} (h0 : c.mn ≤ B) (h : ∀ l ∈ b, (l.getD j default).width.toNat + c.pd ≤ B) : cM c j b ≤ B := by
  unfold cM
  suffices H : ∀ (b : List (List SC)) (m : Nat), m ≤ B → (∀ l ∈ b, (l.getD j default).width.toNat + c.pd ≤ B) → b.foldl (fun m l => max m ((l.getD j default).width.toNat + c.pd)) m ≤ B from H b c.mn h0 h
  intro b
  induction b with
  | nil => intro m h _; exact h
  | cons l b ih => intro m h1 h2; exact ih _ (Nat.max_le.2 ⟨h1, h2 l (by simp)⟩) (fun x hx => h2 x (by simp [hx]))

theorem cast_max (a b q : Nat) : Value.int .i64 (max (a : Int) ((b : Int) + (q : Int))) = .int .i64 ((max a (b + q) : Nat) : Int) := by
  congr 1
  rcases Nat.le_total a (b + q) with h | h
  · rw [Nat.max_eq_right h, Int.max_eq_right (by omega)]; omega
  · rw [Nat.max_eq_left h, Int.max_eq_left (by omega)]

/-- What the reference's lines are small enough for. -/
structure Fit (LL : List (List SC)) : Prop where
  len : LL.length ≤ 1000000
  ne : ∀ l ∈ LL, l ≠ []
  each : ∀ l ∈ LL, l.length ≤ 1000000
  wid : ∀ l ∈ LL, ∀ x ∈ l, 0 ≤ x.width ∧ x.width ≤ 1000000

def WdPost (w : World) (n : Nat) (e : Ending) (w' : World) : Prop := ∃ d : Bool, e = .returned (.tuple #[.int .i64 n, .bool d]) ∧ Below w.heap.size w w'
def W1Rel (LL : List (List SC)) (i j : Nat) (t10 : Value) : Prop := ∃ a : Nat, a ≤ i ∧ t10 = .int .i64 a ∧ ∀ k l, LL[k]? = some l → a ≤ k → k < i → (view l).has j = true ∧ (view l).shut = false
def W2Rel (LL : List (List SC)) (i j : Nat) (t11 : Value) : Prop := ∃ b : Nat, i ≤ b ∧ b < LL.length ∧ t11 = .int .i64 b ∧ (∀ k l, LL[k]? = some l → i ≤ k → k ≤ b → (view l).has j = true) ∧ ∀ k l, LL[k]? = some l → i ≤ k → k < b → (view l).shut = false
def cellsSeg (LL : List (List SC)) (a k : Nat) : List (List SC) := (seg (LL.map view) a k).map (·.cells)
def W3Rel (w1 : World) (c : Cfg) (LL : List (List SC)) (j a b : Nat) (t12 t13 t14 : Value) (wr : World) : Prop :=
  ∃ k : Nat, a ≤ k ∧ k ≤ b + 1 ∧ t14 = .int .i64 k ∧ t12 = .int .i64 (cM c j (cellsSeg LL a k) : Nat) ∧ t13 = .bool (cD j (cellsSeg LL a k)) ∧ Tch (New w1) w1 wr
theorem cellsSeg_snoc {LL : List (List SC)} {a k : Nat} {l : List SC} (h : LL[k]? = some l) (hk : a ≤ k) : cellsSeg LL a (k + 1) = cellsSeg LL a k ++ [l.dropLast] := by
  unfold cellsSeg
  rw [seg_snoc (l := view l) (by simp [h]) hk, List.map_append]; rfl
theorem cellsSeg_nil (LL : List (List SC)) (a : Nat) : cellsSeg LL a a = [] := by unfold cellsSeg; rw [seg_self]; rfl
theorem cellsSeg_mem {LL : List (List SC)} {a k : Nat} {x : List SC} (h : x ∈ cellsSeg LL a k) : ∃ l ∈ LL, x = l.dropLast := by
  obtain ⟨y, hy, rfl⟩ := List.mem_map.1 h
  obtain ⟨i, _, _, hi⟩ := mem_seg hy
  simp only [List.getElem?_map, Option.map_eq_some_iff] at hi
  obtain ⟨l, hl, rfl⟩ := hi
  exact ⟨l, List.mem_of_getElem? hl, rfl⟩
theorem cM_small {c : Cfg} {LL : List (List SC)} (hf : Fit LL) (hm : c.mn ≤ 1000) (hp : c.pd ≤ 1000) (j a k : Nat) : cM c j (cellsSeg LL a k) ≤ 1001000 := by
  refine cM_le (by omega) fun x hx => ?_
  obtain ⟨l, hl, rfl⟩ := cellsSeg_mem hx
  rw [List.getD_eq_getElem?_getD]
  cases h : l.dropLast[j]? with
  | none => show (0 : Int).toNat + c.pd ≤ _; omega
  | some x =>
    have := hf.wid l hl x (List.dropLast_subset _ (List.mem_of_getElem? h))
    simp only [Option.getD_some]; omega
/-- A line that is read. -/
theorem Lz.at {w : World} {k0 o0 n cp : Nat} {LL : List (List SC)} (h : Lz w (.slice (some ⟨k0, o0, none⟩) n cp) LL) {k : Nat} {l : List SC} (hk : LL[k]? = some l) : ∃ lv, w.cell? ⟨k0, o0 + k, none⟩ = some lv ∧ Ce w lv l := by
  obtain ⟨ao, cp', e, _, _, _, h4⟩ := h.val
  simp only [Value.slice.injEq] at e
  have hlt := (List.getElem?_eq_some_iff.1 hk).1
  have he := (List.getElem?_eq_some_iff.1 hk).2
  obtain ⟨ad, lv, e2, a, b⟩ := h4 k hlt
  rw [← e.1] at e2
  cases e2
  rw [he] at b
  exact ⟨lv, a, b⟩

theorem width_block {LL : List (List SC)} {i j a b : Nat} (ha : a ≤ i) (hib : i ≤ b) (hb : b < LL.length) (h1 : ∀ k l, LL[k]? = some l → a ≤ k → k < i → (view l).has j = true ∧ (view l).shut = false)
    (h2 : ∀ k l, LL[k]? = some l → i ≤ k → k ≤ b → (view l).has j = true) (h3 : ∀ k l, LL[k]? = some l → i ≤ k → k < b → (view l).shut = false)
    (hs : a = 0 ∨ ∃ l, LL[a - 1]? = some l ∧ ((view l).has j && !(view l).shut) = false) (he : (∃ l, LL[b]? = some l ∧ (view l).shut = true) ∨ b + 1 = LL.length ∨ ∃ l, LL[b + 1]? = some l ∧ (view l).has j = false) :
    (∀ k l, LL[k]? = some l → a ≤ k → k ≤ b → (view l).has j = true) ∧ ∀ c : Cfg, Wd c (LL.map view) i j = cW c j (cellsSeg LL a (b + 1)) := by
  have hall : ∀ k l, LL[k]? = some l → a ≤ k → k ≤ b → (view l).has j = true := by
    intro k l hk h4 h5
    by_cases h : k < i
    · exact (h1 k l hk h4 h).1
    · exact h2 k l hk (by omega) h5
  have hsh : ∀ k l, LL[k]? = some l → a ≤ k → k < b → (view l).shut = false := by
    intro k l hk h4 h5
    by_cases h : k < i
    · exact (h1 k l hk h4 h).2
    · exact h3 k l hk (by omega) h5
  have hv : ∀ {k : Nat} {l : List SC}, LL[k]? = some l → (LL.map view)[k]? = some (view l) := fun h => by rw [List.getElem?_map, h]; rfl
  have hv2 : ∀ {k : Nat} {n : Ln}, (LL.map view)[k]? = some n → ∃ l, LL[k]? = some l ∧ n = view l := fun h => by
    rw [List.getElem?_map, Option.map_eq_some_iff] at h
    obtain ⟨l, hl, rfl⟩ := h
    exact ⟨l, hl, rfl⟩
  refine ⟨hall, fun c => ?_⟩
  unfold Wd cellsSeg
  rw [blockL_eq (M := LL.map view) ha hib (by simpa using hb) (fun k n hn h4 h5 => by obtain ⟨l, hl, rfl⟩ := hv2 hn; exact hall k l hl h4 h5) (fun k n hn h4 h5 => by obtain ⟨l, hl, rfl⟩ := hv2 hn; exact hsh k l hl h4 h5) ?_ ?_]
  · rcases hs with h | ⟨l, hl, h⟩
    · exact .inl h
    · exact .inr ⟨_, hv hl, h⟩
  · rcases he with ⟨l, hl, h⟩ | h | ⟨l, hl, h⟩
    · exact .inl ⟨_, hv hl, h⟩
    · exact .inr (.inl (by simpa using h))
    · exact .inr (.inr ⟨_, hv hl, h⟩)

set_option maxHeartbeats 8000000 in
theorem width_calls (w : World) (m t p f : Nat) (hf : f < 64) (ch : UInt8) {v : Value} {LL : List (List SC)} (h : Lz w v LL) (hfit : Fit LL) (hm : m ≤ 1000) (hp : p ≤ 1000) {i j : Nat} {li : List SC} (hi : LL[i]? = some li) (hj : (view li).has j = true) :
    Calls Tryd.prog 30 #[.agg #[.int .i64 m, .int .i64 t, .int .i64 p, .int .u8 ch.toNat, .int .i64 f], v, .int .i64 i, .int .i64 j] w (WdPost w (Wd (cfgOf m t p f ch) (LL.map view) i j)) := by
  obtain ⟨w1, hw1⟩ : ∃ w1, w1 = w.alloc (.cells #[.int .i64 m, .int .i64 t, .int .i64 p, .int .u8 ch.toNat, .int .i64 f] 23) := ⟨_, rfl⟩
  have hb0 : Below w.heap.size w w1 := hw1 ▸ (Below.refl _ w).alloc (Nat.le_refl _) _
  have hc0 : w1.heap[w.heap.size]? = some (.cells #[.int .i64 m, .int .i64 t, .int .i64 p, .int .u8 ch.toNat, .int .i64 f] 23 (0, 0)) := hw1 ▸ heap_alloc_new w _
  have hil := (List.getElem?_eq_some_iff.1 hi).1
  have hll := hfit.len
  have hlz := h.below hb0
  obtain ⟨ao, cp, rfl, g1, g2, g3, g4⟩ := hlz.val
  obtain ⟨ad, lv0, rfl, -, -⟩ := g4 i hil
  have hsp := g3 ad rfl
  obtain ⟨k0, o0, sp⟩ := ad
  simp only at hsp
  subst hsp
  have hjl : j ≤ 1000000 := by
    have h1 := hfit.each li (List.mem_of_getElem? hi)
    unfold Ln.has view at hj
    simp at hj
    omega
  have hlt0 := lt_of_heap hc0
  have hcf : ∀ w', Tch (New w1) w1 w' → w'.heap[w.heap.size]? = some (.cells #[.int .i64 m, .int .i64 t, .int .i64 p, .int .u8 ch.toNat, .int .i64 f] 23 (0, 0)) := fun w' h => h.heap hc0 (by unfold New; omega)
  have hend : ∀ w', Tch (New w1) w1 w' → Below w.heap.size w w' := fun w' h => hb0.trans ((New.below h).mono hb0.size)
  have hlw : ∀ w', Tch (New w1) w1 w' → Lz w' (.slice (some ⟨k0, o0, none⟩) LL.length cp) LL := fun w' h => hlz.below (New.below h)
  obtain ⟨c, hc⟩ : ∃ c, c = cfgOf m t p f ch := ⟨_, rfl⟩
  have hcm : c.mn = m ∧ c.pd = p := by rw [hc]; exact ⟨rfl, rfl⟩
  have hhas : ∀ w', Calls Tryd.prog 12 #[.agg #[.int .i64 m, .int .i64 t, .int .i64 p, .int .u8 ch.toNat, .int .i64 f], .int .i64 8] w' fun e w'' => e = .returned (.bool (c.flag 8)) ∧ Below w'.heap.size w' w'' := fun w' => by rw [hc]; exact has_flag w' m t p f hf ch 8 (by simp)
  rw [← hc]
  have HLZ := Lib.hid hlz
  have HI := Lib.hid hi
  have HJ := Lib.hid hj
  have HCF := Lib.hid hcf
  have HEND := Lib.hid hend
  have HLW := Lib.hid hlw
  have HCM := Lib.hid hcm
  have HHAS := Lib.hid hhas
  have HSM := Lib.hid (fun a k => cM_small (c := c) hfit (by rw [hcm.1]; exact hm) (by rw [hcm.2]; exact hp) j a k)
  have T0 := Lib.hid (Tch.refl (New w1) w1)
  obtain ⟨d0, d1, d2, d3, d4⟩ := conf_at hc0
  rw [hw1] at d0 d1 d2 d3 d4 HCF HEND HLW T0 HLZ
  clear hlz h g3 g4 hb0 hc0 hcf hend hlw hhas hcm hc hlt0 hw1 hj
  unfold maxLen at g2
  go_enter Tryd.func30, Tryd.ntmps30
  go_wp2_with fail
  go_loop [10] (fun t10 => W1Rel LL i j t10) (fun t10 => (intOf t10).toNat)
  case atStart => exact ⟨i, Nat.le_refl _, rfl, fun k l hk h1 h2 => by omega⟩
  case round =>
    obtain ⟨a, ha, rfl, hal⟩ := hrel
    have HA := Lib.hid hal
    clear hal
    rcases a with _ | a
    · have HXA := Lib.hid (show 0 = 0 ∨ ∃ l, LL[0 - 1]? = some l ∧ ((view l).has j && !(view l).shut) = false from .inl rfl)
      go_wp2_with fail
      go_loop [11] (fun t11 => W2Rel LL i j t11) (fun t11 => LL.length - (intOf t11).toNat)
      case atStart =>
        refine ⟨i, Nat.le_refl _, hil, rfl, fun k l hk h1 h2 => ?_, fun k l hk h1 h2 => by omega⟩
        obtain rfl : k = i := by omega
        rw [HI.out] at hk; cases hk; exact HJ.out
      case round =>
        obtain ⟨b, hb1, hb2, rfl, hb3, hb4⟩ := hrel
        have HB3 := Lib.hid hb3
        have HB4 := Lib.hid hb4
        clear hb3 hb4
        by_cases hb5 : b + 1 < LL.length
        · obtain ⟨ln, hln⟩ : ∃ ln, LL[b + 1]? = some ln := ⟨LL[b + 1], List.getElem?_eq_getElem hb5⟩
          obtain ⟨lt, hlt⟩ : ∃ lt, LL[b]? = some lt := ⟨LL[b], List.getElem?_eq_getElem hb2⟩
          obtain ⟨nv, hnv, hnce⟩ := HLZ.out.at hln
          obtain ⟨tv, htv, htce⟩ := HLZ.out.at hlt
          obtain ⟨an, cn, rfl, -⟩ := hnce.val
          obtain ⟨at', ct, rfl, -⟩ := htce.val
          have hm1 := List.mem_of_getElem? hln
          have hm2 := List.mem_of_getElem? hlt
          have hx1 := hfit.each ln hm1
          have hx2 := hfit.each lt hm2
          have HCOL := Lib.hid (column_calls _ hnce j (by omega) (by omega))
          have HSHU := Lib.hid (shut_calls _ htce (by omega) (hfit.ne lt hm2))
          have HLN := Lib.hid hln
          have HLT := Lib.hid hlt
          obtain ⟨hh, hhh⟩ : ∃ b, b = (view ln).has j := ⟨_, rfl⟩
          obtain ⟨sh, hsh⟩ : ∃ b, b = (view lt).shut := ⟨_, rfl⟩
          rw [← hhh] at HCOL
          rw [← hsh] at HSHU
          have HHH2 := Lib.hid hhh
          have HSH2 := Lib.hid hsh
          clear hnce htce hm1 hm2 hln hlt hhh hsh
          cases hh
          · have hkey := width_block (a := 0) (by omega) hb1 hb2 HA.out HB3.out HB4.out (.inl rfl) (.inr (.inr ⟨ln, HLN.out, HHH2.out.symm⟩))
            have HAL := Lib.hid hkey.1
            have HWD := Lib.hid (hkey.2 c)
            clear hkey
            go_wp2_with (first | (go_at_call 29; (with_reducible refine HCOL.out.mono ?_); rintro e w' ⟨rfl, rfl⟩) | (go_at_call 18; (with_reducible refine HSHU.out.mono ?_); rintro e w' ⟨rfl, rfl⟩))
            go_loopw [12, 13, 14] (fun t12 t13 t14 wr => W3Rel (w.alloc (.cells #[.int .i64 m, .int .i64 t, .int .i64 p, .int .u8 ch.toNat, .int .i64 f] 23)) c LL j 0 b t12 t13 t14 wr) (fun _ _ t14 _ => b + 1 - (intOf t14).toNat)
            case atStart =>
              refine ⟨0, Nat.le_refl _, by omega, rfl, ?_, ?_, T0.out⟩
              · rw [cellsSeg_nil]; show Value.int .i64 m = .int .i64 (c.mn : Nat); rw [HCM.out.1]
              · rw [cellsSeg_nil]; rfl
            case round =>
              obtain ⟨k, hk1, hk2, rfl, rfl, rfl, tt⟩ := hrel
              have T := Lib.hid tt
              have hcf2 := HCF.out _ tt
              have hsz := lt_of_heap hcf2
              have d2' : ∀ o, (wr.alloc o).cell? ⟨w.heap.size, 2, none⟩ = some (.int .i64 p) := fun o => by rw [World.cell?_alloc_past _ _ _ hsz]; exact cell_of_blk hcf2 2
              obtain ⟨d0, d1, d2, d3, d4⟩ := conf_at hcf2
              have hmle := HSM.out 0 k
              obtain ⟨mx, hmx⟩ : ∃ mx, mx = cM c j (cellsSeg LL 0 k) := ⟨_, rfl⟩
              obtain ⟨E, hE⟩ : ∃ E, E = cD j (cellsSeg LL 0 k) := ⟨_, rfl⟩
              rw [← hmx] at hmle
              rw [← hmx, ← hE]
              have HMX := Lib.hid hmx
              have HE := Lib.hid hE
              clear hmx hE hcf2
              by_cases hlt : k ≤ b
              · obtain ⟨lk, hlk⟩ : ∃ lk, LL[k]? = some lk := ⟨LL[k], List.getElem?_eq_getElem (by omega)⟩
                obtain ⟨lv, hlv, hce⟩ := (HLW.out _ tt).at hlk
                obtain ⟨al, cl, rfl, hl1, hl2, hl3, hl4⟩ := hce.val
                have hhas2 : (view lk).has j = true := HAL.out k lk hlk hk1 hlt
                have hjk : j + 1 < lk.length := by unfold Ln.has view at hhas2; simp at hhas2; omega
                have hmem := List.mem_of_getElem? hlk
                have hl1k := hfit.each lk hmem
                have hw := hfit.wid lk hmem lk[j] (List.getElem_mem (by omega))
                obtain ⟨ad2, tv, rfl, c0, c1, c2, hrt⟩ := hl4 j (by omega)
                obtain ⟨ta, tc, rfl, -⟩ := hrt.val
                have hsp2 := hl3 ad2 rfl
                obtain ⟨k2, o2, sp2⟩ := ad2
                simp only at hsp2 c0 c1 c2
                subst hsp2
                have hgd : lk.dropLast.getD j default = lk[j] := (getD_in hjk).1
                have HS := Lib.hid (cellsSeg_snoc hlk hk1)
                have HGD := Lib.hid hgd
                obtain ⟨x, hx⟩ : ∃ x, x = lk[j]'(by omega) := ⟨_, rfl⟩
                rw [← hx] at c1 c2 hw HGD
                have e3 : o2 + 3 * j = o2 + j * 3 := by omega
                rw [e3] at c0 c1 c2
                obtain ⟨xw, hxw⟩ : ∃ xw : Nat, x.width = xw := ⟨x.width.toNat, by omega⟩
                have HXW := Lib.hid hxw
                rw [hxw] at c1 hw
                have hw2 : xw ≤ 1000000 := by omega
                obtain ⟨x11, h11⟩ : ∃ b, b = decide (x.fin = 11) := ⟨_, rfl⟩
                have e11 := u8_eq (b := x.fin) (c := 11) (n := 11) rfl
                rw [← h11] at e11
                have H11 := Lib.hid h11
                obtain ⟨x0, h0⟩ : ∃ b, b = ((xw : Int) == 0) := ⟨_, rfl⟩
                have H0 := Lib.hid h0
                have HZ0 := Lib.hid h0.symm
                have hne : xw = 0 ∧ x0 = true ∨ 0 < xw ∧ x0 = false := by
                  by_cases hz : xw = 0
                  · left; refine ⟨hz, ?_⟩; rw [h0, hz]; rfl
                  · right; refine ⟨by omega, ?_⟩; rw [h0, beq_eq_false_iff_ne]; omega
                have hcm2 : (max mx (xw + p) : Nat) = cM c j (cellsSeg LL 0 (k + 1)) := by rw [HS.out, cM_snoc, HGD.out, HXW.out, ← HMX.out, HCM.out.2]; rfl
                have HCM2 := Lib.hid hcm2
                have hcd2 : (E && (x0 && x11)) = cD j (cellsSeg LL 0 (k + 1)) := by
                  rw [HS.out, cD_snoc, HGD.out, HXW.out, ← HE.out, H0.out, H11.out]
                  congr 2
                have HCD2 := Lib.hid hcd2
                clear hrt hmem hl3 hl4 hce hlk hx h11 h0 hgd hhas2 hcm2 hcd2 hxw e3 tt hw hne
                have hz0 := HZ0.out
                cases E
                · go_wp2_with fail
                  go_roundw
                  case rel =>
                    refine ⟨k + 1, by omega, by omega, by go_num, ?_, ?_, T.out.trans (Tch.alloc _ _ _)⟩
                    · rw [← HCM2.out]; rw [cast_max]
                    · rw [← HCD2.out]; rfl
                  case measure => simp [intOf]; omega
                · cases x0
                  · go_wp2_with fail
                    go_roundw
                    case rel =>
                      refine ⟨k + 1, by omega, by omega, by go_num, ?_, ?_, T.out.trans (Tch.alloc _ _ _)⟩
                      · rw [← HCM2.out]; rw [cast_max]
                      · rw [← HCD2.out]; rfl
                    case measure => simp [intOf]; omega
                  · cases x11
                    · go_wp2_with fail
                      go_roundw
                      case rel =>
                        refine ⟨k + 1, by omega, by omega, by go_num, ?_, ?_, T.out.trans (Tch.alloc _ _ _)⟩
                        · rw [← HCM2.out]; rw [cast_max]
                        · rw [← HCD2.out]; rfl
                      case measure => simp [intOf]; omega
                    · go_wp2_with fail
                      go_roundw
                      case rel =>
                        refine ⟨k + 1, by omega, by omega, by go_num, ?_, ?_, T.out.trans (Tch.alloc _ _ _)⟩
                        · rw [← HCM2.out]; rw [cast_max]
                        · rw [← HCD2.out]; rfl
                      case measure => simp [intOf]; omega
              · obtain rfl : k = b + 1 := by omega
                clear tt
                cases E
                · go_wp2_with fail
                  refine bodyPost_ret (v := .tuple #[.int .i64 mx, .bool false]) (by simp [results, Tryd.results30, go_sem]) rfl ?_
                  refine ⟨false, ?_, HEND.out _ T.out⟩
                  rw [HWD.out]; unfold cW
                  rw [← HE.out, if_neg (by simp), ← HMX.out]
                · have hh8 := HHAS.out wr
                  obtain ⟨f8, hf8⟩ : ∃ f8, f8 = c.flag 8 := ⟨_, rfl⟩
                  rw [← hf8] at hh8
                  have HF8 := Lib.hid hf8
                  have HH8 := Lib.hid hh8
                  clear hf8 hh8
                  go_wp2_with fail
                  refine HH8.out.mono ?_
                  rintro e w5 ⟨rfl, hb5⟩
                  have HB5 := Lib.hid ((HEND.out _ T.out).trans (hb5.mono (HEND.out _ T.out).size))
                  clear hb5 HH8
                  cases f8
                  · go_wp2_with fail
                    refine bodyPost_ret (v := .tuple #[.int .i64 mx, .bool false]) (by simp [results, Tryd.results30, go_sem]) rfl ?_
                    refine ⟨false, ?_, HB5.out⟩
                    rw [HWD.out]; unfold cW
                    rw [← HF8.out, if_neg (by simp), ← HMX.out]
                  · go_wp2_with fail
                    refine bodyPost_ret (v := .tuple #[.int .i64 0, .bool true]) (by simp [results, Tryd.results30, go_sem]) rfl ?_
                    refine ⟨true, ?_, HB5.out⟩
                    rw [HWD.out]; unfold cW
                    rw [← HF8.out, ← HE.out, if_pos ⟨rfl, rfl⟩]; rfl
          · cases sh
            · go_wp2_with (first | (go_at_call 29; (with_reducible refine HCOL.out.mono ?_); rintro e w' ⟨rfl, rfl⟩) | (go_at_call 18; (with_reducible refine HSHU.out.mono ?_); rintro e w' ⟨rfl, rfl⟩))
              go_round
              case rel =>
                refine ⟨b + 1, by omega, hb5, by go_num, fun k l hk h1 h2 => ?_, fun k l hk h1 h2 => ?_⟩
                · by_cases hkb : k = b + 1
                  · subst hkb
                    rw [HLN.out] at hk; cases hk; exact HHH2.out.symm
                  · exact HB3.out k l hk h1 (by omega)
                · by_cases hkb : k = b
                  · subst hkb
                    rw [HLT.out] at hk; cases hk; exact HSH2.out.symm
                  · exact HB4.out k l hk h1 (by omega)
              case measure => simp [intOf]; omega
            · have hkey := width_block (a := 0) (by omega) hb1 hb2 HA.out HB3.out HB4.out (.inl rfl) (.inl ⟨lt, HLT.out, HSH2.out.symm⟩)
              have HAL := Lib.hid hkey.1
              have HWD := Lib.hid (hkey.2 c)
              clear hkey
              go_wp2_with (first | (go_at_call 29; (with_reducible refine HCOL.out.mono ?_); rintro e w' ⟨rfl, rfl⟩) | (go_at_call 18; (with_reducible refine HSHU.out.mono ?_); rintro e w' ⟨rfl, rfl⟩))
              go_loopw [12, 13, 14] (fun t12 t13 t14 wr => W3Rel (w.alloc (.cells #[.int .i64 m, .int .i64 t, .int .i64 p, .int .u8 ch.toNat, .int .i64 f] 23)) c LL j 0 b t12 t13 t14 wr) (fun _ _ t14 _ => b + 1 - (intOf t14).toNat)
              case atStart =>
                refine ⟨0, Nat.le_refl _, by omega, rfl, ?_, ?_, T0.out⟩
                · rw [cellsSeg_nil]; show Value.int .i64 m = .int .i64 (c.mn : Nat); rw [HCM.out.1]
                · rw [cellsSeg_nil]; rfl
              case round =>
                obtain ⟨k, hk1, hk2, rfl, rfl, rfl, tt⟩ := hrel
                have T := Lib.hid tt
                have hcf2 := HCF.out _ tt
                have hsz := lt_of_heap hcf2
                have d2' : ∀ o, (wr.alloc o).cell? ⟨w.heap.size, 2, none⟩ = some (.int .i64 p) := fun o => by rw [World.cell?_alloc_past _ _ _ hsz]; exact cell_of_blk hcf2 2
                obtain ⟨d0, d1, d2, d3, d4⟩ := conf_at hcf2
                have hmle := HSM.out 0 k
                obtain ⟨mx, hmx⟩ : ∃ mx, mx = cM c j (cellsSeg LL 0 k) := ⟨_, rfl⟩
                obtain ⟨E, hE⟩ : ∃ E, E = cD j (cellsSeg LL 0 k) := ⟨_, rfl⟩
                rw [← hmx] at hmle
                rw [← hmx, ← hE]
                have HMX := Lib.hid hmx
                have HE := Lib.hid hE
                clear hmx hE hcf2
                by_cases hlt : k ≤ b
                · obtain ⟨lk, hlk⟩ : ∃ lk, LL[k]? = some lk := ⟨LL[k], List.getElem?_eq_getElem (by omega)⟩
                  obtain ⟨lv, hlv, hce⟩ := (HLW.out _ tt).at hlk
                  obtain ⟨al, cl, rfl, hl1, hl2, hl3, hl4⟩ := hce.val
                  have hhas2 : (view lk).has j = true := HAL.out k lk hlk hk1 hlt
                  have hjk : j + 1 < lk.length := by unfold Ln.has view at hhas2; simp at hhas2; omega
                  have hmem := List.mem_of_getElem? hlk
                  have hl1k := hfit.each lk hmem
                  have hw := hfit.wid lk hmem lk[j] (List.getElem_mem (by omega))
                  obtain ⟨ad2, tv, rfl, c0, c1, c2, hrt⟩ := hl4 j (by omega)
                  obtain ⟨ta, tc, rfl, -⟩ := hrt.val
                  have hsp2 := hl3 ad2 rfl
                  obtain ⟨k2, o2, sp2⟩ := ad2
                  simp only at hsp2 c0 c1 c2
                  subst hsp2
                  have hgd : lk.dropLast.getD j default = lk[j] := (getD_in hjk).1
                  have HS := Lib.hid (cellsSeg_snoc hlk hk1)
                  have HGD := Lib.hid hgd
                  obtain ⟨x, hx⟩ : ∃ x, x = lk[j]'(by omega) := ⟨_, rfl⟩
                  rw [← hx] at c1 c2 hw HGD
                  have e3 : o2 + 3 * j = o2 + j * 3 := by omega
                  rw [e3] at c0 c1 c2
                  obtain ⟨xw, hxw⟩ : ∃ xw : Nat, x.width = xw := ⟨x.width.toNat, by omega⟩
                  have HXW := Lib.hid hxw
                  rw [hxw] at c1 hw
                  have hw2 : xw ≤ 1000000 := by omega
                  obtain ⟨x11, h11⟩ : ∃ b, b = decide (x.fin = 11) := ⟨_, rfl⟩
                  have e11 := u8_eq (b := x.fin) (c := 11) (n := 11) rfl
                  rw [← h11] at e11
                  have H11 := Lib.hid h11
                  obtain ⟨x0, h0⟩ : ∃ b, b = ((xw : Int) == 0) := ⟨_, rfl⟩
                  have H0 := Lib.hid h0
                  have HZ0 := Lib.hid h0.symm
                  have hne : xw = 0 ∧ x0 = true ∨ 0 < xw ∧ x0 = false := by
                    by_cases hz : xw = 0
                    · left; refine ⟨hz, ?_⟩; rw [h0, hz]; rfl
                    · right; refine ⟨by omega, ?_⟩; rw [h0, beq_eq_false_iff_ne]; omega
                  have hcm2 : (max mx (xw + p) : Nat) = cM c j (cellsSeg LL 0 (k + 1)) := by rw [HS.out, cM_snoc, HGD.out, HXW.out, ← HMX.out, HCM.out.2]; rfl
                  have HCM2 := Lib.hid hcm2
                  have hcd2 : (E && (x0 && x11)) = cD j (cellsSeg LL 0 (k + 1)) := by
                    rw [HS.out, cD_snoc, HGD.out, HXW.out, ← HE.out, H0.out, H11.out]
                    congr 2
                  have HCD2 := Lib.hid hcd2
                  clear hrt hmem hl3 hl4 hce hlk hx h11 h0 hgd hhas2 hcm2 hcd2 hxw e3 tt hw hne
                  have hz0 := HZ0.out
                  cases E
                  · go_wp2_with fail
                    go_roundw
                    case rel =>
                      refine ⟨k + 1, by omega, by omega, by go_num, ?_, ?_, T.out.trans (Tch.alloc _ _ _)⟩
                      · rw [← HCM2.out]; rw [cast_max]
                      · rw [← HCD2.out]; rfl
                    case measure => simp [intOf]; omega
                  · cases x0
                    · go_wp2_with fail
                      go_roundw
                      case rel =>
                        refine ⟨k + 1, by omega, by omega, by go_num, ?_, ?_, T.out.trans (Tch.alloc _ _ _)⟩
                        · rw [← HCM2.out]; rw [cast_max]
                        · rw [← HCD2.out]; rfl
                      case measure => simp [intOf]; omega
                    · cases x11
                      · go_wp2_with fail
                        go_roundw
                        case rel =>
                          refine ⟨k + 1, by omega, by omega, by go_num, ?_, ?_, T.out.trans (Tch.alloc _ _ _)⟩
                          · rw [← HCM2.out]; rw [cast_max]
                          · rw [← HCD2.out]; rfl
                        case measure => simp [intOf]; omega
                      · go_wp2_with fail
                        go_roundw
                        case rel =>
                          refine ⟨k + 1, by omega, by omega, by go_num, ?_, ?_, T.out.trans (Tch.alloc _ _ _)⟩
                          · rw [← HCM2.out]; rw [cast_max]
                          · rw [← HCD2.out]; rfl
                        case measure => simp [intOf]; omega
                · obtain rfl : k = b + 1 := by omega
                  clear tt
                  cases E
                  · go_wp2_with fail
                    refine bodyPost_ret (v := .tuple #[.int .i64 mx, .bool false]) (by simp [results, Tryd.results30, go_sem]) rfl ?_
                    refine ⟨false, ?_, HEND.out _ T.out⟩
                    rw [HWD.out]; unfold cW
                    rw [← HE.out, if_neg (by simp), ← HMX.out]
                  · have hh8 := HHAS.out wr
                    obtain ⟨f8, hf8⟩ : ∃ f8, f8 = c.flag 8 := ⟨_, rfl⟩
                    rw [← hf8] at hh8
                    have HF8 := Lib.hid hf8
                    have HH8 := Lib.hid hh8
                    clear hf8 hh8
                    go_wp2_with fail
                    refine HH8.out.mono ?_
                    rintro e w5 ⟨rfl, hb5⟩
                    have HB5 := Lib.hid ((HEND.out _ T.out).trans (hb5.mono (HEND.out _ T.out).size))
                    clear hb5 HH8
                    cases f8
                    · go_wp2_with fail
                      refine bodyPost_ret (v := .tuple #[.int .i64 mx, .bool false]) (by simp [results, Tryd.results30, go_sem]) rfl ?_
                      refine ⟨false, ?_, HB5.out⟩
                      rw [HWD.out]; unfold cW
                      rw [← HF8.out, if_neg (by simp), ← HMX.out]
                    · go_wp2_with fail
                      refine bodyPost_ret (v := .tuple #[.int .i64 0, .bool true]) (by simp [results, Tryd.results30, go_sem]) rfl ?_
                      refine ⟨true, ?_, HB5.out⟩
                      rw [HWD.out]; unfold cW
                      rw [← HF8.out, ← HE.out, if_pos ⟨rfl, rfl⟩]; rfl
        · have hkey := width_block (a := 0) (by omega) hb1 hb2 HA.out HB3.out HB4.out (.inl rfl) (.inr (.inl (by omega)))
          have HAL := Lib.hid hkey.1
          have HWD := Lib.hid (hkey.2 c)
          clear hkey
          go_wp2_with fail
          go_loopw [12, 13, 14] (fun t12 t13 t14 wr => W3Rel (w.alloc (.cells #[.int .i64 m, .int .i64 t, .int .i64 p, .int .u8 ch.toNat, .int .i64 f] 23)) c LL j 0 b t12 t13 t14 wr) (fun _ _ t14 _ => b + 1 - (intOf t14).toNat)
          case atStart =>
            refine ⟨0, Nat.le_refl _, by omega, rfl, ?_, ?_, T0.out⟩
            · rw [cellsSeg_nil]; show Value.int .i64 m = .int .i64 (c.mn : Nat); rw [HCM.out.1]
            · rw [cellsSeg_nil]; rfl
          case round =>
            obtain ⟨k, hk1, hk2, rfl, rfl, rfl, tt⟩ := hrel
            have T := Lib.hid tt
            have hcf2 := HCF.out _ tt
            have hsz := lt_of_heap hcf2
            have d2' : ∀ o, (wr.alloc o).cell? ⟨w.heap.size, 2, none⟩ = some (.int .i64 p) := fun o => by rw [World.cell?_alloc_past _ _ _ hsz]; exact cell_of_blk hcf2 2
            obtain ⟨d0, d1, d2, d3, d4⟩ := conf_at hcf2
            have hmle := HSM.out 0 k
            obtain ⟨mx, hmx⟩ : ∃ mx, mx = cM c j (cellsSeg LL 0 k) := ⟨_, rfl⟩
            obtain ⟨E, hE⟩ : ∃ E, E = cD j (cellsSeg LL 0 k) := ⟨_, rfl⟩
            rw [← hmx] at hmle
            rw [← hmx, ← hE]
            have HMX := Lib.hid hmx
            have HE := Lib.hid hE
            clear hmx hE hcf2
            by_cases hlt : k ≤ b
            · obtain ⟨lk, hlk⟩ : ∃ lk, LL[k]? = some lk := ⟨LL[k], List.getElem?_eq_getElem (by omega)⟩
              obtain ⟨lv, hlv, hce⟩ := (HLW.out _ tt).at hlk
              obtain ⟨al, cl, rfl, hl1, hl2, hl3, hl4⟩ := hce.val
              have hhas2 : (view lk).has j = true := HAL.out k lk hlk hk1 hlt
              have hjk : j + 1 < lk.length := by unfold Ln.has view at hhas2; simp at hhas2; omega
              have hmem := List.mem_of_getElem? hlk
              have hl1k := hfit.each lk hmem
              have hw := hfit.wid lk hmem lk[j] (List.getElem_mem (by omega))
              obtain ⟨ad2, tv, rfl, c0, c1, c2, hrt⟩ := hl4 j (by omega)
              obtain ⟨ta, tc, rfl, -⟩ := hrt.val
              have hsp2 := hl3 ad2 rfl
              obtain ⟨k2, o2, sp2⟩ := ad2
              simp only at hsp2 c0 c1 c2
              subst hsp2
              have hgd : lk.dropLast.getD j default = lk[j] := (getD_in hjk).1
              have HS := Lib.hid (cellsSeg_snoc hlk hk1)
              have HGD := Lib.hid hgd
              obtain ⟨x, hx⟩ : ∃ x, x = lk[j]'(by omega) := ⟨_, rfl⟩
              rw [← hx] at c1 c2 hw HGD
              have e3 : o2 + 3 * j = o2 + j * 3 := by omega
              rw [e3] at c0 c1 c2
              obtain ⟨xw, hxw⟩ : ∃ xw : Nat, x.width = xw := ⟨x.width.toNat, by omega⟩
              have HXW := Lib.hid hxw
              rw [hxw] at c1 hw
              have hw2 : xw ≤ 1000000 := by omega
              obtain ⟨x11, h11⟩ : ∃ b, b = decide (x.fin = 11) := ⟨_, rfl⟩
              have e11 := u8_eq (b := x.fin) (c := 11) (n := 11) rfl
              rw [← h11] at e11
              have H11 := Lib.hid h11
              obtain ⟨x0, h0⟩ : ∃ b, b = ((xw : Int) == 0) := ⟨_, rfl⟩
              have H0 := Lib.hid h0
              have HZ0 := Lib.hid h0.symm
              have hne : xw = 0 ∧ x0 = true ∨ 0 < xw ∧ x0 = false := by
                by_cases hz : xw = 0
                · left; refine ⟨hz, ?_⟩; rw [h0, hz]; rfl
                · right; refine ⟨by omega, ?_⟩; rw [h0, beq_eq_false_iff_ne]; omega
              have hcm2 : (max mx (xw + p) : Nat) = cM c j (cellsSeg LL 0 (k + 1)) := by rw [HS.out, cM_snoc, HGD.out, HXW.out, ← HMX.out, HCM.out.2]; rfl
              have HCM2 := Lib.hid hcm2
              have hcd2 : (E && (x0 && x11)) = cD j (cellsSeg LL 0 (k + 1)) := by
                rw [HS.out, cD_snoc, HGD.out, HXW.out, ← HE.out, H0.out, H11.out]
                congr 2
              have HCD2 := Lib.hid hcd2
              clear hrt hmem hl3 hl4 hce hlk hx h11 h0 hgd hhas2 hcm2 hcd2 hxw e3 tt hw hne
              have hz0 := HZ0.out
              cases E
              · go_wp2_with fail
                go_roundw
                case rel =>
                  refine ⟨k + 1, by omega, by omega, by go_num, ?_, ?_, T.out.trans (Tch.alloc _ _ _)⟩
                  · rw [← HCM2.out]; rw [cast_max]
                  · rw [← HCD2.out]; rfl
                case measure => simp [intOf]; omega
              · cases x0
                · go_wp2_with fail
                  go_roundw
                  case rel =>
                    refine ⟨k + 1, by omega, by omega, by go_num, ?_, ?_, T.out.trans (Tch.alloc _ _ _)⟩
                    · rw [← HCM2.out]; rw [cast_max]
                    · rw [← HCD2.out]; rfl
                  case measure => simp [intOf]; omega
                · cases x11
                  · go_wp2_with fail
                    go_roundw
                    case rel =>
                      refine ⟨k + 1, by omega, by omega, by go_num, ?_, ?_, T.out.trans (Tch.alloc _ _ _)⟩
                      · rw [← HCM2.out]; rw [cast_max]
                      · rw [← HCD2.out]; rfl
                    case measure => simp [intOf]; omega
                  · go_wp2_with fail
                    go_roundw
                    case rel =>
                      refine ⟨k + 1, by omega, by omega, by go_num, ?_, ?_, T.out.trans (Tch.alloc _ _ _)⟩
                      · rw [← HCM2.out]; rw [cast_max]
                      · rw [← HCD2.out]; rfl
                    case measure => simp [intOf]; omega
            · obtain rfl : k = b + 1 := by omega
              clear tt
              cases E
              · go_wp2_with fail
                refine bodyPost_ret (v := .tuple #[.int .i64 mx, .bool false]) (by simp [results, Tryd.results30, go_sem]) rfl ?_
                refine ⟨false, ?_, HEND.out _ T.out⟩
                rw [HWD.out]; unfold cW
                rw [← HE.out, if_neg (by simp), ← HMX.out]
              · have hh8 := HHAS.out wr
                obtain ⟨f8, hf8⟩ : ∃ f8, f8 = c.flag 8 := ⟨_, rfl⟩
                rw [← hf8] at hh8
                have HF8 := Lib.hid hf8
                have HH8 := Lib.hid hh8
                clear hf8 hh8
                go_wp2_with fail
                refine HH8.out.mono ?_
                rintro e w5 ⟨rfl, hb5⟩
                have HB5 := Lib.hid ((HEND.out _ T.out).trans (hb5.mono (HEND.out _ T.out).size))
                clear hb5 HH8
                cases f8
                · go_wp2_with fail
                  refine bodyPost_ret (v := .tuple #[.int .i64 mx, .bool false]) (by simp [results, Tryd.results30, go_sem]) rfl ?_
                  refine ⟨false, ?_, HB5.out⟩
                  rw [HWD.out]; unfold cW
                  rw [← HF8.out, if_neg (by simp), ← HMX.out]
                · go_wp2_with fail
                  refine bodyPost_ret (v := .tuple #[.int .i64 0, .bool true]) (by simp [results, Tryd.results30, go_sem]) rfl ?_
                  refine ⟨true, ?_, HB5.out⟩
                  rw [HWD.out]; unfold cW
                  rw [← HF8.out, ← HE.out, if_pos ⟨rfl, rfl⟩]; rfl
    · obtain ⟨la, hla⟩ : ∃ la, LL[a]? = some la := ⟨LL[a], List.getElem?_eq_getElem (by omega)⟩
      obtain ⟨lv, hlv, hce⟩ := HLZ.out.at hla
      obtain ⟨al, cl, rfl, -⟩ := hce.val
      have hmem := List.mem_of_getElem? hla
      have hla1 := hfit.each la hmem
      have HCOL := Lib.hid (column_calls _ hce j (by omega) (by omega))
      have HSHU := Lib.hid (shut_calls _ hce (by omega) (hfit.ne la hmem))
      have HLA := Lib.hid hla
      obtain ⟨hh, hhh⟩ : ∃ b, b = (view la).has j := ⟨_, rfl⟩
      obtain ⟨sh, hsh⟩ : ∃ b, b = (view la).shut := ⟨_, rfl⟩
      rw [← hhh] at HCOL
      rw [← hsh] at HSHU
      have HHH := Lib.hid hhh
      have HSH := Lib.hid hsh
      clear hce hmem hla hhh hsh
      have hacast : (((a + 1 : Nat) : Int)) = (a : Int) + 1 := by omega
      cases hh
      · have HXA := Lib.hid (show a + 1 = 0 ∨ ∃ l, LL[a + 1 - 1]? = some l ∧ ((view l).has j && !(view l).shut) = false from .inr ⟨la, HLA.out, by rw [← HHH.out]; rfl⟩)
        go_wp2_with (first | (go_at_call 29; (with_reducible refine HCOL.out.mono ?_); rintro e w' ⟨rfl, rfl⟩) | (go_at_call 18; (with_reducible refine HSHU.out.mono ?_); rintro e w' ⟨rfl, rfl⟩))
        go_loop [11] (fun t11 => W2Rel LL i j t11) (fun t11 => LL.length - (intOf t11).toNat)
        case atStart =>
          refine ⟨i, Nat.le_refl _, hil, rfl, fun k l hk h1 h2 => ?_, fun k l hk h1 h2 => by omega⟩
          obtain rfl : k = i := by omega
          rw [HI.out] at hk; cases hk; exact HJ.out
        case round =>
          obtain ⟨b, hb1, hb2, rfl, hb3, hb4⟩ := hrel
          have HB3 := Lib.hid hb3
          have HB4 := Lib.hid hb4
          clear hb3 hb4
          by_cases hb5 : b + 1 < LL.length
          · obtain ⟨ln, hln⟩ : ∃ ln, LL[b + 1]? = some ln := ⟨LL[b + 1], List.getElem?_eq_getElem hb5⟩
            obtain ⟨lt, hlt⟩ : ∃ lt, LL[b]? = some lt := ⟨LL[b], List.getElem?_eq_getElem hb2⟩
            obtain ⟨nv, hnv, hnce⟩ := HLZ.out.at hln
            obtain ⟨tv, htv, htce⟩ := HLZ.out.at hlt
            obtain ⟨an, cn, rfl, -⟩ := hnce.val
            obtain ⟨at', ct, rfl, -⟩ := htce.val
            have hm1 := List.mem_of_getElem? hln
            have hm2 := List.mem_of_getElem? hlt
            have hx1 := hfit.each ln hm1
            have hx2 := hfit.each lt hm2
            have HCOL := Lib.hid (column_calls _ hnce j (by omega) (by omega))
            have HSHU := Lib.hid (shut_calls _ htce (by omega) (hfit.ne lt hm2))
            have HLN := Lib.hid hln
            have HLT := Lib.hid hlt
            obtain ⟨hh, hhh⟩ : ∃ b, b = (view ln).has j := ⟨_, rfl⟩
            obtain ⟨sh, hsh⟩ : ∃ b, b = (view lt).shut := ⟨_, rfl⟩
            rw [← hhh] at HCOL
            rw [← hsh] at HSHU
            have HHH2 := Lib.hid hhh
            have HSH2 := Lib.hid hsh
            clear hnce htce hm1 hm2 hln hlt hhh hsh
            cases hh
            · have hkey := width_block (a := (a + 1)) (by omega) hb1 hb2 HA.out HB3.out HB4.out HXA.out (.inr (.inr ⟨ln, HLN.out, HHH2.out.symm⟩))
              have HAL := Lib.hid hkey.1
              have HWD := Lib.hid (hkey.2 c)
              clear hkey
              go_wp2_with (first | (go_at_call 29; (with_reducible refine HCOL.out.mono ?_); rintro e w' ⟨rfl, rfl⟩) | (go_at_call 18; (with_reducible refine HSHU.out.mono ?_); rintro e w' ⟨rfl, rfl⟩))
              go_loopw [12, 13, 14] (fun t12 t13 t14 wr => W3Rel (w.alloc (.cells #[.int .i64 m, .int .i64 t, .int .i64 p, .int .u8 ch.toNat, .int .i64 f] 23)) c LL j (a + 1) b t12 t13 t14 wr) (fun _ _ t14 _ => b + 1 - (intOf t14).toNat)
              case atStart =>
                refine ⟨(a + 1), Nat.le_refl _, by omega, rfl, ?_, ?_, T0.out⟩
                · rw [cellsSeg_nil]; show Value.int .i64 m = .int .i64 (c.mn : Nat); rw [HCM.out.1]
                · rw [cellsSeg_nil]; rfl
              case round =>
                obtain ⟨k, hk1, hk2, rfl, rfl, rfl, tt⟩ := hrel
                have T := Lib.hid tt
                have hcf2 := HCF.out _ tt
                have hsz := lt_of_heap hcf2
                have d2' : ∀ o, (wr.alloc o).cell? ⟨w.heap.size, 2, none⟩ = some (.int .i64 p) := fun o => by rw [World.cell?_alloc_past _ _ _ hsz]; exact cell_of_blk hcf2 2
                obtain ⟨d0, d1, d2, d3, d4⟩ := conf_at hcf2
                have hmle := HSM.out (a + 1) k
                obtain ⟨mx, hmx⟩ : ∃ mx, mx = cM c j (cellsSeg LL (a + 1) k) := ⟨_, rfl⟩
                obtain ⟨E, hE⟩ : ∃ E, E = cD j (cellsSeg LL (a + 1) k) := ⟨_, rfl⟩
                rw [← hmx] at hmle
                rw [← hmx, ← hE]
                have HMX := Lib.hid hmx
                have HE := Lib.hid hE
                clear hmx hE hcf2
                by_cases hlt : k ≤ b
                · obtain ⟨lk, hlk⟩ : ∃ lk, LL[k]? = some lk := ⟨LL[k], List.getElem?_eq_getElem (by omega)⟩
                  obtain ⟨lv, hlv, hce⟩ := (HLW.out _ tt).at hlk
                  obtain ⟨al, cl, rfl, hl1, hl2, hl3, hl4⟩ := hce.val
                  have hhas2 : (view lk).has j = true := HAL.out k lk hlk hk1 hlt
                  have hjk : j + 1 < lk.length := by unfold Ln.has view at hhas2; simp at hhas2; omega
                  have hmem := List.mem_of_getElem? hlk
                  have hl1k := hfit.each lk hmem
                  have hw := hfit.wid lk hmem lk[j] (List.getElem_mem (by omega))
                  obtain ⟨ad2, tv, rfl, c0, c1, c2, hrt⟩ := hl4 j (by omega)
                  obtain ⟨ta, tc, rfl, -⟩ := hrt.val
                  have hsp2 := hl3 ad2 rfl
                  obtain ⟨k2, o2, sp2⟩ := ad2
                  simp only at hsp2 c0 c1 c2
                  subst hsp2
                  have hgd : lk.dropLast.getD j default = lk[j] := (getD_in hjk).1
                  have HS := Lib.hid (cellsSeg_snoc hlk hk1)
                  have HGD := Lib.hid hgd
                  obtain ⟨x, hx⟩ : ∃ x, x = lk[j]'(by omega) := ⟨_, rfl⟩
                  rw [← hx] at c1 c2 hw HGD
                  have e3 : o2 + 3 * j = o2 + j * 3 := by omega
                  rw [e3] at c0 c1 c2
                  obtain ⟨xw, hxw⟩ : ∃ xw : Nat, x.width = xw := ⟨x.width.toNat, by omega⟩
                  have HXW := Lib.hid hxw
                  rw [hxw] at c1 hw
                  have hw2 : xw ≤ 1000000 := by omega
                  obtain ⟨x11, h11⟩ : ∃ b, b = decide (x.fin = 11) := ⟨_, rfl⟩
                  have e11 := u8_eq (b := x.fin) (c := 11) (n := 11) rfl
                  rw [← h11] at e11
                  have H11 := Lib.hid h11
                  obtain ⟨x0, h0⟩ : ∃ b, b = ((xw : Int) == 0) := ⟨_, rfl⟩
                  have H0 := Lib.hid h0
                  have HZ0 := Lib.hid h0.symm
                  have hne : xw = 0 ∧ x0 = true ∨ 0 < xw ∧ x0 = false := by
                    by_cases hz : xw = 0
                    · left; refine ⟨hz, ?_⟩; rw [h0, hz]; rfl
                    · right; refine ⟨by omega, ?_⟩; rw [h0, beq_eq_false_iff_ne]; omega
                  have hcm2 : (max mx (xw + p) : Nat) = cM c j (cellsSeg LL (a + 1) (k + 1)) := by rw [HS.out, cM_snoc, HGD.out, HXW.out, ← HMX.out, HCM.out.2]; rfl
                  have HCM2 := Lib.hid hcm2
                  have hcd2 : (E && (x0 && x11)) = cD j (cellsSeg LL (a + 1) (k + 1)) := by
                    rw [HS.out, cD_snoc, HGD.out, HXW.out, ← HE.out, H0.out, H11.out]
                    congr 2
                  have HCD2 := Lib.hid hcd2
                  clear hrt hmem hl3 hl4 hce hlk hx h11 h0 hgd hhas2 hcm2 hcd2 hxw e3 tt hw hne
                  have hz0 := HZ0.out
                  cases E
                  · go_wp2_with fail
                    go_roundw
                    case rel =>
                      refine ⟨k + 1, by omega, by omega, by go_num, ?_, ?_, T.out.trans (Tch.alloc _ _ _)⟩
                      · rw [← HCM2.out]; rw [cast_max]
                      · rw [← HCD2.out]; rfl
                    case measure => simp [intOf]; omega
                  · cases x0
                    · go_wp2_with fail
                      go_roundw
                      case rel =>
                        refine ⟨k + 1, by omega, by omega, by go_num, ?_, ?_, T.out.trans (Tch.alloc _ _ _)⟩
                        · rw [← HCM2.out]; rw [cast_max]
                        · rw [← HCD2.out]; rfl
                      case measure => simp [intOf]; omega
                    · cases x11
                      · go_wp2_with fail
                        go_roundw
                        case rel =>
                          refine ⟨k + 1, by omega, by omega, by go_num, ?_, ?_, T.out.trans (Tch.alloc _ _ _)⟩
                          · rw [← HCM2.out]; rw [cast_max]
                          · rw [← HCD2.out]; rfl
                        case measure => simp [intOf]; omega
                      · go_wp2_with fail
                        go_roundw
                        case rel =>
                          refine ⟨k + 1, by omega, by omega, by go_num, ?_, ?_, T.out.trans (Tch.alloc _ _ _)⟩
                          · rw [← HCM2.out]; rw [cast_max]
                          · rw [← HCD2.out]; rfl
                        case measure => simp [intOf]; omega
                · obtain rfl : k = b + 1 := by omega
                  clear tt
                  cases E
                  · go_wp2_with fail
                    refine bodyPost_ret (v := .tuple #[.int .i64 mx, .bool false]) (by simp [results, Tryd.results30, go_sem]) rfl ?_
                    refine ⟨false, ?_, HEND.out _ T.out⟩
                    rw [HWD.out]; unfold cW
                    rw [← HE.out, if_neg (by simp), ← HMX.out]
                  · have hh8 := HHAS.out wr
                    obtain ⟨f8, hf8⟩ : ∃ f8, f8 = c.flag 8 := ⟨_, rfl⟩
                    rw [← hf8] at hh8
                    have HF8 := Lib.hid hf8
                    have HH8 := Lib.hid hh8
                    clear hf8 hh8
                    go_wp2_with fail
                    refine HH8.out.mono ?_
                    rintro e w5 ⟨rfl, hb5⟩
                    have HB5 := Lib.hid ((HEND.out _ T.out).trans (hb5.mono (HEND.out _ T.out).size))
                    clear hb5 HH8
                    cases f8
                    · go_wp2_with fail
                      refine bodyPost_ret (v := .tuple #[.int .i64 mx, .bool false]) (by simp [results, Tryd.results30, go_sem]) rfl ?_
                      refine ⟨false, ?_, HB5.out⟩
                      rw [HWD.out]; unfold cW
                      rw [← HF8.out, if_neg (by simp), ← HMX.out]
                    · go_wp2_with fail
                      refine bodyPost_ret (v := .tuple #[.int .i64 0, .bool true]) (by simp [results, Tryd.results30, go_sem]) rfl ?_
                      refine ⟨true, ?_, HB5.out⟩
                      rw [HWD.out]; unfold cW
                      rw [← HF8.out, ← HE.out, if_pos ⟨rfl, rfl⟩]; rfl
            · cases sh
              · go_wp2_with (first | (go_at_call 29; (with_reducible refine HCOL.out.mono ?_); rintro e w' ⟨rfl, rfl⟩) | (go_at_call 18; (with_reducible refine HSHU.out.mono ?_); rintro e w' ⟨rfl, rfl⟩))
                go_round
                case rel =>
                  refine ⟨b + 1, by omega, hb5, by go_num, fun k l hk h1 h2 => ?_, fun k l hk h1 h2 => ?_⟩
                  · by_cases hkb : k = b + 1
                    · subst hkb
                      rw [HLN.out] at hk; cases hk; exact HHH2.out.symm
                    · exact HB3.out k l hk h1 (by omega)
                  · by_cases hkb : k = b
                    · subst hkb
                      rw [HLT.out] at hk; cases hk; exact HSH2.out.symm
                    · exact HB4.out k l hk h1 (by omega)
                case measure => simp [intOf]; omega
              · have hkey := width_block (a := (a + 1)) (by omega) hb1 hb2 HA.out HB3.out HB4.out HXA.out (.inl ⟨lt, HLT.out, HSH2.out.symm⟩)
                have HAL := Lib.hid hkey.1
                have HWD := Lib.hid (hkey.2 c)
                clear hkey
                go_wp2_with (first | (go_at_call 29; (with_reducible refine HCOL.out.mono ?_); rintro e w' ⟨rfl, rfl⟩) | (go_at_call 18; (with_reducible refine HSHU.out.mono ?_); rintro e w' ⟨rfl, rfl⟩))
                go_loopw [12, 13, 14] (fun t12 t13 t14 wr => W3Rel (w.alloc (.cells #[.int .i64 m, .int .i64 t, .int .i64 p, .int .u8 ch.toNat, .int .i64 f] 23)) c LL j (a + 1) b t12 t13 t14 wr) (fun _ _ t14 _ => b + 1 - (intOf t14).toNat)
                case atStart =>
                  refine ⟨(a + 1), Nat.le_refl _, by omega, rfl, ?_, ?_, T0.out⟩
                  · rw [cellsSeg_nil]; show Value.int .i64 m = .int .i64 (c.mn : Nat); rw [HCM.out.1]
                  · rw [cellsSeg_nil]; rfl
                case round =>
                  obtain ⟨k, hk1, hk2, rfl, rfl, rfl, tt⟩ := hrel
                  have T := Lib.hid tt
                  have hcf2 := HCF.out _ tt
                  have hsz := lt_of_heap hcf2
                  have d2' : ∀ o, (wr.alloc o).cell? ⟨w.heap.size, 2, none⟩ = some (.int .i64 p) := fun o => by rw [World.cell?_alloc_past _ _ _ hsz]; exact cell_of_blk hcf2 2
                  obtain ⟨d0, d1, d2, d3, d4⟩ := conf_at hcf2
                  have hmle := HSM.out (a + 1) k
                  obtain ⟨mx, hmx⟩ : ∃ mx, mx = cM c j (cellsSeg LL (a + 1) k) := ⟨_, rfl⟩
                  obtain ⟨E, hE⟩ : ∃ E, E = cD j (cellsSeg LL (a + 1) k) := ⟨_, rfl⟩
                  rw [← hmx] at hmle
                  rw [← hmx, ← hE]
                  have HMX := Lib.hid hmx
                  have HE := Lib.hid hE
                  clear hmx hE hcf2
                  by_cases hlt : k ≤ b
                  · obtain ⟨lk, hlk⟩ : ∃ lk, LL[k]? = some lk := ⟨LL[k], List.getElem?_eq_getElem (by omega)⟩
                    obtain ⟨lv, hlv, hce⟩ := (HLW.out _ tt).at hlk
                    obtain ⟨al, cl, rfl, hl1, hl2, hl3, hl4⟩ := hce.val
                    have hhas2 : (view lk).has j = true := HAL.out k lk hlk hk1 hlt
                    have hjk : j + 1 < lk.length := by unfold Ln.has view at hhas2; simp at hhas2; omega
                    have hmem := List.mem_of_getElem? hlk
                    have hl1k := hfit.each lk hmem
                    have hw := hfit.wid lk hmem lk[j] (List.getElem_mem (by omega))
                    obtain ⟨ad2, tv, rfl, c0, c1, c2, hrt⟩ := hl4 j (by omega)
                    obtain ⟨ta, tc, rfl, -⟩ := hrt.val
                    have hsp2 := hl3 ad2 rfl
                    obtain ⟨k2, o2, sp2⟩ := ad2
                    simp only at hsp2 c0 c1 c2
                    subst hsp2
                    have hgd : lk.dropLast.getD j default = lk[j] := (getD_in hjk).1
                    have HS := Lib.hid (cellsSeg_snoc hlk hk1)
                    have HGD := Lib.hid hgd
                    obtain ⟨x, hx⟩ : ∃ x, x = lk[j]'(by omega) := ⟨_, rfl⟩
                    rw [← hx] at c1 c2 hw HGD
                    have e3 : o2 + 3 * j = o2 + j * 3 := by omega
                    rw [e3] at c0 c1 c2
                    obtain ⟨xw, hxw⟩ : ∃ xw : Nat, x.width = xw := ⟨x.width.toNat, by omega⟩
                    have HXW := Lib.hid hxw
                    rw [hxw] at c1 hw
                    have hw2 : xw ≤ 1000000 := by omega
                    obtain ⟨x11, h11⟩ : ∃ b, b = decide (x.fin = 11) := ⟨_, rfl⟩
                    have e11 := u8_eq (b := x.fin) (c := 11) (n := 11) rfl
                    rw [← h11] at e11
                    have H11 := Lib.hid h11
                    obtain ⟨x0, h0⟩ : ∃ b, b = ((xw : Int) == 0) := ⟨_, rfl⟩
                    have H0 := Lib.hid h0
                    have HZ0 := Lib.hid h0.symm
                    have hne : xw = 0 ∧ x0 = true ∨ 0 < xw ∧ x0 = false := by
                      by_cases hz : xw = 0
                      · left; refine ⟨hz, ?_⟩; rw [h0, hz]; rfl
                      · right; refine ⟨by omega, ?_⟩; rw [h0, beq_eq_false_iff_ne]; omega
                    have hcm2 : (max mx (xw + p) : Nat) = cM c j (cellsSeg LL (a + 1) (k + 1)) := by rw [HS.out, cM_snoc, HGD.out, HXW.out, ← HMX.out, HCM.out.2]; rfl
                    have HCM2 := Lib.hid hcm2
                    have hcd2 : (E && (x0 && x11)) = cD j (cellsSeg LL (a + 1) (k + 1)) := by
                      rw [HS.out, cD_snoc, HGD.out, HXW.out, ← HE.out, H0.out, H11.out]
                      congr 2
                    have HCD2 := Lib.hid hcd2
                    clear hrt hmem hl3 hl4 hce hlk hx h11 h0 hgd hhas2 hcm2 hcd2 hxw e3 tt hw hne
                    have hz0 := HZ0.out
                    cases E
                    · go_wp2_with fail
                      go_roundw
                      case rel =>
                        refine ⟨k + 1, by omega, by omega, by go_num, ?_, ?_, T.out.trans (Tch.alloc _ _ _)⟩
                        · rw [← HCM2.out]; rw [cast_max]
                        · rw [← HCD2.out]; rfl
                      case measure => simp [intOf]; omega
                    · cases x0
                      · go_wp2_with fail
                        go_roundw
                        case rel =>
                          refine ⟨k + 1, by omega, by omega, by go_num, ?_, ?_, T.out.trans (Tch.alloc _ _ _)⟩
                          · rw [← HCM2.out]; rw [cast_max]
                          · rw [← HCD2.out]; rfl
                        case measure => simp [intOf]; omega
                      · cases x11
                        · go_wp2_with fail
                          go_roundw
                          case rel =>
                            refine ⟨k + 1, by omega, by omega, by go_num, ?_, ?_, T.out.trans (Tch.alloc _ _ _)⟩
                            · rw [← HCM2.out]; rw [cast_max]
                            · rw [← HCD2.out]; rfl
                          case measure => simp [intOf]; omega
                        · go_wp2_with fail
                          go_roundw
                          case rel =>
                            refine ⟨k + 1, by omega, by omega, by go_num, ?_, ?_, T.out.trans (Tch.alloc _ _ _)⟩
                            · rw [← HCM2.out]; rw [cast_max]
                            · rw [← HCD2.out]; rfl
                          case measure => simp [intOf]; omega
                  · obtain rfl : k = b + 1 := by omega
                    clear tt
                    cases E
                    · go_wp2_with fail
                      refine bodyPost_ret (v := .tuple #[.int .i64 mx, .bool false]) (by simp [results, Tryd.results30, go_sem]) rfl ?_
                      refine ⟨false, ?_, HEND.out _ T.out⟩
                      rw [HWD.out]; unfold cW
                      rw [← HE.out, if_neg (by simp), ← HMX.out]
                    · have hh8 := HHAS.out wr
                      obtain ⟨f8, hf8⟩ : ∃ f8, f8 = c.flag 8 := ⟨_, rfl⟩
                      rw [← hf8] at hh8
                      have HF8 := Lib.hid hf8
                      have HH8 := Lib.hid hh8
                      clear hf8 hh8
                      go_wp2_with fail
                      refine HH8.out.mono ?_
                      rintro e w5 ⟨rfl, hb5⟩
                      have HB5 := Lib.hid ((HEND.out _ T.out).trans (hb5.mono (HEND.out _ T.out).size))
                      clear hb5 HH8
                      cases f8
                      · go_wp2_with fail
                        refine bodyPost_ret (v := .tuple #[.int .i64 mx, .bool false]) (by simp [results, Tryd.results30, go_sem]) rfl ?_
                        refine ⟨false, ?_, HB5.out⟩
                        rw [HWD.out]; unfold cW
                        rw [← HF8.out, if_neg (by simp), ← HMX.out]
                      · go_wp2_with fail
                        refine bodyPost_ret (v := .tuple #[.int .i64 0, .bool true]) (by simp [results, Tryd.results30, go_sem]) rfl ?_
                        refine ⟨true, ?_, HB5.out⟩
                        rw [HWD.out]; unfold cW
                        rw [← HF8.out, ← HE.out, if_pos ⟨rfl, rfl⟩]; rfl
          · have hkey := width_block (a := (a + 1)) (by omega) hb1 hb2 HA.out HB3.out HB4.out HXA.out (.inr (.inl (by omega)))
            have HAL := Lib.hid hkey.1
            have HWD := Lib.hid (hkey.2 c)
            clear hkey
            go_wp2_with fail
            go_loopw [12, 13, 14] (fun t12 t13 t14 wr => W3Rel (w.alloc (.cells #[.int .i64 m, .int .i64 t, .int .i64 p, .int .u8 ch.toNat, .int .i64 f] 23)) c LL j (a + 1) b t12 t13 t14 wr) (fun _ _ t14 _ => b + 1 - (intOf t14).toNat)
            case atStart =>
              refine ⟨(a + 1), Nat.le_refl _, by omega, rfl, ?_, ?_, T0.out⟩
              · rw [cellsSeg_nil]; show Value.int .i64 m = .int .i64 (c.mn : Nat); rw [HCM.out.1]
              · rw [cellsSeg_nil]; rfl
            case round =>
              obtain ⟨k, hk1, hk2, rfl, rfl, rfl, tt⟩ := hrel
              have T := Lib.hid tt
              have hcf2 := HCF.out _ tt
              have hsz := lt_of_heap hcf2
              have d2' : ∀ o, (wr.alloc o).cell? ⟨w.heap.size, 2, none⟩ = some (.int .i64 p) := fun o => by rw [World.cell?_alloc_past _ _ _ hsz]; exact cell_of_blk hcf2 2
              obtain ⟨d0, d1, d2, d3, d4⟩ := conf_at hcf2
              have hmle := HSM.out (a + 1) k
              obtain ⟨mx, hmx⟩ : ∃ mx, mx = cM c j (cellsSeg LL (a + 1) k) := ⟨_, rfl⟩
              obtain ⟨E, hE⟩ : ∃ E, E = cD j (cellsSeg LL (a + 1) k) := ⟨_, rfl⟩
              rw [← hmx] at hmle
              rw [← hmx, ← hE]
              have HMX := Lib.hid hmx
              have HE := Lib.hid hE
              clear hmx hE hcf2
              by_cases hlt : k ≤ b
              · obtain ⟨lk, hlk⟩ : ∃ lk, LL[k]? = some lk := ⟨LL[k], List.getElem?_eq_getElem (by omega)⟩
                obtain ⟨lv, hlv, hce⟩ := (HLW.out _ tt).at hlk
                obtain ⟨al, cl, rfl, hl1, hl2, hl3, hl4⟩ := hce.val
                have hhas2 : (view lk).has j = true := HAL.out k lk hlk hk1 hlt
                have hjk : j + 1 < lk.length := by unfold Ln.has view at hhas2; simp at hhas2; omega
                have hmem := List.mem_of_getElem? hlk
                have hl1k := hfit.each lk hmem
                have hw := hfit.wid lk hmem lk[j] (List.getElem_mem (by omega))
                obtain ⟨ad2, tv, rfl, c0, c1, c2, hrt⟩ := hl4 j (by omega)
                obtain ⟨ta, tc, rfl, -⟩ := hrt.val
                have hsp2 := hl3 ad2 rfl
                obtain ⟨k2, o2, sp2⟩ := ad2
                simp only at hsp2 c0 c1 c2
                subst hsp2
                have hgd : lk.dropLast.getD j default = lk[j] := (getD_in hjk).1
                have HS := Lib.hid (cellsSeg_snoc hlk hk1)
                have HGD := Lib.hid hgd
                obtain ⟨x, hx⟩ : ∃ x, x = lk[j]'(by omega) := ⟨_, rfl⟩
                rw [← hx] at c1 c2 hw HGD
                have e3 : o2 + 3 * j = o2 + j * 3 := by omega
                rw [e3] at c0 c1 c2
                obtain ⟨xw, hxw⟩ : ∃ xw : Nat, x.width = xw := ⟨x.width.toNat, by omega⟩
                have HXW := Lib.hid hxw
                rw [hxw] at c1 hw
                have hw2 : xw ≤ 1000000 := by omega
                obtain ⟨x11, h11⟩ : ∃ b, b = decide (x.fin = 11) := ⟨_, rfl⟩
                have e11 := u8_eq (b := x.fin) (c := 11) (n := 11) rfl
                rw [← h11] at e11
                have H11 := Lib.hid h11
                obtain ⟨x0, h0⟩ : ∃ b, b = ((xw : Int) == 0) := ⟨_, rfl⟩
                have H0 := Lib.hid h0
                have HZ0 := Lib.hid h0.symm
                have hne : xw = 0 ∧ x0 = true ∨ 0 < xw ∧ x0 = false := by
                  by_cases hz : xw = 0
                  · left; refine ⟨hz, ?_⟩; rw [h0, hz]; rfl
                  · right; refine ⟨by omega, ?_⟩; rw [h0, beq_eq_false_iff_ne]; omega
                have hcm2 : (max mx (xw + p) : Nat) = cM c j (cellsSeg LL (a + 1) (k + 1)) := by rw [HS.out, cM_snoc, HGD.out, HXW.out, ← HMX.out, HCM.out.2]; rfl
                have HCM2 := Lib.hid hcm2
                have hcd2 : (E && (x0 && x11)) = cD j (cellsSeg LL (a + 1) (k + 1)) := by
                  rw [HS.out, cD_snoc, HGD.out, HXW.out, ← HE.out, H0.out, H11.out]
                  congr 2
                have HCD2 := Lib.hid hcd2
                clear hrt hmem hl3 hl4 hce hlk hx h11 h0 hgd hhas2 hcm2 hcd2 hxw e3 tt hw hne
                have hz0 := HZ0.out
                cases E
                · go_wp2_with fail
                  go_roundw
                  case rel =>
                    refine ⟨k + 1, by omega, by omega, by go_num, ?_, ?_, T.out.trans (Tch.alloc _ _ _)⟩
                    · rw [← HCM2.out]; rw [cast_max]
                    · rw [← HCD2.out]; rfl
                  case measure => simp [intOf]; omega
                · cases x0
                  · go_wp2_with fail
                    go_roundw
                    case rel =>
                      refine ⟨k + 1, by omega, by omega, by go_num, ?_, ?_, T.out.trans (Tch.alloc _ _ _)⟩
                      · rw [← HCM2.out]; rw [cast_max]
                      · rw [← HCD2.out]; rfl
                    case measure => simp [intOf]; omega
                  · cases x11
                    · go_wp2_with fail
                      go_roundw
                      case rel =>
                        refine ⟨k + 1, by omega, by omega, by go_num, ?_, ?_, T.out.trans (Tch.alloc _ _ _)⟩
                        · rw [← HCM2.out]; rw [cast_max]
                        · rw [← HCD2.out]; rfl
                      case measure => simp [intOf]; omega
                    · go_wp2_with fail
                      go_roundw
                      case rel =>
                        refine ⟨k + 1, by omega, by omega, by go_num, ?_, ?_, T.out.trans (Tch.alloc _ _ _)⟩
                        · rw [← HCM2.out]; rw [cast_max]
                        · rw [← HCD2.out]; rfl
                      case measure => simp [intOf]; omega
              · obtain rfl : k = b + 1 := by omega
                clear tt
                cases E
                · go_wp2_with fail
                  refine bodyPost_ret (v := .tuple #[.int .i64 mx, .bool false]) (by simp [results, Tryd.results30, go_sem]) rfl ?_
                  refine ⟨false, ?_, HEND.out _ T.out⟩
                  rw [HWD.out]; unfold cW
                  rw [← HE.out, if_neg (by simp), ← HMX.out]
                · have hh8 := HHAS.out wr
                  obtain ⟨f8, hf8⟩ : ∃ f8, f8 = c.flag 8 := ⟨_, rfl⟩
                  rw [← hf8] at hh8
                  have HF8 := Lib.hid hf8
                  have HH8 := Lib.hid hh8
                  clear hf8 hh8
                  go_wp2_with fail
                  refine HH8.out.mono ?_
                  rintro e w5 ⟨rfl, hb5⟩
                  have HB5 := Lib.hid ((HEND.out _ T.out).trans (hb5.mono (HEND.out _ T.out).size))
                  clear hb5 HH8
                  cases f8
                  · go_wp2_with fail
                    refine bodyPost_ret (v := .tuple #[.int .i64 mx, .bool false]) (by simp [results, Tryd.results30, go_sem]) rfl ?_
                    refine ⟨false, ?_, HB5.out⟩
                    rw [HWD.out]; unfold cW
                    rw [← HF8.out, if_neg (by simp), ← HMX.out]
                  · go_wp2_with fail
                    refine bodyPost_ret (v := .tuple #[.int .i64 0, .bool true]) (by simp [results, Tryd.results30, go_sem]) rfl ?_
                    refine ⟨true, ?_, HB5.out⟩
                    rw [HWD.out]; unfold cW
                    rw [← HF8.out, ← HE.out, if_pos ⟨rfl, rfl⟩]; rfl
      · cases sh
        · go_wp2_with (first | (go_at_call 29; (with_reducible refine HCOL.out.mono ?_); rintro e w' ⟨rfl, rfl⟩) | (go_at_call 18; (with_reducible refine HSHU.out.mono ?_); rintro e w' ⟨rfl, rfl⟩))
          go_round
          case rel =>
            refine ⟨a, by omega, by go_num, fun k l hk h1 h2 => ?_⟩
            by_cases hka : k = a
            · subst hka
              rw [HLA.out] at hk; cases hk
              exact ⟨HHH.out.symm, HSH.out.symm⟩
            · exact HA.out k l hk (by omega) h2
          case measure => simp [intOf]
        · have HXA := Lib.hid (show a + 1 = 0 ∨ ∃ l, LL[a + 1 - 1]? = some l ∧ ((view l).has j && !(view l).shut) = false from .inr ⟨la, HLA.out, by rw [← HSH.out]; simp⟩)
          go_wp2_with (first | (go_at_call 29; (with_reducible refine HCOL.out.mono ?_); rintro e w' ⟨rfl, rfl⟩) | (go_at_call 18; (with_reducible refine HSHU.out.mono ?_); rintro e w' ⟨rfl, rfl⟩))
          go_loop [11] (fun t11 => W2Rel LL i j t11) (fun t11 => LL.length - (intOf t11).toNat)
          case atStart =>
            refine ⟨i, Nat.le_refl _, hil, rfl, fun k l hk h1 h2 => ?_, fun k l hk h1 h2 => by omega⟩
            obtain rfl : k = i := by omega
            rw [HI.out] at hk; cases hk; exact HJ.out
          case round =>
            obtain ⟨b, hb1, hb2, rfl, hb3, hb4⟩ := hrel
            have HB3 := Lib.hid hb3
            have HB4 := Lib.hid hb4
            clear hb3 hb4
            by_cases hb5 : b + 1 < LL.length
            · obtain ⟨ln, hln⟩ : ∃ ln, LL[b + 1]? = some ln := ⟨LL[b + 1], List.getElem?_eq_getElem hb5⟩
              obtain ⟨lt, hlt⟩ : ∃ lt, LL[b]? = some lt := ⟨LL[b], List.getElem?_eq_getElem hb2⟩
              obtain ⟨nv, hnv, hnce⟩ := HLZ.out.at hln
              obtain ⟨tv, htv, htce⟩ := HLZ.out.at hlt
              obtain ⟨an, cn, rfl, -⟩ := hnce.val
              obtain ⟨at', ct, rfl, -⟩ := htce.val
              have hm1 := List.mem_of_getElem? hln
              have hm2 := List.mem_of_getElem? hlt
              have hx1 := hfit.each ln hm1
              have hx2 := hfit.each lt hm2
              have HCOL := Lib.hid (column_calls _ hnce j (by omega) (by omega))
              have HSHU := Lib.hid (shut_calls _ htce (by omega) (hfit.ne lt hm2))
              have HLN := Lib.hid hln
              have HLT := Lib.hid hlt
              obtain ⟨hh, hhh⟩ : ∃ b, b = (view ln).has j := ⟨_, rfl⟩
              obtain ⟨sh, hsh⟩ : ∃ b, b = (view lt).shut := ⟨_, rfl⟩
              rw [← hhh] at HCOL
              rw [← hsh] at HSHU
              have HHH2 := Lib.hid hhh
              have HSH2 := Lib.hid hsh
              clear hnce htce hm1 hm2 hln hlt hhh hsh
              cases hh
              · have hkey := width_block (a := (a + 1)) (by omega) hb1 hb2 HA.out HB3.out HB4.out HXA.out (.inr (.inr ⟨ln, HLN.out, HHH2.out.symm⟩))
                have HAL := Lib.hid hkey.1
                have HWD := Lib.hid (hkey.2 c)
                clear hkey
                go_wp2_with (first | (go_at_call 29; (with_reducible refine HCOL.out.mono ?_); rintro e w' ⟨rfl, rfl⟩) | (go_at_call 18; (with_reducible refine HSHU.out.mono ?_); rintro e w' ⟨rfl, rfl⟩))
                go_loopw [12, 13, 14] (fun t12 t13 t14 wr => W3Rel (w.alloc (.cells #[.int .i64 m, .int .i64 t, .int .i64 p, .int .u8 ch.toNat, .int .i64 f] 23)) c LL j (a + 1) b t12 t13 t14 wr) (fun _ _ t14 _ => b + 1 - (intOf t14).toNat)
                case atStart =>
                  refine ⟨(a + 1), Nat.le_refl _, by omega, rfl, ?_, ?_, T0.out⟩
                  · rw [cellsSeg_nil]; show Value.int .i64 m = .int .i64 (c.mn : Nat); rw [HCM.out.1]
                  · rw [cellsSeg_nil]; rfl
                case round =>
                  obtain ⟨k, hk1, hk2, rfl, rfl, rfl, tt⟩ := hrel
                  have T := Lib.hid tt
                  have hcf2 := HCF.out _ tt
                  have hsz := lt_of_heap hcf2
                  have d2' : ∀ o, (wr.alloc o).cell? ⟨w.heap.size, 2, none⟩ = some (.int .i64 p) := fun o => by rw [World.cell?_alloc_past _ _ _ hsz]; exact cell_of_blk hcf2 2
                  obtain ⟨d0, d1, d2, d3, d4⟩ := conf_at hcf2
                  have hmle := HSM.out (a + 1) k
                  obtain ⟨mx, hmx⟩ : ∃ mx, mx = cM c j (cellsSeg LL (a + 1) k) := ⟨_, rfl⟩
                  obtain ⟨E, hE⟩ : ∃ E, E = cD j (cellsSeg LL (a + 1) k) := ⟨_, rfl⟩
                  rw [← hmx] at hmle
                  rw [← hmx, ← hE]
                  have HMX := Lib.hid hmx
                  have HE := Lib.hid hE
                  clear hmx hE hcf2
                  by_cases hlt : k ≤ b
                  · obtain ⟨lk, hlk⟩ : ∃ lk, LL[k]? = some lk := ⟨LL[k], List.getElem?_eq_getElem (by omega)⟩
                    obtain ⟨lv, hlv, hce⟩ := (HLW.out _ tt).at hlk
                    obtain ⟨al, cl, rfl, hl1, hl2, hl3, hl4⟩ := hce.val
                    have hhas2 : (view lk).has j = true := HAL.out k lk hlk hk1 hlt
                    have hjk : j + 1 < lk.length := by unfold Ln.has view at hhas2; simp at hhas2; omega
                    have hmem := List.mem_of_getElem? hlk
                    have hl1k := hfit.each lk hmem
                    have hw := hfit.wid lk hmem lk[j] (List.getElem_mem (by omega))
                    obtain ⟨ad2, tv, rfl, c0, c1, c2, hrt⟩ := hl4 j (by omega)
                    obtain ⟨ta, tc, rfl, -⟩ := hrt.val
                    have hsp2 := hl3 ad2 rfl
                    obtain ⟨k2, o2, sp2⟩ := ad2
                    simp only at hsp2 c0 c1 c2
                    subst hsp2
                    have hgd : lk.dropLast.getD j default = lk[j] := (getD_in hjk).1
                    have HS := Lib.hid (cellsSeg_snoc hlk hk1)
                    have HGD := Lib.hid hgd
                    obtain ⟨x, hx⟩ : ∃ x, x = lk[j]'(by omega) := ⟨_, rfl⟩
                    rw [← hx] at c1 c2 hw HGD
                    have e3 : o2 + 3 * j = o2 + j * 3 := by omega
                    rw [e3] at c0 c1 c2
                    obtain ⟨xw, hxw⟩ : ∃ xw : Nat, x.width = xw := ⟨x.width.toNat, by omega⟩
                    have HXW := Lib.hid hxw
                    rw [hxw] at c1 hw
                    have hw2 : xw ≤ 1000000 := by omega
                    obtain ⟨x11, h11⟩ : ∃ b, b = decide (x.fin = 11) := ⟨_, rfl⟩
                    have e11 := u8_eq (b := x.fin) (c := 11) (n := 11) rfl
                    rw [← h11] at e11
                    have H11 := Lib.hid h11
                    obtain ⟨x0, h0⟩ : ∃ b, b = ((xw : Int) == 0) := ⟨_, rfl⟩
                    have H0 := Lib.hid h0
                    have HZ0 := Lib.hid h0.symm
                    have hne : xw = 0 ∧ x0 = true ∨ 0 < xw ∧ x0 = false := by
                      by_cases hz : xw = 0
                      · left; refine ⟨hz, ?_⟩; rw [h0, hz]; rfl
                      · right; refine ⟨by omega, ?_⟩; rw [h0, beq_eq_false_iff_ne]; omega
                    have hcm2 : (max mx (xw + p) : Nat) = cM c j (cellsSeg LL (a + 1) (k + 1)) := by rw [HS.out, cM_snoc, HGD.out, HXW.out, ← HMX.out, HCM.out.2]; rfl
                    have HCM2 := Lib.hid hcm2
                    have hcd2 : (E && (x0 && x11)) = cD j (cellsSeg LL (a + 1) (k + 1)) := by
                      rw [HS.out, cD_snoc, HGD.out, HXW.out, ← HE.out, H0.out, H11.out]
                      congr 2
                    have HCD2 := Lib.hid hcd2
                    clear hrt hmem hl3 hl4 hce hlk hx h11 h0 hgd hhas2 hcm2 hcd2 hxw e3 tt hw hne
                    have hz0 := HZ0.out
                    cases E
                    · go_wp2_with fail
                      go_roundw
                      case rel =>
                        refine ⟨k + 1, by omega, by omega, by go_num, ?_, ?_, T.out.trans (Tch.alloc _ _ _)⟩
                        · rw [← HCM2.out]; rw [cast_max]
                        · rw [← HCD2.out]; rfl
                      case measure => simp [intOf]; omega
                    · cases x0
                      · go_wp2_with fail
                        go_roundw
                        case rel =>
                          refine ⟨k + 1, by omega, by omega, by go_num, ?_, ?_, T.out.trans (Tch.alloc _ _ _)⟩
                          · rw [← HCM2.out]; rw [cast_max]
                          · rw [← HCD2.out]; rfl
                        case measure => simp [intOf]; omega
                      · cases x11
                        · go_wp2_with fail
                          go_roundw
                          case rel =>
                            refine ⟨k + 1, by omega, by omega, by go_num, ?_, ?_, T.out.trans (Tch.alloc _ _ _)⟩
                            · rw [← HCM2.out]; rw [cast_max]
                            · rw [← HCD2.out]; rfl
                          case measure => simp [intOf]; omega
                        · go_wp2_with fail
                          go_roundw
                          case rel =>
                            refine ⟨k + 1, by omega, by omega, by go_num, ?_, ?_, T.out.trans (Tch.alloc _ _ _)⟩
                            · rw [← HCM2.out]; rw [cast_max]
                            · rw [← HCD2.out]; rfl
                          case measure => simp [intOf]; omega
                  · obtain rfl : k = b + 1 := by omega
                    clear tt
                    cases E
                    · go_wp2_with fail
                      refine bodyPost_ret (v := .tuple #[.int .i64 mx, .bool false]) (by simp [results, Tryd.results30, go_sem]) rfl ?_
                      refine ⟨false, ?_, HEND.out _ T.out⟩
                      rw [HWD.out]; unfold cW
                      rw [← HE.out, if_neg (by simp), ← HMX.out]
                    · have hh8 := HHAS.out wr
                      obtain ⟨f8, hf8⟩ : ∃ f8, f8 = c.flag 8 := ⟨_, rfl⟩
                      rw [← hf8] at hh8
                      have HF8 := Lib.hid hf8
                      have HH8 := Lib.hid hh8
                      clear hf8 hh8
                      go_wp2_with fail
                      refine HH8.out.mono ?_
                      rintro e w5 ⟨rfl, hb5⟩
                      have HB5 := Lib.hid ((HEND.out _ T.out).trans (hb5.mono (HEND.out _ T.out).size))
                      clear hb5 HH8
                      cases f8
                      · go_wp2_with fail
                        refine bodyPost_ret (v := .tuple #[.int .i64 mx, .bool false]) (by simp [results, Tryd.results30, go_sem]) rfl ?_
                        refine ⟨false, ?_, HB5.out⟩
                        rw [HWD.out]; unfold cW
                        rw [← HF8.out, if_neg (by simp), ← HMX.out]
                      · go_wp2_with fail
                        refine bodyPost_ret (v := .tuple #[.int .i64 0, .bool true]) (by simp [results, Tryd.results30, go_sem]) rfl ?_
                        refine ⟨true, ?_, HB5.out⟩
                        rw [HWD.out]; unfold cW
                        rw [← HF8.out, ← HE.out, if_pos ⟨rfl, rfl⟩]; rfl
              · cases sh
                · go_wp2_with (first | (go_at_call 29; (with_reducible refine HCOL.out.mono ?_); rintro e w' ⟨rfl, rfl⟩) | (go_at_call 18; (with_reducible refine HSHU.out.mono ?_); rintro e w' ⟨rfl, rfl⟩))
                  go_round
                  case rel =>
                    refine ⟨b + 1, by omega, hb5, by go_num, fun k l hk h1 h2 => ?_, fun k l hk h1 h2 => ?_⟩
                    · by_cases hkb : k = b + 1
                      · subst hkb
                        rw [HLN.out] at hk; cases hk; exact HHH2.out.symm
                      · exact HB3.out k l hk h1 (by omega)
                    · by_cases hkb : k = b
                      · subst hkb
                        rw [HLT.out] at hk; cases hk; exact HSH2.out.symm
                      · exact HB4.out k l hk h1 (by omega)
                  case measure => simp [intOf]; omega
                · have hkey := width_block (a := (a + 1)) (by omega) hb1 hb2 HA.out HB3.out HB4.out HXA.out (.inl ⟨lt, HLT.out, HSH2.out.symm⟩)
                  have HAL := Lib.hid hkey.1
                  have HWD := Lib.hid (hkey.2 c)
                  clear hkey
                  go_wp2_with (first | (go_at_call 29; (with_reducible refine HCOL.out.mono ?_); rintro e w' ⟨rfl, rfl⟩) | (go_at_call 18; (with_reducible refine HSHU.out.mono ?_); rintro e w' ⟨rfl, rfl⟩))
                  go_loopw [12, 13, 14] (fun t12 t13 t14 wr => W3Rel (w.alloc (.cells #[.int .i64 m, .int .i64 t, .int .i64 p, .int .u8 ch.toNat, .int .i64 f] 23)) c LL j (a + 1) b t12 t13 t14 wr) (fun _ _ t14 _ => b + 1 - (intOf t14).toNat)
                  case atStart =>
                    refine ⟨(a + 1), Nat.le_refl _, by omega, rfl, ?_, ?_, T0.out⟩
                    · rw [cellsSeg_nil]; show Value.int .i64 m = .int .i64 (c.mn : Nat); rw [HCM.out.1]
                    · rw [cellsSeg_nil]; rfl
                  case round =>
                    obtain ⟨k, hk1, hk2, rfl, rfl, rfl, tt⟩ := hrel
                    have T := Lib.hid tt
                    have hcf2 := HCF.out _ tt
                    have hsz := lt_of_heap hcf2
                    have d2' : ∀ o, (wr.alloc o).cell? ⟨w.heap.size, 2, none⟩ = some (.int .i64 p) := fun o => by rw [World.cell?_alloc_past _ _ _ hsz]; exact cell_of_blk hcf2 2
                    obtain ⟨d0, d1, d2, d3, d4⟩ := conf_at hcf2
                    have hmle := HSM.out (a + 1) k
                    obtain ⟨mx, hmx⟩ : ∃ mx, mx = cM c j (cellsSeg LL (a + 1) k) := ⟨_, rfl⟩
                    obtain ⟨E, hE⟩ : ∃ E, E = cD j (cellsSeg LL (a + 1) k) := ⟨_, rfl⟩
                    rw [← hmx] at hmle
                    rw [← hmx, ← hE]
                    have HMX := Lib.hid hmx
                    have HE := Lib.hid hE
                    clear hmx hE hcf2
                    by_cases hlt : k ≤ b
                    · obtain ⟨lk, hlk⟩ : ∃ lk, LL[k]? = some lk := ⟨LL[k], List.getElem?_eq_getElem (by omega)⟩
                      obtain ⟨lv, hlv, hce⟩ := (HLW.out _ tt).at hlk
                      obtain ⟨al, cl, rfl, hl1, hl2, hl3, hl4⟩ := hce.val
                      have hhas2 : (view lk).has j = true := HAL.out k lk hlk hk1 hlt
                      have hjk : j + 1 < lk.length := by unfold Ln.has view at hhas2; simp at hhas2; omega
                      have hmem := List.mem_of_getElem? hlk
                      have hl1k := hfit.each lk hmem
                      have hw := hfit.wid lk hmem lk[j] (List.getElem_mem (by omega))
                      obtain ⟨ad2, tv, rfl, c0, c1, c2, hrt⟩ := hl4 j (by omega)
                      obtain ⟨ta, tc, rfl, -⟩ := hrt.val
                      have hsp2 := hl3 ad2 rfl
                      obtain ⟨k2, o2, sp2⟩ := ad2
                      simp only at hsp2 c0 c1 c2
                      subst hsp2
                      have hgd : lk.dropLast.getD j default = lk[j] := (getD_in hjk).1
                      have HS := Lib.hid (cellsSeg_snoc hlk hk1)
                      have HGD := Lib.hid hgd
                      obtain ⟨x, hx⟩ : ∃ x, x = lk[j]'(by omega) := ⟨_, rfl⟩
                      rw [← hx] at c1 c2 hw HGD
                      have e3 : o2 + 3 * j = o2 + j * 3 := by omega
                      rw [e3] at c0 c1 c2
                      obtain ⟨xw, hxw⟩ : ∃ xw : Nat, x.width = xw := ⟨x.width.toNat, by omega⟩
                      have HXW := Lib.hid hxw
                      rw [hxw] at c1 hw
                      have hw2 : xw ≤ 1000000 := by omega
                      obtain ⟨x11, h11⟩ : ∃ b, b = decide (x.fin = 11) := ⟨_, rfl⟩
                      have e11 := u8_eq (b := x.fin) (c := 11) (n := 11) rfl
                      rw [← h11] at e11
                      have H11 := Lib.hid h11
                      obtain ⟨x0, h0⟩ : ∃ b, b = ((xw : Int) == 0) := ⟨_, rfl⟩
                      have H0 := Lib.hid h0
                      have HZ0 := Lib.hid h0.symm
                      have hne : xw = 0 ∧ x0 = true ∨ 0 < xw ∧ x0 = false := by
                        by_cases hz : xw = 0
                        · left; refine ⟨hz, ?_⟩; rw [h0, hz]; rfl
                        · right; refine ⟨by omega, ?_⟩; rw [h0, beq_eq_false_iff_ne]; omega
                      have hcm2 : (max mx (xw + p) : Nat) = cM c j (cellsSeg LL (a + 1) (k + 1)) := by rw [HS.out, cM_snoc, HGD.out, HXW.out, ← HMX.out, HCM.out.2]; rfl
                      have HCM2 := Lib.hid hcm2
                      have hcd2 : (E && (x0 && x11)) = cD j (cellsSeg LL (a + 1) (k + 1)) := by
                        rw [HS.out, cD_snoc, HGD.out, HXW.out, ← HE.out, H0.out, H11.out]
                        congr 2
                      have HCD2 := Lib.hid hcd2
                      clear hrt hmem hl3 hl4 hce hlk hx h11 h0 hgd hhas2 hcm2 hcd2 hxw e3 tt hw hne
                      have hz0 := HZ0.out
                      cases E
                      · go_wp2_with fail
                        go_roundw
                        case rel =>
                          refine ⟨k + 1, by omega, by omega, by go_num, ?_, ?_, T.out.trans (Tch.alloc _ _ _)⟩
                          · rw [← HCM2.out]; rw [cast_max]
                          · rw [← HCD2.out]; rfl
                        case measure => simp [intOf]; omega
                      · cases x0
                        · go_wp2_with fail
                          go_roundw
                          case rel =>
                            refine ⟨k + 1, by omega, by omega, by go_num, ?_, ?_, T.out.trans (Tch.alloc _ _ _)⟩
                            · rw [← HCM2.out]; rw [cast_max]
                            · rw [← HCD2.out]; rfl
                          case measure => simp [intOf]; omega
                        · cases x11
                          · go_wp2_with fail
                            go_roundw
                            case rel =>
                              refine ⟨k + 1, by omega, by omega, by go_num, ?_, ?_, T.out.trans (Tch.alloc _ _ _)⟩
                              · rw [← HCM2.out]; rw [cast_max]
                              · rw [← HCD2.out]; rfl
                            case measure => simp [intOf]; omega
                          · go_wp2_with fail
                            go_roundw
                            case rel =>
                              refine ⟨k + 1, by omega, by omega, by go_num, ?_, ?_, T.out.trans (Tch.alloc _ _ _)⟩
                              · rw [← HCM2.out]; rw [cast_max]
                              · rw [← HCD2.out]; rfl
                            case measure => simp [intOf]; omega
                    · obtain rfl : k = b + 1 := by omega
                      clear tt
                      cases E
                      · go_wp2_with fail
                        refine bodyPost_ret (v := .tuple #[.int .i64 mx, .bool false]) (by simp [results, Tryd.results30, go_sem]) rfl ?_
                        refine ⟨false, ?_, HEND.out _ T.out⟩
                        rw [HWD.out]; unfold cW
                        rw [← HE.out, if_neg (by simp), ← HMX.out]
                      · have hh8 := HHAS.out wr
                        obtain ⟨f8, hf8⟩ : ∃ f8, f8 = c.flag 8 := ⟨_, rfl⟩
                        rw [← hf8] at hh8
                        have HF8 := Lib.hid hf8
                        have HH8 := Lib.hid hh8
                        clear hf8 hh8
                        go_wp2_with fail
                        refine HH8.out.mono ?_
                        rintro e w5 ⟨rfl, hb5⟩
                        have HB5 := Lib.hid ((HEND.out _ T.out).trans (hb5.mono (HEND.out _ T.out).size))
                        clear hb5 HH8
                        cases f8
                        · go_wp2_with fail
                          refine bodyPost_ret (v := .tuple #[.int .i64 mx, .bool false]) (by simp [results, Tryd.results30, go_sem]) rfl ?_
                          refine ⟨false, ?_, HB5.out⟩
                          rw [HWD.out]; unfold cW
                          rw [← HF8.out, if_neg (by simp), ← HMX.out]
                        · go_wp2_with fail
                          refine bodyPost_ret (v := .tuple #[.int .i64 0, .bool true]) (by simp [results, Tryd.results30, go_sem]) rfl ?_
                          refine ⟨true, ?_, HB5.out⟩
                          rw [HWD.out]; unfold cW
                          rw [← HF8.out, ← HE.out, if_pos ⟨rfl, rfl⟩]; rfl
            · have hkey := width_block (a := (a + 1)) (by omega) hb1 hb2 HA.out HB3.out HB4.out HXA.out (.inr (.inl (by omega)))
              have HAL := Lib.hid hkey.1
              have HWD := Lib.hid (hkey.2 c)
              clear hkey
              go_wp2_with fail
              go_loopw [12, 13, 14] (fun t12 t13 t14 wr => W3Rel (w.alloc (.cells #[.int .i64 m, .int .i64 t, .int .i64 p, .int .u8 ch.toNat, .int .i64 f] 23)) c LL j (a + 1) b t12 t13 t14 wr) (fun _ _ t14 _ => b + 1 - (intOf t14).toNat)
              case atStart =>
                refine ⟨(a + 1), Nat.le_refl _, by omega, rfl, ?_, ?_, T0.out⟩
                · rw [cellsSeg_nil]; show Value.int .i64 m = .int .i64 (c.mn : Nat); rw [HCM.out.1]
                · rw [cellsSeg_nil]; rfl
              case round =>
                obtain ⟨k, hk1, hk2, rfl, rfl, rfl, tt⟩ := hrel
                have T := Lib.hid tt
                have hcf2 := HCF.out _ tt
                have hsz := lt_of_heap hcf2
                have d2' : ∀ o, (wr.alloc o).cell? ⟨w.heap.size, 2, none⟩ = some (.int .i64 p) := fun o => by rw [World.cell?_alloc_past _ _ _ hsz]; exact cell_of_blk hcf2 2
                obtain ⟨d0, d1, d2, d3, d4⟩ := conf_at hcf2
                have hmle := HSM.out (a + 1) k
                obtain ⟨mx, hmx⟩ : ∃ mx, mx = cM c j (cellsSeg LL (a + 1) k) := ⟨_, rfl⟩
                obtain ⟨E, hE⟩ : ∃ E, E = cD j (cellsSeg LL (a + 1) k) := ⟨_, rfl⟩
                rw [← hmx] at hmle
                rw [← hmx, ← hE]
                have HMX := Lib.hid hmx
                have HE := Lib.hid hE
                clear hmx hE hcf2
                by_cases hlt : k ≤ b
                · obtain ⟨lk, hlk⟩ : ∃ lk, LL[k]? = some lk := ⟨LL[k], List.getElem?_eq_getElem (by omega)⟩
                  obtain ⟨lv, hlv, hce⟩ := (HLW.out _ tt).at hlk
                  obtain ⟨al, cl, rfl, hl1, hl2, hl3, hl4⟩ := hce.val
                  have hhas2 : (view lk).has j = true := HAL.out k lk hlk hk1 hlt
                  have hjk : j + 1 < lk.length := by unfold Ln.has view at hhas2; simp at hhas2; omega
                  have hmem := List.mem_of_getElem? hlk
                  have hl1k := hfit.each lk hmem
                  have hw := hfit.wid lk hmem lk[j] (List.getElem_mem (by omega))
                  obtain ⟨ad2, tv, rfl, c0, c1, c2, hrt⟩ := hl4 j (by omega)
                  obtain ⟨ta, tc, rfl, -⟩ := hrt.val
                  have hsp2 := hl3 ad2 rfl
                  obtain ⟨k2, o2, sp2⟩ := ad2
                  simp only at hsp2 c0 c1 c2
                  subst hsp2
                  have hgd : lk.dropLast.getD j default = lk[j] := (getD_in hjk).1
                  have HS := Lib.hid (cellsSeg_snoc hlk hk1)
                  have HGD := Lib.hid hgd
                  obtain ⟨x, hx⟩ : ∃ x, x = lk[j]'(by omega) := ⟨_, rfl⟩
                  rw [← hx] at c1 c2 hw HGD
                  have e3 : o2 + 3 * j = o2 + j * 3 := by omega
                  rw [e3] at c0 c1 c2
                  obtain ⟨xw, hxw⟩ : ∃ xw : Nat, x.width = xw := ⟨x.width.toNat, by omega⟩
                  have HXW := Lib.hid hxw
                  rw [hxw] at c1 hw
                  have hw2 : xw ≤ 1000000 := by omega
                  obtain ⟨x11, h11⟩ : ∃ b, b = decide (x.fin = 11) := ⟨_, rfl⟩
                  have e11 := u8_eq (b := x.fin) (c := 11) (n := 11) rfl
                  rw [← h11] at e11
                  have H11 := Lib.hid h11
                  obtain ⟨x0, h0⟩ : ∃ b, b = ((xw : Int) == 0) := ⟨_, rfl⟩
                  have H0 := Lib.hid h0
                  have HZ0 := Lib.hid h0.symm
                  have hne : xw = 0 ∧ x0 = true ∨ 0 < xw ∧ x0 = false := by
                    by_cases hz : xw = 0
                    · left; refine ⟨hz, ?_⟩; rw [h0, hz]; rfl
                    · right; refine ⟨by omega, ?_⟩; rw [h0, beq_eq_false_iff_ne]; omega
                  have hcm2 : (max mx (xw + p) : Nat) = cM c j (cellsSeg LL (a + 1) (k + 1)) := by rw [HS.out, cM_snoc, HGD.out, HXW.out, ← HMX.out, HCM.out.2]; rfl
                  have HCM2 := Lib.hid hcm2
                  have hcd2 : (E && (x0 && x11)) = cD j (cellsSeg LL (a + 1) (k + 1)) := by
                    rw [HS.out, cD_snoc, HGD.out, HXW.out, ← HE.out, H0.out, H11.out]
                    congr 2
                  have HCD2 := Lib.hid hcd2
                  clear hrt hmem hl3 hl4 hce hlk hx h11 h0 hgd hhas2 hcm2 hcd2 hxw e3 tt hw hne
                  have hz0 := HZ0.out
                  cases E
                  · go_wp2_with fail
                    go_roundw
                    case rel =>
                      refine ⟨k + 1, by omega, by omega, by go_num, ?_, ?_, T.out.trans (Tch.alloc _ _ _)⟩
                      · rw [← HCM2.out]; rw [cast_max]
                      · rw [← HCD2.out]; rfl
                    case measure => simp [intOf]; omega
                  · cases x0
                    · go_wp2_with fail
                      go_roundw
                      case rel =>
                        refine ⟨k + 1, by omega, by omega, by go_num, ?_, ?_, T.out.trans (Tch.alloc _ _ _)⟩
                        · rw [← HCM2.out]; rw [cast_max]
                        · rw [← HCD2.out]; rfl
                      case measure => simp [intOf]; omega
                    · cases x11
                      · go_wp2_with fail
                        go_roundw
                        case rel =>
                          refine ⟨k + 1, by omega, by omega, by go_num, ?_, ?_, T.out.trans (Tch.alloc _ _ _)⟩
                          · rw [← HCM2.out]; rw [cast_max]
                          · rw [← HCD2.out]; rfl
                        case measure => simp [intOf]; omega
                      · go_wp2_with fail
                        go_roundw
                        case rel =>
                          refine ⟨k + 1, by omega, by omega, by go_num, ?_, ?_, T.out.trans (Tch.alloc _ _ _)⟩
                          · rw [← HCM2.out]; rw [cast_max]
                          · rw [← HCD2.out]; rfl
                        case measure => simp [intOf]; omega
                · obtain rfl : k = b + 1 := by omega
                  clear tt
                  cases E
                  · go_wp2_with fail
                    refine bodyPost_ret (v := .tuple #[.int .i64 mx, .bool false]) (by simp [results, Tryd.results30, go_sem]) rfl ?_
                    refine ⟨false, ?_, HEND.out _ T.out⟩
                    rw [HWD.out]; unfold cW
                    rw [← HE.out, if_neg (by simp), ← HMX.out]
                  · have hh8 := HHAS.out wr
                    obtain ⟨f8, hf8⟩ : ∃ f8, f8 = c.flag 8 := ⟨_, rfl⟩
                    rw [← hf8] at hh8
                    have HF8 := Lib.hid hf8
                    have HH8 := Lib.hid hh8
                    clear hf8 hh8
                    go_wp2_with fail
                    refine HH8.out.mono ?_
                    rintro e w5 ⟨rfl, hb5⟩
                    have HB5 := Lib.hid ((HEND.out _ T.out).trans (hb5.mono (HEND.out _ T.out).size))
                    clear hb5 HH8
                    cases f8
                    · go_wp2_with fail
                      refine bodyPost_ret (v := .tuple #[.int .i64 mx, .bool false]) (by simp [results, Tryd.results30, go_sem]) rfl ?_
                      refine ⟨false, ?_, HB5.out⟩
                      rw [HWD.out]; unfold cW
                      rw [← HF8.out, if_neg (by simp), ← HMX.out]
                    · go_wp2_with fail
                      refine bodyPost_ret (v := .tuple #[.int .i64 0, .bool true]) (by simp [results, Tryd.results30, go_sem]) rfl ?_
                      refine ⟨true, ?_, HB5.out⟩
                      rw [HWD.out]; unfold cW
                      rw [← HF8.out, ← HE.out, if_pos ⟨rfl, rfl⟩]; rfl
end Go.Proofs.YteildpeogbenbaaDoor
