/- Walks: spec.Count, Tame, hollow, Whole. -/
import Derived.Test.YteildpeogbenbaaDoorVb
import Derived.Test.YteildpeogbenbaaDoorQd
namespace Go.Proofs.YteildpeogbenbaaDoor
open Go.RowKit Go.Tw Go.Sort
set_option maxRecDepth 100000

def cnt (b : UInt8) (s : List UInt8) : Nat := (s.filter (· == b)).length
theorem cnt_le (b : UInt8) (s : List UInt8) : cnt b s ≤ s.length := List.length_filter_le _ _

theorem count_calls (w : World) {v : Value} {s : List UInt8} (h : Rd w v s) (b : UInt8) (_ : s.length ≤ 1000000000000) : Calls Tryd.prog 28 #[v, .int .u8 b.toNat] w fun e w' => e = .returned (.int .i64 (cnt b s : Nat)) ∧ w = w' := by
  obtain ⟨ao, cp, rfl, h1, h2, h3, h4, h5⟩ := h.val
  unfold maxLen at h2
  have H4 := Lib.hid h4
  have H5 := Lib.hid h5
  clear h h3 h4 h5
  go_enter Tryd.func28, Tryd.ntmps28
  go_wp2_with fail
  go_loopw [5, 10] (fun t5 t10 wr => ∃ i : Nat, i ≤ s.length ∧ t10 = .int .i64 i ∧ t5 = .int .i64 (cnt b (s.take i) : Nat) ∧ wr = w) (fun _ t10 _ => s.length - (intOf t10).toNat)
  case atStart => exact ⟨0, Nat.zero_le _, rfl, rfl, rfl⟩
  case round =>
    obtain ⟨i, hi, rfl, rfl, rfl⟩ := hrel
    by_cases hlt : i < s.length
    · obtain ⟨ad, rfl, hc⟩ := H5.out i hlt
      have hsp := H4.out ad rfl
      obtain ⟨k0, o0, sp0⟩ := ad
      simp only at hsp hc
      subst hsp
      have hc2 : wr.cell? ⟨k0, o0 + i, none⟩ = some (.int .u8 s[i].toNat) := hc
      have hts : s.take (i + 1) = s.take i ++ [s[i]] := List.take_succ_eq_append_getElem hlt
      have hcl := cnt_le b (s.take i)
      have htl : (s.take i).length = i := by simp; omega
      generalize s[i] = x at hc2 hts
      clear hc
      have HTS := Lib.hid hts
      clear hts
      obtain ⟨z, hz⟩ : ∃ z, z = cnt b (s.take i) := ⟨_, rfl⟩
      have HZ := Lib.hid hz
      rw [← hz] at hcl ⊢
      clear hz
      by_cases hx : x = b
      · have hx1 : ((x.toNat : Int) == (b.toNat : Int)) = true := by rw [hx]; simp
        have HX := Lib.hid hx
        clear hx
        go_wp2_with fail
        go_roundw
        case rel => exact ⟨i + 1, by omega, by go_num, by rw [HTS.out]; unfold cnt; rw [List.filter_append, List.length_append]; have := HZ.out; unfold cnt at this; rw [← this, HX.out]; simp, by first | trivial | rfl⟩
        case measure => simp [intOf]; omega
      · have hx1 : ((x.toNat : Int) == (b.toNat : Int)) = false := by rw [beq_eq_false_iff_ne]; intro h; exact hx (UInt8.toNat_inj.1 (by omega))
        have HX := Lib.hid hx
        clear hx
        go_wp2_with fail
        go_roundw
        case rel => exact ⟨i + 1, by omega, by go_num, by rw [HTS.out]; unfold cnt; rw [List.filter_append, List.length_append]; have := HZ.out; unfold cnt at this; rw [← this]; simp [HX.out], by first | trivial | rfl⟩
        case measure => simp [intOf]; omega
    · obtain rfl : i = s.length := by omega
      rw [List.take_length]
      go_wp2_with fail
      go_ret
      exact ⟨rfl, rfl⟩

/-- No escapes, tags and entities. -/
def tame (s : List UInt8) : Bool := s.all fun b => b != 255 && b != 60 && b != 38
set_option maxHeartbeats 4000000 in
theorem hollow_calls (w : World) (m t p f : Nat) (hf : f < 64) (ch : UInt8) {v : Value} {s : List UInt8} (h : Rd w v s) (hl : s.length ≤ 1000000) :
    Calls Tryd.prog 15 #[.agg #[.int .i64 m, .int .i64 t, .int .i64 p, .int .u8 ch.toNat, .int .i64 f], v] w (VPost w) := by
  obtain ⟨w1, hw1⟩ : ∃ w1, w1 = w.alloc (.cells #[.int .i64 m, .int .i64 t, .int .i64 p, .int .u8 ch.toNat, .int .i64 f] 23) := ⟨_, rfl⟩
  have hb0 : Below w.heap.size w w1 := hw1 ▸ (Below.refl _ w).alloc (Nat.le_refl _) _
  have hc0 : w1.heap[w.heap.size]? = some (.cells #[.int .i64 m, .int .i64 t, .int .i64 p, .int .u8 ch.toNat, .int .i64 f] 23 (0, 0)) := hw1 ▸ heap_alloc_new w _
  have hCE := cells_calls w1 m t p f hf ch (h.below hb0) hl
  obtain ⟨l, hl0⟩ : ∃ l, l = cellsGo (cfgOf m t p f ch) ⟨[], 0, 0⟩ [] s := ⟨_, rfl⟩
  have hll : l.length ≤ 1000001 := by rw [hl0]; have := cellsGo_len (cfgOf m t p f ch) s.length s ⟨[], 0, 0⟩ [] (Nat.le_refl _); omega
  rw [← hl0] at hCE
  obtain ⟨d0, d1, d2, d3, d4⟩ := conf_at hc0
  have HCE := Lib.hid hCE
  have HB0 := Lib.hid hb0
  rw [hw1] at d0 d1 d2 d3 d4 HCE HB0
  obtain ⟨ao, cp, rfl, -⟩ := h.val
  clear hb0 hc0 hCE hl0 hw1 h
  go_enter Tryd.func15, Tryd.ntmps15
  go_wp2_with fail
  refine HCE.out.mono ?_
  rintro e w2 ⟨v2, rfl, hcl, hb2⟩
  obtain ⟨a2, cp2, rfl⟩ := hcl.shape
  have HCL := Lib.hid hcl
  have HB2 := Lib.hid (HB0.out.trans (hb2.mono HB0.out.size))
  clear hcl hb2 HCE HB0 d0 d1 d2 d3 d4
  go_wp2_with fail
  go_loopw [11] (fun t11 wr => ∃ j : Nat, j ≤ l.length ∧ t11 = .int .i64 j ∧ Tch (New w2) w2 wr) (fun t11 _ => l.length - (intOf t11).toNat)
  case atStart => exact ⟨0, Nat.zero_le _, rfl, Tch.refl _ _⟩
  case round =>
    obtain ⟨j, hj, rfl, tt⟩ := hrel
    by_cases hlt : j < l.length
    · obtain ⟨g, tv, rfl, c0, c1, c2, htx⟩ := HCL.out.at hlt
      obtain ⟨ta, tn, tc, rfl⟩ := (show ∃ ta tn tc, tv = .slice ta tn tc from by obtain ⟨a, c, e, _⟩ := htx.rd.val; exact ⟨a, _, c, e⟩)
      generalize l[j] = x at c1 c2 htx
      clear htx
      have k0 : wr.cell? ⟨g, j * 3, none⟩ = some (.slice ta tn tc) := tt.cell c0 (by have := block_lt_of_cell c0; unfold New; simpa using this)
      have k1 : wr.cell? ⟨g, j * 3 + 1, none⟩ = some (.int .i64 x.width) := tt.cell c1 (by have := block_lt_of_cell c1; unfold New; simpa using this)
      have k2 : wr.cell? ⟨g, j * 3 + 2, none⟩ = some (.int .u8 x.fin.toNat) := tt.cell c2 (by have := block_lt_of_cell c2; unfold New; simpa using this)
      have T := Lib.hid (tt.trans (Tch.alloc (New w2) wr (.cells #[.slice ta tn tc, .int .i64 x.width, .int .u8 x.fin.toNat] 55)))
      clear c0 c1 c2 tt
      by_cases hw : x.width = 0
      · have hwb : (x.width == 0) = true := by simp [hw]
        clear hw
        by_cases ht : 0 < tn
        · have htz : (0 : Int) < (tn : Int) := by omega
          go_wp2_with fail
          go_ret
          exact ⟨⟨_, rfl⟩, HB2.out.trans ((New.below T.out).mono HB2.out.size)⟩
        · have htz : ¬ ((0 : Int) < (tn : Int)) := by omega
          go_wp2_with fail
          go_roundw
          case rel => exact ⟨j + 1, by omega, by go_num, T.out⟩
          case measure => simp [intOf]; omega
      · have hwb : (x.width == 0) = false := by simp [hw]
        clear hw
        go_wp2_with fail
        go_roundw
        case rel => exact ⟨j + 1, by omega, by go_num, T.out⟩
        case measure => simp [intOf]; omega
    · obtain rfl : j = l.length := by omega
      have T := Lib.hid tt
      clear tt
      go_wp2_with fail
      go_ret
      exact ⟨⟨_, rfl⟩, HB2.out.trans ((New.below T.out).mono HB2.out.size)⟩
end Go.Proofs.YteildpeogbenbaaDoor
