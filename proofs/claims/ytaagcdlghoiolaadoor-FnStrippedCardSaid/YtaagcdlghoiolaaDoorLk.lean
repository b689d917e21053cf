/- The parts of XLs that need neither Split nor Shape (seat d). -/
import Derived.Test.YtaagcdlghoiolaaDoorVe
import Derived.Test.YtaagcdlghoiolaaDoorQe
import Derived.Test.YtaagcdlghoiolaaDoorPj
namespace Go.Proofs.YtaagcdlghoiolaaDoor
open Go.RowKit Go.Tw Go.Sort
set_option maxRecDepth 100000

theorem tame_Tm {s : List UInt8} (h : tame s = true) : Tm s := fun b hb => by
  have := List.all_eq_true.1 h b hb
  simp only [Bool.and_eq_true, bne_iff_ne, ne_eq] at this
  exact ⟨this.1.1, this.1.2, this.2⟩
def FdPost (w : World) (l : List SC) (e : Ending) (w' : World) : Prop := ∃ b : Bool, e = .returned (.bool b) ∧ Below w.heap.size w w' ∧ (b = false → ∀ z ∈ l, z.fin ≠ 12)
set_option maxHeartbeats 4000000 in
theorem feeds_calls (w : World) (m t p f : Nat) (hf : f < 64) (ch : UInt8) {v : Value} {s : List UInt8} (h : Rd w v s) (hl : s.length ≤ 1000000) :
    Calls Tryd.prog 21 #[.agg #[.int .i64 m, .int .i64 t, .int .i64 p, .int .u8 ch.toNat, .int .i64 f], v] w (FdPost w (cellsGo (cfgOf m t p f ch) ⟨[], 0, 0⟩ [] s)) := by
  obtain ⟨w1, hw1⟩ : ∃ w1, w1 = w.alloc (.cells #[.int .i64 m, .int .i64 t, .int .i64 p, .int .u8 ch.toNat, .int .i64 f] 23) := ⟨_, rfl⟩
  have hb0 : Below w.heap.size w w1 := hw1 ▸ (Below.refl _ w).alloc (Nat.le_refl _) _
  have hc0 : w1.heap[w.heap.size]? = some (.cells #[.int .i64 m, .int .i64 t, .int .i64 p, .int .u8 ch.toNat, .int .i64 f] 23 (0, 0)) := hw1 ▸ heap_alloc_new w _
  have hCE := cells_calls w1 m t p f hf ch (h.below hb0) hl
  obtain ⟨l, hl0⟩ : ∃ l, l = cellsGo (cfgOf m t p f ch) ⟨[], 0, 0⟩ [] s := ⟨_, rfl⟩
  have hll : l.length ≤ 1000001 := by rw [hl0]; have := cellsGo_len (cfgOf m t p f ch) s.length s ⟨[], 0, 0⟩ [] (Nat.le_refl _); omega
  rw [← hl0] at hCE ⊢
  obtain ⟨d0, d1, d2, d3, d4⟩ := conf_at hc0
  have HCE := Lib.hid hCE
  have HB0 := Lib.hid hb0
  rw [hw1] at d0 d1 d2 d3 d4 HCE HB0
  obtain ⟨ao, cp, rfl, -⟩ := h.val
  clear hb0 hc0 hCE hl0 hw1 h
  go_enter Tryd.func21, Tryd.ntmps21
  go_wp2_with fail
  refine HCE.out.mono ?_
  rintro e w2 ⟨v2, rfl, hcl, hb2⟩
  obtain ⟨a2, cp2, rfl⟩ := hcl.shape
  have HCL := Lib.hid hcl
  have HB2 := Lib.hid (HB0.out.trans (hb2.mono HB0.out.size))
  clear hcl hb2 HCE HB0 d0 d1 d2 d3 d4
  go_wp2_with fail
  go_loopw [11] (fun t11 wr => ∃ j : Nat, j ≤ l.length ∧ t11 = .int .i64 j ∧ (∀ z ∈ l.take j, z.fin ≠ 12) ∧ Tch (New w2) w2 wr) (fun t11 _ => l.length - (intOf t11).toNat)
  case atStart => exact ⟨0, Nat.zero_le _, rfl, fun z hz => by simp at hz, Tch.refl _ _⟩
  case round =>
    obtain ⟨j, hj, rfl, hno, tt⟩ := hrel
    have HNO := Lib.hid hno
    clear hno
    by_cases hlt : j < l.length
    · obtain ⟨g, tv, rfl, c0, c1, c2, htx⟩ := HCL.out.at hlt
      obtain ⟨ta, tn, tc, rfl⟩ := (show ∃ ta tn tc, tv = .slice ta tn tc from by obtain ⟨a, c, e, _⟩ := htx.rd.val; exact ⟨a, _, c, e⟩)
      have HTK := Lib.hid (show l.take (j + 1) = l.take j ++ [l[j]] from List.take_succ_eq_append_getElem hlt)
      generalize l[j] = x at c1 c2 htx HTK
      clear htx
      have k0 : wr.cell? ⟨g, j * 3, none⟩ = some (.slice ta tn tc) := tt.cell c0 (by have := block_lt_of_cell c0; unfold New; simpa using this)
      have k1 : wr.cell? ⟨g, j * 3 + 1, none⟩ = some (.int .i64 x.width) := tt.cell c1 (by have := block_lt_of_cell c1; unfold New; simpa using this)
      have k2 : wr.cell? ⟨g, j * 3 + 2, none⟩ = some (.int .u8 x.fin.toNat) := tt.cell c2 (by have := block_lt_of_cell c2; unfold New; simpa using this)
      have T := Lib.hid (tt.trans (Tch.alloc (New w2) wr (.cells #[.slice ta tn tc, .int .i64 x.width, .int .u8 x.fin.toNat] 67)))
      clear c0 c1 c2 tt
      have e12 := u8_eq (b := x.fin) (c := 12) (n := 12) rfl
      by_cases hx : x.fin = 12
      · rw [decide_eq_true hx] at e12
        clear hx
        go_wp2_with fail
        go_ret
        exact ⟨_, rfl, HB2.out.trans ((New.below T.out).mono HB2.out.size), fun h => by cases h⟩
      · rw [decide_eq_false hx] at e12
        have HX := Lib.hid hx
        clear hx
        go_wp2_with fail
        go_roundw
        case rel =>
          refine ⟨j + 1, by omega, by go_num, fun z hz => ?_, T.out⟩
          rw [HTK.out] at hz
          rcases List.mem_append.1 hz with h | h
          · exact HNO.out z h
          · rw [List.mem_singleton.1 h]; exact HX.out
        case measure => simp [intOf]; omega
    · obtain rfl : j = l.length := by omega
      have T := Lib.hid tt
      clear tt
      go_wp2_with fail
      go_ret
      exact ⟨_, rfl, HB2.out.trans ((New.below T.out).mono HB2.out.size), fun _ z hz => HNO.out z (by rw [List.take_length]; exact hz)⟩
end Go.Proofs.YtaagcdlghoiolaaDoor

namespace Go.Proofs.YtaagcdlghoiolaaDoor
open Go.RowKit Go.Tw Go.Sort
set_option maxRecDepth 100000

theorem cell_int2 {r : Reach} {b0 : Nat} {W : World} {v : Value} (h : Cell.okWide Tryd.prog W r b0 3 v) : ∃ n : Int, v = .int .i64 n ∧ -9223372036854775808 ≤ n ∧ n ≤ 9223372036854775807 := by
  obtain ⟨n, rfl⟩ := cell_int h
  unfold Cell.okWide at h
  rw [Tryd.underlying3] at h
  simp only [Cell.ok, Tryd.underlying3] at h
  have hb : (-9223372036854775808 : Int) ≤ n ∧ n ≤ 9223372036854775807 := h.2
  exact ⟨n, rfl, hb.1, hb.2⟩
/-- A set-up that came in, its flags within an int. -/
theorem open_conf2 {r : Reach} {b0 : Nat} {W : World} {v : Value} (hv : Value.okWide Tryd.prog W r b0 23 v) : ∃ (mn tb pd fl : Int) (ch : UInt8), v = .agg #[.int .i64 mn, .int .i64 tb, .int .i64 pd, .int .u8 ch.toNat, .int .i64 fl] ∧ -9223372036854775808 ≤ fl ∧ fl ≤ 9223372036854775807 := by
  obtain ⟨mn, tb, pd, fl, ch, rfl⟩ := open_conf hv
  refine ⟨mn, tb, pd, fl, ch, rfl, ?_⟩
  unfold Value.okWide at hv
  rw [Tryd.underlying23] at hv
  simp only at hv
  obtain ⟨cs, e, hsz, ts, hts, _, hcell⟩ := hv
  rw [conf_cellTypes] at hts
  simp only [Option.some.injEq] at hts
  subst hts
  cases e
  obtain ⟨u4, e4, k4⟩ := hcell 4 (.int .i64 fl) rfl
  simp at e4
  subst e4
  obtain ⟨n, e, h1, h2⟩ := cell_int2 k4
  cases e
  exact ⟨h1, h2⟩
/-- Flags that without one are flags were flags. -/
theorem fl_nat (fl : Int) (h1 : -9223372036854775808 ≤ fl) (h2 : fl ≤ 9223372036854775807) (k : Int) (hk : k ∈ flagsL) (g : Nat) (hg : g < 64) (h : wfl fl k false = g) : ∃ f : Nat, f < 64 ∧ fl = f := by
  have e : bits BinOp.andNot IntKind.i64 fl k = IntKind.i64.wrap ((BitVec.ofInt 64 fl &&& ~~~ BitVec.ofInt 64 k).toNat : Int) := rfl
  have hw : bits BinOp.andNot IntKind.i64 fl k = (g : Int) := h
  have hn := (BitVec.ofInt 64 fl &&& ~~~ BitVec.ofInt 64 k).isLt
  have hv : (BitVec.ofInt 64 fl &&& ~~~ BitVec.ofInt 64 k).toNat = g := by
    rw [e, wrap64_eq'] at hw
    split at hw <;> omega
  have hk6 : ∀ i, 6 ≤ i → i < 64 → (BitVec.ofInt 64 k).getLsbD i = false := by
    have : ∀ k ∈ flagsL, ∀ i : Fin 64, 6 ≤ i.val → (BitVec.ofInt 64 k).getLsbD i.val = false := by decide +kernel
    exact fun i a b => this k hk ⟨i, b⟩ a
  have hx : (BitVec.ofInt 64 fl).toNat < 2 ^ 6 := by
    refine Nat.lt_pow_two_of_testBit _ (fun i hi => ?_)
    rw [BitVec.testBit_toNat]
    by_cases h64 : i < 64
    · have hb : (BitVec.ofInt 64 fl &&& ~~~ BitVec.ofInt 64 k).getLsbD i = false := by
        rw [← BitVec.testBit_toNat, hv]
        exact Nat.testBit_lt_two_pow (Nat.lt_of_lt_of_le hg (Nat.pow_le_pow_right (n := 2) (by omega) hi))
      rw [BitVec.getLsbD_and, BitVec.getLsbD_not, hk6 i hi h64] at hb
      simpa [h64] using hb
    · exact BitVec.getLsbD_of_ge _ _ (by omega)
  rw [BitVec.toNat_ofInt] at hx
  refine ⟨fl.toNat, ?_, ?_⟩ <;> omega

theorem cells_cfg {c d : Cfg} (h1 : c.flag 1 = d.flag 1) (h2 : c.flag 2 = d.flag 2) (s : List UInt8) : cellsGo c ⟨[], 0, 0⟩ [] s = cellsGo d ⟨[], 0, 0⟩ [] s := by
  have he : ∀ b : UInt8, endOf c b = endOf d b := fun b => by unfold endOf; rw [h1]
  exact cells_alike s.length s (Nat.le_refl _) (fun b _ => ⟨he b, fun i w => by unfold passT; rw [h2, he]⟩) _ _
end Go.Proofs.YtaagcdlghoiolaaDoor

namespace Go.Proofs.YtaagcdlghoiolaaDoor
open Go.RowKit Go.Tw Go.Sort
set_option maxRecDepth 100000

section
variable {base wr : World}
theorem bld_copy (t : Tch (New base) base wr) {x : Value} {bs : List UInt8} (h : Rd wr x bs) (hb : bs.length ≤ 1000000000000) (ty : TypeId) :
    ∃ ao cp w', (Builtin.append_ #[24, 24] ty #[.slice (some ⟨wr.heap.size, 0, none⟩) 0 0, x]).run Tryd.prog (wr.alloc (.cells #[] 5)) = .ok (.slice ao bs.length cp) w' ∧ Own (New base) w' 5 1 (.slice ao bs.length cp) bs.length (bvs bs) ∧ Tch (New base) base w' := by
  obtain ⟨g, cap, w', hr, hg, hc1, hc2, ho, hb2⟩ := run_copy wr (.inl h) (by omega) ty
  exact ⟨_, cap, w', hr, ho.mono (fun k _ hk => Nat.le_trans t.size hk), t.trans (Tch.of_below hb2)⟩
theorem bld_one (t : Tch (New base) base wr) {v : Value} {n : Nat} {xs : List UInt8} (h : Own (New base) wr 5 1 v n (bvs xs)) (b : UInt8) (hn : n ≤ 1000000000000) (ty : TypeId) :
    ∃ ao cp w', (Builtin.append_ #[24, 24] ty #[v, .slice (some ⟨wr.heap.size, 0, none⟩) 1 1]).run Tryd.prog (wr.alloc (.cells #[.int .u8 b.toNat] 5)) = .ok (.slice ao (n + 1) cp) w' ∧ Own (New base) w' 5 1 (.slice ao (n + 1) cp) (n + 1) (bvs (xs ++ [b])) ∧ Tch (New base) base w' := by
  obtain ⟨v', w', hr, ho, tt, _⟩ := run_append_one (fun k hk => Nat.le_trans t.size hk) h b (by omega) ty
  obtain ⟨ao, cp, rfl⟩ := ho.shape
  exact ⟨ao, cp, w', hr, by rw [bvs_append]; exact ho, t.trans tt⟩
theorem bld_rd (t : Tch (New base) base wr) {v : Value} {n : Nat} {xs : List UInt8} (h : Own (New base) wr 5 1 v n (bvs xs)) {x : Value} {bs : List UInt8} (hrd : Rd wr x bs) (hb : n + bs.length ≤ 1000000000000) (ty : TypeId) :
    ∃ ao cp w', (Builtin.append_ #[24, 24] ty #[v, x]).run Tryd.prog wr = .ok (.slice ao (n + bs.length) cp) w' ∧ Own (New base) w' 5 1 (.slice ao (n + bs.length) cp) (n + bs.length) (bvs (xs ++ bs)) ∧ Tch (New base) base w' := by
  obtain ⟨v', w', hr, ho, tt, _⟩ := run_append_rd (fun k hk => Nat.le_trans t.size hk) h hrd (by omega) ty
  obtain ⟨ao, cp, rfl⟩ := ho.shape
  exact ⟨ao, cp, w', hr, ho, t.trans (tt.mono (fun k e => h.mem k e))⟩
theorem bld_str (t : Tch (New base) base wr) {v : Value} {n : Nat} {xs : List UInt8} (h : Own (New base) wr 5 1 v n (bvs xs)) (s : ByteArray) (hb : n + s.size ≤ 1000000000000) (ty : TypeId) :
    ∃ ao cp w', (Builtin.append_ #[24, 9] ty #[v, .string s]).run Tryd.prog wr = .ok (.slice ao (n + s.size) cp) w' ∧ Own (New base) w' 5 1 (.slice ao (n + s.size) cp) (n + s.size) (bvs (xs ++ s.data.toList)) ∧ Tch (New base) base w' := by
  obtain ⟨i0, hi, hz0, hz1, hz2⟩ := info_parts Tryd.info_u8
  have hrow : wr.ownsRow base.heap.size 5 1 v n (bvs xs) := by
    refine ⟨h.row.1, ?_⟩
    rcases h.row.2 with h1 | ⟨g, cap, cur, rfl, _, rest⟩
    · exact .inl h1
    · exact .inr ⟨g, cap, cur, rfl, h.mem g rfl, rest⟩
  obtain ⟨v', w', hr, ho, hg, _⟩ := Lib.run_append_own_string (P := Tryd.prog) wr base.heap.size 24 9 ty 5 i0 Tryd.underlying24 Tryd.underlying9 hi hz0 hz1 hz2 v n (bvs xs) hrow s (by simp [maxLen]; omega) (by omega) t.size
  have e : bvs (xs ++ s.data.toList) = bvs xs ++ Lib.strCells s := by rw [bvs_append]; rfl
  have ho2 : Own (New base) w' 5 1 v' (n + s.size) (bvs (xs ++ s.data.toList)) := by
    refine ⟨⟨?_, ?_⟩, ?_⟩
    · rw [e]; exact ho.1
    · rw [e]
      rcases ho.2 with h1 | ⟨g, cap, cur, rfl, _, rest⟩
      · exact .inl h1
      · exact .inr ⟨g, cap, cur, rfl, Nat.zero_le _, rest⟩
    · intro g hg2
      exact (ho.lt g hg2).1
  obtain ⟨ao, cp, rfl⟩ := ho2.shape
  exact ⟨ao, cp, w', hr, ho2, t.trans (Tch.grown hg (fun k e => h.mem k e))⟩
end
end Go.Proofs.YtaagcdlghoiolaaDoor
