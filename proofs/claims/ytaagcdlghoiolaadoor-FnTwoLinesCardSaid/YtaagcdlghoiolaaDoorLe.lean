/- Walks: spec.Word, Runes, Text; a text out of a string. -/
import Derived.Lib.ConvBytes
import Derived.Laws.AppendOwn
import Derived.Test.YtaagcdlghoiolaaDoorVe
import Derived.Test.YtaagcdlghoiolaaDoorQe
namespace Go.Proofs.YtaagcdlghoiolaaDoor
open Go.RowKit Go.Tw Go.Sort
set_option maxRecDepth 100000

theorem Rd.bytes (w : World) (l : List UInt8) (hl : l.length ≤ 1000000000000) : Rd (Lib.bytesWorld w 5 ⟨l.toArray⟩) (.slice (some ⟨w.heap.size, 0, none⟩) l.length (grownCap w l.length 0 5)) l ∧ Below w.heap.size w (Lib.bytesWorld w 5 ⟨l.toArray⟩) := by
  refine ⟨Rd.mk' (grownCap_ge _ _ _ _) (grownCap_le_maxLen _ _ _ _ (by unfold maxLen; omega)) fun j hj => ?_, ⟨rfl, rfl, rfl, by rw [Lib.bytesWorld_size]; omega, fun k hk => ?_⟩⟩
  · have h := Lib.bytesWorld_cell w 5 ⟨l.toArray⟩ j (by simpa [ByteArray.size] using hj)
    simp only [Nat.zero_add]
    rw [h]
    simp [bv, List.getD_eq_getElem?_getD, hj]
  · exact Lib.bytesWorld_at_old w _ _ k hk
theorem u8_ne255 (b : UInt8) : ((b.toNat : Int) != 255) = decide (b ≠ 255) := by
  have := u8_eq (b := b) (c := 255) (n := 255) rfl
  rw [bne, this]
  by_cases h : b = 255 <;> simp [h]
/-- A text without bytes that end cells, and without escapes. -/
def wrd (s : List UInt8) : List UInt8 := s.filter fun x => !brk x && x != 255
theorem wrd_mem {s : List UInt8} {x : UInt8} (h : x ∈ wrd s) : brk x = false ∧ x ≠ 255 := by
  have := (List.mem_filter.1 h).2
  simpa using this
def WdRel (w : World) (bs : List UInt8) (t3 t8 : Value) (wr : World) : Prop :=
  ∃ (i : Nat) (v3 : Value), v3 = t3 ∧ i ≤ bs.length ∧ t8 = .int .i64 i ∧ (∃ n, n ≤ i ∧ Own (New w) wr 5 1 v3 n (bvs (wrd (bs.take i)))) ∧ Tch (New w) w wr
set_option maxHeartbeats 4000000 in
theorem specWord_calls (w : World) {v : Value} {bs : List UInt8} (h : Rd w v bs) (hl : bs.length ≤ 1000000000000) : Calls Tryd.prog 9 #[v] w (RdPost w (wrd bs)) := by
  obtain ⟨ao, cp, rfl, h1, h2, h3, h4, h5⟩ := h.val
  unfold maxLen at h2
  have H4 := Lib.hid h4
  have H5 := Lib.hid h5
  clear h h3 h4 h5
  go_enter Tryd.func9, Tryd.ntmps9
  go_wp2_with fail
  go_loopw [3, 8] (fun t3 t8 wr => WdRel w bs t3 t8 wr) (fun _ t8 _ => bs.length - (intOf t8).toNat)
  case atStart => exact ⟨0, _, rfl, Nat.zero_le _, rfl, ⟨0, Nat.le_refl _, Own.nil _ _ _ _⟩, Tch.refl _ _⟩
  case round =>
    obtain ⟨i, v3, rfl, hi, rfl, ⟨n, hn, hown⟩, t⟩ := hrel
    obtain ⟨a3, c3, rfl⟩ := hown.shape
    have HO := Lib.hid hown
    have T := Lib.hid t
    by_cases hlt : i < bs.length
    · obtain ⟨ad, rfl, hc⟩ := H5.out i hlt
      have hsp := H4.out ad rfl
      obtain ⟨k0, o0, sp0⟩ := ad
      simp only at hsp hc
      subst hsp
      have hc2 : wr.cell? ⟨k0, o0 + i, none⟩ = some (.int .u8 bs[i].toNat) := ((New.below t).cell (p := ⟨k0, o0 + i, none⟩) (block_lt_of_cell hc)).trans hc
      have hts : bs.take (i + 1) = bs.take i ++ [bs[i]] := List.take_succ_eq_append_getElem hlt
      clear hc
      generalize bs[i] = b at hc2 hts
      have HTS := Lib.hid hts
      clear hts
      have hW : wrd (bs.take i ++ [b]) = wrd (bs.take i) ++ (if (!brk b && b != 255) = true then [b] else []) := by
        unfold wrd
        rw [List.filter_append]
        congr 1
        by_cases h : (!brk b && b != 255) = true
        · rw [if_pos h]; simp only [List.filter_cons, List.filter_nil]; rw [if_pos h]
        · rw [if_neg h]; simp only [List.filter_cons, List.filter_nil]; rw [if_neg h]
      have HW := Lib.hid hW
      clear hW
      have HBR := Lib.hid (breaks_calls wr b)
      obtain ⟨kb, hkb⟩ : ∃ k, k = brk b := ⟨_, rfl⟩
      rw [← hkb] at HBR HW
      clear hkb
      have e255 := u8_ne255 b
      by_cases hx : kb = false ∧ b ≠ 255
      · obtain ⟨rfl, hb⟩ := hx
        obtain ⟨v', w', hrun, ho, ht, _, _⟩ := run_append_one (fun k hk => Nat.le_trans T.out.size hk) hown b (by omega) 24
        obtain ⟨a', c', rfl⟩ := ho.shape
        have HRUN := Lib.hid hrun
        have HO2 := Lib.hid ho
        have T2 := Lib.hid (T.out.trans ht)
        rw [decide_eq_true hb] at e255
        have HX := Lib.hid hb
        clear hown hrun ho ht t hb
        go_wp2_with fail
        refine HBR.out.mono ?_
        rintro e wq ⟨rfl, rfl⟩
        go_wp2_with (at_builtin; refine wpList_append_eq rfl (.tmp 19) (.tmp 21) 24 rfl rfl rfl HRUN.out ?_)
        go_roundw
        case rel =>
          refine ⟨i + 1, _, rfl, by omega, by go_num, ⟨n + 1, by omega, ?_⟩, T2.out⟩
          rw [HTS.out, HW.out, if_pos (by simp [HX.out]), bvs_append]
          exact HO2.out
        case measure => simp [intOf]; omega
      · have HNX := Lib.hid (show ¬ (!kb && b != 255) = true from fun h => hx (by simpa using h))
        clear hown t
        have key : WdRel w bs (.slice a3 n c3) (.int .i64 ((i : Int) + 1)) wr := ⟨i + 1, _, rfl, by omega, by go_num, ⟨n, by omega, by rw [HTS.out, HW.out, if_neg HNX.out, List.append_nil]; exact HO.out⟩, T.out⟩
        have KEY := Lib.hid key
        clear key
        cases kb
        · have hb : b = 255 := Classical.byContradiction fun h => hx ⟨rfl, h⟩
          rw [decide_eq_false (by simp [hb])] at e255
          clear hx hb
          go_wp2_with fail
          refine HBR.out.mono ?_
          rintro e wq ⟨rfl, rfl⟩
          go_wp2_with fail
          go_roundw
          case rel =>
            have R := KEY.out
            first | exact R | ((repeat apply Exists.intro); exact ⟨R, rfl⟩)
          case measure => simp [intOf]; omega
        · clear hx e255
          go_wp2_with fail
          refine HBR.out.mono ?_
          rintro e wq ⟨rfl, rfl⟩
          go_wp2_with fail
          go_roundw
          case rel =>
            have R := KEY.out
            first | exact R | ((repeat apply Exists.intro); exact ⟨R, rfl⟩)
          case measure => simp [intOf]; omega
    · obtain rfl : i = bs.length := by omega
      clear hown t
      go_wp2_with fail
      go_ret
      refine ⟨_, rfl, ?_, New.below T.out⟩
      have := Own.rd HO.out
      rwa [List.take_length] at this
theorem runes_calls (w : World) {v : Value} {bs : List UInt8} (h : Rd w v bs) (hl : bs.length < 9223372036854775807) : Calls Tryd.prog 13 #[v] w fun e w' => e = .returned (.int .i64 (rc bs)) ∧ Below w.heap.size w w' := by
  have HC := Lib.hid (runeCount_calls h hl)
  obtain ⟨ao, cp, rfl, -⟩ := h.val
  clear h
  go_enter Tryd.func13, Tryd.ntmps13
  go_wp2_with fail
  refine HC.out.mono ?_
  rintro e w1 ⟨rfl, hb1⟩
  have HB := Lib.hid hb1
  clear hb1
  go_wp2_with fail
  go_ret
  exact ⟨rfl, HB.out⟩
theorem text_calls (w : World) {v : Value} {s : List UInt8} (h : Rd w v s) (hT : Lib.Utf8Tabs 1 2 w) (hl : s.length ≤ 1000000000000) : Calls Tryd.prog 11 #[v] w (VPost w) := by
  have HC := Lib.hid (utf8valid_calls w h hT hl)
  obtain ⟨ao, cp, rfl, -⟩ := h.val
  clear h hT
  go_enter Tryd.func11, Tryd.ntmps11
  go_wp2_with fail
  refine HC.out.mono ?_
  rintro e w1 ⟨⟨x, rfl⟩, hb1⟩
  have HB := Lib.hid hb1
  clear hb1
  go_wp2_with fail
  go_ret
  exact ⟨⟨_, rfl⟩, HB.out⟩
section
variable {base wr : World}
theorem bld_copy (t : Tch (New base) base wr) {x : Value} {bs : List UInt8} (h : Rd wr x bs) (hb : bs.length ≤ 1000000000000) (ty : TypeId) :
    ∃ ao cp w', (Builtin.append_ #[24, 24] ty #[.slice (some ⟨wr.heap.size, 0, none⟩) 0 0, x]).run Tryd.prog (wr.alloc (.cells #[] 5)) = .ok (.slice ao bs.length cp) w' ∧ Own (New base) w' 5 1 (.slice ao bs.length cp) bs.length (bvs bs) ∧ Tch (New base) base w' := by
  obtain ⟨g, cap, w', hr, hg, hc1, hc2, ho, hb2⟩ := run_copy wr (.inl h) (by omega) ty
  exact ⟨_, cap, w', hr, ho.mono (fun k _ hk => Nat.le_trans t.size hk), t.trans (Tch.of_below hb2)⟩
theorem bld_one (t : Tch (New base) base wr) {v : Value} {n : Nat} {xs : List UInt8} (h : Own (New base) wr 5 1 v n (bvs xs)) (b : UInt8) (hn : n ≤ 1000000000000) (ty : TypeId) :
    ∃ ao cp w', (Builtin.append_ #[24, 24] ty #[v, .slice (some ⟨wr.heap.size, 0, none⟩) 1 1]).run Tryd.prog (wr.alloc (.cells #[.int .u8 b.toNat] 5)) = .ok (.slice ao (n + 1) cp) w' ∧ Own (New base) w' 5 1 (.slice ao (n + 1) cp) (n + 1) (bvs (xs ++ [b])) ∧ Tch (New base) base w' := by
  obtain ⟨v', w', hr, ho, tt, _⟩ := run_append_one (fun k hk => Nat.le_trans t.size hk) h b (by omega) ty
  obtain ⟨ao, cp, rfl⟩ := ho.shape
  exact ⟨ao, cp, w', hr, by rw [bvs_append]; exact ho, t.trans tt⟩
theorem bld_rd (t : Tch (New base) base wr) {v : Value} {n : Nat} {xs : List UInt8} (h : Own (New base) wr 5 1 v n (bvs xs)) {x : Value} {bs : List UInt8} (hrd : Rd wr x bs) (hb : n + bs.length ≤ 1000000000000) (ty : TypeId) :
    ∃ ao cp w', (Builtin.append_ #[24, 24] ty #[v, x]).run Tryd.prog wr = .ok (.slice ao (n + bs.length) cp) w' ∧ Own (New base) w' 5 1 (.slice ao (n + bs.length) cp) (n + bs.length) (bvs (xs ++ bs)) ∧ Tch (New base) base w' := by
  obtain ⟨v', w', hr, ho, tt, _⟩ := run_append_rd (fun k hk => Nat.le_trans t.size hk) h hrd (by omega) ty
  obtain ⟨ao, cp, rfl⟩ := ho.shape
  exact ⟨ao, cp, w', hr, ho, t.trans (tt.mono (fun k e => h.mem k e))⟩
theorem bld_str (t : Tch (New base) base wr) {v : Value} {n : Nat} {xs : List UInt8} (h : Own (New base) wr 5 1 v n (bvs xs)) (s : ByteArray) (hb : n + s.size ≤ 1000000000000) (ty : TypeId) :
    ∃ ao cp w', (Builtin.append_ #[24, 9] ty #[v, .string s]).run Tryd.prog wr = .ok (.slice ao (n + s.size) cp) w' ∧ Own (New base) w' 5 1 (.slice ao (n + s.size) cp) (n + s.size) (bvs (xs ++ s.data.toList)) ∧ Tch (New base) base w' := by
  obtain ⟨i0, hi, hz0, hz1, hz2⟩ := info_parts Tryd.info_u8
  have hrow : wr.ownsRow base.heap.size 5 1 v n (bvs xs) := by
    refine ⟨h.row.1, ?_⟩
    rcases h.row.2 with h1 | ⟨g, cap, cur, rfl, _, rest⟩
    · exact .inl h1
    · exact .inr ⟨g, cap, cur, rfl, h.mem g rfl, rest⟩
  obtain ⟨v', w', hr, ho, hg, _⟩ := Lib.run_append_own_string (P := Tryd.prog) wr base.heap.size 24 9 ty 5 i0 Tryd.underlying24 Tryd.underlying9 hi hz0 hz1 hz2 v n (bvs xs) hrow s (by simp [maxLen]; omega) (by omega) t.size
  have e : bvs (xs ++ s.data.toList) = bvs xs ++ Lib.strCells s := by rw [bvs_append]; rfl
  have ho2 : Own (New base) w' 5 1 v' (n + s.size) (bvs (xs ++ s.data.toList)) := by
    refine ⟨⟨?_, ?_⟩, ?_⟩
    · rw [e]; exact ho.1
    · rw [e]
      rcases ho.2 with h1 | ⟨g, cap, cur, rfl, _, rest⟩
      · exact .inl h1
      · exact .inr ⟨g, cap, cur, rfl, Nat.zero_le _, rest⟩
    · intro g hg2
      exact (ho.lt g hg2).1
  obtain ⟨ao, cp, rfl⟩ := ho2.shape
  exact ⟨ao, cp, w', hr, ho2, t.trans (Tch.grown hg (fun k e => h.mem k e))⟩
end
end Go.Proofs.YtaagcdlghoiolaaDoor
