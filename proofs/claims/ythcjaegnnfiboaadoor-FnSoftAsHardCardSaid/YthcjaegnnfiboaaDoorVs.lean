/- Walks: spec.Swap. -/
import Derived.Test.YthcjaegnnfiboaaDoorQd
import Derived.Test.YthcjaegnnfiboaaDoorPj
namespace Go.Proofs.YthcjaegnnfiboaaDoor
open Go.RowKit Go.Tw Go.Sort
set_option maxRecDepth 100000

theorem Own.setAt {F : Nat → Prop} {w : World} {g cap n : Nat} {xs : List Value} (h : Own F w 5 1 (.slice (some ⟨g, 0, none⟩) n cap) n xs) (i : Nat) (_ : i < n) (u : Value) : Own F (w.setCell ⟨g, i, none⟩ u) 5 1 (.slice (some ⟨g, 0, none⟩) n cap) n (xs.set i u) ∧ w.frozen? ⟨g, i, none⟩ = false := by
  have hlen := h.row.1
  rcases h.row.2 with ⟨e, _⟩ | ⟨g', cap', cur, e, hb, hg, hc, hm, hs, ht⟩
  · cases e
  · cases e
    refine ⟨⟨⟨by simpa using hlen, .inr ⟨g, cap, cur.setIfInBounds i u, rfl, hb, ?_, hc, hm, by simpa using hs, ?_⟩⟩, h.mem⟩, by simp [World.frozen?, hg]⟩
    · simp [World.setCell, Array.getElem?_modify, hg]
    · rw [Array.toList_setIfInBounds, ← ht, List.take_set]

def SwRel (w : World) (s : List UInt8) (a b : UInt8) (g cap : Nat) (t15 : Value) (wr : World) : Prop :=
  ∃ i : Nat, i ≤ s.length ∧ t15 = .int .i64 i ∧ Own (New w) wr 5 1 (.slice (some ⟨g, 0, none⟩) s.length cap) s.length (bvs ((s.take i).map (sw a b) ++ s.drop i)) ∧ Tch (New w) w wr

set_option maxHeartbeats 2000000 in
theorem swap_calls (w : World) {v : Value} {s : List UInt8} (h : Rd w v s) (a b : UInt8) (hl : s.length ≤ 1000000000000) :
    Calls Tryd.prog 28 #[v, .int .u8 a.toNat, .int .u8 b.toNat] w (RdPost w (s.map (sw a b))) := by
  obtain ⟨g, cap, w1, hrun, hg, hc1, hc2, hown, hbel⟩ := run_copy w (.inl h) (by omega) 24
  obtain ⟨ao, cp, rfl, -, -⟩ := h.val
  have HRUN := Lib.hid hrun
  have HO := Lib.hid (show SwRel w s a b g cap (.int .i64 0) w1 from ⟨0, Nat.zero_le _, rfl, by rw [List.take_zero, List.map_nil, List.nil_append, List.drop_zero]; exact hown, Tch.of_below hbel⟩)
  clear hrun hown hbel h
  go_enter Tryd.func28, Tryd.ntmps28
  go_wp2_with (at_builtin; refine wpList_append_eq rfl (.tmp 10) (.tmp 11) 24 rfl rfl rfl HRUN.out ?_)
  go_loopw [15] (fun t15 wr => SwRel w s a b g cap t15 wr) (fun t15 _ => s.length - (intOf t15).toNat)
  case atStart => exact HO.out
  case round =>
    clear HO HRUN
    obtain ⟨i, hi, rfl, hown, tt⟩ := hrel
    by_cases hlt : i < s.length
    · have hcell : wr.cell? ⟨g, i, none⟩ = some (.int .u8 s[i].toNat) := by
        obtain ⟨ao', cp', e, _, _, _, _, k5⟩ := (Own.rd hown).val
        obtain ⟨ad, e2, hc⟩ := k5 i (by simp; omega)
        simp only [Value.slice.injEq] at e
        rw [← e.1] at e2
        cases e2
        rw [Nat.zero_add] at hc
        rw [hc]
        have hlen : ((s.take i).map (sw a b)).length = i := by simp; omega
        rw [List.getElem_append_right (by omega)]
        simp only [hlen, Nat.sub_self, List.getElem_drop, Nat.add_zero, bv]
      have hd : s.drop i = s[i] :: s.drop (i + 1) := List.drop_eq_getElem_cons hlt
      have ht : s.take (i + 1) = s.take i ++ [s[i]] := List.take_succ_eq_append_getElem hlt
      generalize s[i] = x at hcell hd ht
      have HD := Lib.hid hd
      have HTK := Lib.hid ht
      have hlen : ((s.take i).map (sw a b)).length = i := by simp; omega
      have HLEN := Lib.hid hlen
      clear hd ht hlen
      by_cases hx : x = a
      · have hxb : ((x.toNat : Int) == (a.toNat : Int)) = true := by rw [hx]; simp
        obtain ⟨h1, h2⟩ := Own.setAt hown i hlt (.int .u8 b.toNat)
        have HO := Lib.hid (show Own (New w) (wr.setCell ⟨g, i, none⟩ (.int .u8 b.toNat)) 5 1 (.slice (some ⟨g, 0, none⟩) s.length cap) s.length (bvs ((s.take (i + 1)).map (sw a b) ++ s.drop (i + 1))) from by
          have e : (bvs ((s.take i).map (sw a b) ++ s.drop i)).set i (.int .u8 b.toNat) = bvs ((s.take (i + 1)).map (sw a b) ++ s.drop (i + 1)) := by
            rw [HTK.out, HD.out, List.map_append, bvs_append, bvs_append, bvs_append]
            have hl2 : (bvs ((s.take i).map (sw a b))).length = i := by rw [← HLEN.out]; simp [bvs]
            rw [List.set_append_right _ _ (by omega), hl2, Nat.sub_self]
            simp [bvs, bv, sw, hx]
          rw [← e]; exact h1)
        have HTT := Lib.hid (tt.trans (Tch.setCell (F := New w) (a := ⟨g, i, none⟩) wr hg (.int .u8 b.toNat)))
        clear hown tt h1 hx
        go_wp2_with fail
        go_roundw
        case rel => exact ⟨i + 1, by omega, by go_num, HO.out, HTT.out⟩
        case measure => simp [intOf]; omega
      · have hxb : ((x.toNat : Int) == (a.toNat : Int)) = false := by rw [beq_eq_false_iff_ne]; intro h; exact hx (UInt8.toNat_inj.1 (by omega))
        have HO := Lib.hid (show Own (New w) wr 5 1 (.slice (some ⟨g, 0, none⟩) s.length cap) s.length (bvs ((s.take (i + 1)).map (sw a b) ++ s.drop (i + 1))) from by
          have e : (s.take i).map (sw a b) ++ s.drop i = (s.take (i + 1)).map (sw a b) ++ s.drop (i + 1) := by
            rw [HTK.out, HD.out, List.map_append]
            simp [sw, hx]
          rw [← e]; exact hown)
        have HTT := Lib.hid tt
        clear hown tt hx
        go_wp2_with fail
        go_roundw
        case rel => exact ⟨i + 1, by omega, by go_num, HO.out, HTT.out⟩
        case measure => simp [intOf]; omega
    · obtain rfl : i = s.length := by omega
      have HO := Lib.hid hown
      have HTT := Lib.hid tt
      clear hown tt
      go_wp2_with fail
      go_ret
      refine ⟨_, rfl, ?_, New.below HTT.out⟩
      have := Own.rd HO.out
      rwa [List.take_length, List.drop_length, List.append_nil] at this
end Go.Proofs.YthcjaegnnfiboaaDoor
