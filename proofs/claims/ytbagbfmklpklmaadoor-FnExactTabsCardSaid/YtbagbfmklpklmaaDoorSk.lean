/- Walks: spec.Lines. -/
import Derived.Test.YtbagbfmklpklmaaDoorSj
namespace Go.Proofs.YtbagbfmklpklmaaDoor
open Go.RowKit Go.Tw Go.Sort
set_option maxRecDepth 100000

theorem cellsGo_len (c : Cfg) : ∀ (n : Nat) (s : List UInt8) (x : SC) (pl : List UInt8), s.length ≤ n → (cellsGo c x pl s).length ≤ s.length + 1 := by
  intro n
  induction n with
  | zero =>
    intro s x pl hs
    obtain rfl : s = [] := List.length_eq_zero_iff.1 (by omega)
    rw [cellsGo]; simp
  | succ n ih =>
    intro s x pl hs
    cases s with
    | nil => rw [cellsGo]; simp
    | cons b t =>
      simp only [List.length_cons] at hs
      rw [cellsGo]
      split
      · have h1 := (List.dropWhile_sublist (fun x => x != endOf c b) (l := t)).length_le
        have h2 := ih ((t.dropWhile (· != endOf c b)).drop 1) ⟨x.text ++ pl ++ passT c b (t.takeWhile (· != endOf c b)) (!(t.dropWhile (· != endOf c b)).isEmpty), x.width + rc pl + passW b (t.takeWhile (· != endOf c b)), x.fin⟩ [] (by simp only [List.length_drop]; omega)
        simp only [List.length_drop, List.length_cons] at h2 ⊢
        omega
      · split
        · have := ih t ⟨[], 0, 0⟩ [] (by omega)
          simp only [List.length_cons]; omega
        · have := ih t x (pl ++ [b]) (by omega)
          simp only [List.length_cons]; omega
/-- A cell that is read. -/
theorem Cl.at {F : Nat → Prop} {w : World} {Bd n cp : Nat} {ao : Option Addr} {l : List SC} (h : Cl F w Bd (.slice ao n cp) l) {j : Nat} (hj : j < l.length) : ∃ g tv, ao = some ⟨g, 0, none⟩ ∧ w.cell? ⟨g, j * 3, none⟩ = some tv ∧ w.cell? ⟨g, j * 3 + 1, none⟩ = some (.int .i64 l[j].width) ∧ w.cell? ⟨g, j * 3 + 2, none⟩ = some (.int .u8 l[j].fin.toNat) ∧ Tx w Bd tv l[j].text := by
  obtain ⟨vs, ho, hc⟩ := h.val
  obtain ⟨tv, a, b, c, d⟩ := hc.get j hj
  rcases ho.row.2 with ⟨_, hn⟩ | ⟨g, cap, cur, e, _, hg, hcp, hm, hs, ht⟩
  · omega
  · simp only [Value.slice.injEq] at e
    obtain ⟨rfl, _, _⟩ := e
    have k : ∀ {i : Nat} {u : Value}, vs[i]? = some u → w.cell? ⟨g, i, none⟩ = some u := by
      intro i u hu
      rw [← ht, List.getElem?_take] at hu
      split at hu
      · simp only [World.cell?, hg]; simpa using hu
      · cases hu
    have e3 : 3 * j = j * 3 := Nat.mul_comm _ _
    rw [e3] at a b c
    exact ⟨g, tv, rfl, k a, k b, k c, d⟩

set_option maxHeartbeats 4000000 in
theorem lines_calls (w : World) (m t p f : Nat) (hf : f < 64) (ch : UInt8) {v : Value} {s : List UInt8} (h : Rd w v s) (hl : s.length ≤ 1000000) :
    Calls Tryd.prog 27 #[.agg #[.int .i64 m, .int .i64 t, .int .i64 p, .int .u8 ch.toNat, .int .i64 f], v] w (LiPost w (linesGo [] (cellsGo (cfgOf m t p f ch) ⟨[], 0, 0⟩ [] s))) := by
  obtain ⟨w1, hw1⟩ : ∃ w1, w1 = w.alloc (.cells #[.int .i64 m, .int .i64 t, .int .i64 p, .int .u8 ch.toNat, .int .i64 f] 23) := ⟨_, rfl⟩
  have hb0 : Below w.heap.size w w1 := hw1 ▸ (Below.refl _ w).alloc (Nat.le_refl _) _
  have hc0 : w1.heap[w.heap.size]? = some (.cells #[.int .i64 m, .int .i64 t, .int .i64 p, .int .u8 ch.toNat, .int .i64 f] 23 (0, 0)) := hw1 ▸ heap_alloc_new w _
  have hCE := cells_calls w1 m t p f hf ch (h.below hb0) hl
  obtain ⟨l, hl0⟩ : ∃ l, l = cellsGo (cfgOf m t p f ch) ⟨[], 0, 0⟩ [] s := ⟨_, rfl⟩
  have hll : l.length ≤ 1000001 := by rw [hl0]; have := cellsGo_len (cfgOf m t p f ch) s.length s ⟨[], 0, 0⟩ [] (Nat.le_refl _); omega
  rw [← hl0] at hCE ⊢
  obtain ⟨d0, d1, d2, d3, d4⟩ := conf_at hc0
  have HCE := Lib.hid hCE
  have HB0 := Lib.hid hb0
  rw [hw1] at d0 d1 d2 d3 d4 HCE HB0
  obtain ⟨ao, cp, rfl, -⟩ := h.val
  clear hb0 hc0 hCE hl0 hw1 h
  go_enter Tryd.func27, Tryd.ntmps27
  go_wp2_with fail
  refine HCE.out.mono ?_
  rintro e w2 ⟨v2, rfl, hcl, hb2⟩
  obtain ⟨a2, cp2, rfl⟩ := hcl.shape
  have HCL := Lib.hid hcl
  have HB2 := Lib.hid (HB0.out.trans (hb2.mono HB0.out.size))
  clear hcl hb2 HCE HB0 d0 d1 d2 d3 d4
  go_wp2_with fail
  go_loopw [5, 6, 13] (fun t5 t6 t13 wr => LiRel w2 l t5 t6 t13 wr) (fun _ _ t13 _ => l.length - (intOf t13).toNat)
  case atStart => exact ⟨0, [], [], w2.heap.size, Nat.zero_le _, rfl, rfl, Nat.le_refl _, Nat.le_refl _, ⟨[], Own.nil _ _ _ _, rfl⟩, ⟨[], Own.nil _ _ _ _, rfl⟩, Tch.refl _ _, Nat.le_refl _, Nat.le_refl _⟩
  case round =>
    obtain ⟨j, out, cur, Bd, hj, rfl, hgo, h1, h2, ho, hc, tt, hol, hcl⟩ := hrel
    have HGO := Lib.hid hgo
    clear hgo
    obtain ⟨ao5, cp5, rfl⟩ := ho.shape
    obtain ⟨ao6, cp6, rfl⟩ := hc.shape
    by_cases hlt : j < l.length
    · obtain ⟨g, tv, rfl, c0, c1, c2, htx⟩ := HCL.out.at hlt
      have htxw : Tx w2 w2.heap.size tv l[j].text := htx
      obtain ⟨ta, tn, tc, rfl⟩ := (show ∃ ta tn tc, tv = .slice ta tn tc from by obtain ⟨a, c, e, _⟩ := htx.rd.val; exact ⟨a, _, c, e⟩)
      obtain ⟨x, hx⟩ : ∃ x, x = l[j] := ⟨_, rfl⟩
      have hdr : l.drop j = x :: l.drop (j + 1) := by rw [List.drop_eq_getElem_cons hlt, hx]
      rw [← hx] at c1 c2 htxw htx
      have HDR := Lib.hid hdr
      have k0 : wr.cell? ⟨g, j * 3, none⟩ = some (.slice ta tn tc) := tt.cell c0 (by have := block_lt_of_cell c0; unfold New; simpa using this)
      have k1 : wr.cell? ⟨g, j * 3 + 1, none⟩ = some (.int .i64 x.width) := tt.cell c1 (by have := block_lt_of_cell c1; unfold New; simpa using this)
      have k2 : wr.cell? ⟨g, j * 3 + 2, none⟩ = some (.int .u8 x.fin.toNat) := tt.cell c2 (by have := block_lt_of_cell c2; unfold New; simpa using this)
      have tA : Tch (fun _ => False) wr (wr.alloc (.cells #[.slice ta tn tc, .int .i64 x.width, .int .u8 x.fin.toNat] 58)) := Tch.alloc _ _ _
      obtain ⟨v6, w6, hrun6, ho6, hc6, t6', hB6, hX6⟩ := li_cell (tv := .slice ta tn tc) (x := x) h1 (Nat.le_trans h2 tA.size) (ho.kept tA (fun _ _ _ => id) (fun _ _ _ => id) (fun _ _ => id)) (hc.kept tA (fun _ _ _ => id) (fun _ _ => id)) (tt.trans (tA.mono (fun _ h => h.elim))) ((htxw.kept tt (fun g hg hk hn => absurd hg (Nat.not_lt.2 hn))).kept tA (fun _ _ _ => id)) (by omega) 53
      have hb6 : w6.heap[wr.heap.size]? = some (.cells #[.slice ta tn tc, .int .i64 x.width, .int .u8 x.fin.toNat] 58 (0, 0)) := hX6.heap (heap_alloc_new wr _) (fun e => by
        obtain ⟨vs, ho1, _⟩ := hc.val
        have := ho1.lt e
        omega)
      have b60 : w6.cell? ⟨wr.heap.size, 0, none⟩ = some (.slice ta tn tc) := cell_of_blk hb6 0
      have b61 : w6.cell? ⟨wr.heap.size, 1, none⟩ = some (.int .i64 x.width) := cell_of_blk hb6 1
      have b62 : w6.cell? ⟨wr.heap.size, 2, none⟩ = some (.int .u8 x.fin.toNat) := cell_of_blk hb6 2
      clear hb6 hX6
      obtain ⟨a6, n6, p6, rfl⟩ := (show ∃ a n p, v6 = .slice a n p from by obtain ⟨a, c, e⟩ := hc6.shape; exact ⟨a, _, c, e⟩)
      have hz6 : (wr.alloc (.cells #[.slice ta tn tc, .int .i64 x.width, .int .u8 x.fin.toNat] 58)).heap.size = wr.heap.size + 1 := by simp
      rw [hz6] at hrun6
      have HRUN6 := Lib.hid hrun6
      have HO6 := Lib.hid ho6
      have HC6 := Lib.hid hc6
      have T6 := Lib.hid t6'
      have HB6 := Lib.hid hB6
      have HTA := Lib.hid (tabbed_calls w6 (.slice ta tn tc) x)
      obtain ⟨tb, htb⟩ : ∃ tb, tb = x.tabbed := ⟨_, rfl⟩
      rw [← htb] at HTA
      have HTB := Lib.hid htb
      clear hrun6 ho6 hc6 t6' hB6 htb hdr hx htx htxw ho hc tt tA hz6 c0 c1 c2
      cases tb
      · have hTd : ∀ w7, Below w6.heap.size w6 w7 → ∃ v8 w8, (Builtin.append_ #[51, 51] 51 #[.slice ao5 out.length cp5, .slice (some ⟨w7.heap.size, 0, none⟩) 1 1]).run Tryd.prog (w7.alloc (.cells #[.slice a6 n6 p6] 53)) = .ok v8 w8 ∧ Lw (New w2) w8 w2.heap.size w7.heap.size v8 (out ++ [cur ++ [x]]) ∧ Tch (New w2) w2 w8 ∧ w7.heap.size ≤ w8.heap.size := by
          intro w7 hb7
          have t7 : Tch (fun _ => False) w6 w7 := Tch.of_below hb7
          exact li_line h1 (Nat.le_trans HB6.out t7.size) (HO6.out.kept t7 (fun _ _ _ => id) (fun _ _ _ => id) (fun _ _ => id)) (HC6.out.kept t7 (fun _ _ _ => id) (fun _ _ => id)) (T6.out.trans (t7.mono (fun _ h => h.elim))) (by omega) _
        have HTD := Lib.hid hTd
        clear hTd
        go_wp2_with (at_builtin; refine wpList_append_eq rfl (.tmp 17) (.tmp 19) 53 rfl rfl rfl HRUN6.out ?_)
        refine HTA.out.mono ?_
        rintro e w7 ⟨rfl, hb7⟩
        obtain ⟨v8, w8, hrun8, ho8, t8, hz8⟩ := HTD.out w7 hb7
        have HRUN8 := Lib.hid hrun8
        have HO8 := Lib.hid ho8
        have T8 := Lib.hid t8
        have HZ8 := Lib.hid hz8
        have HZ7 := Lib.hid hb7.size
        clear hb7 hrun8 ho8 t8 hz8 HTD HTA HRUN6 HO6 HC6
        go_wp2_with (at_builtin; refine wpList_append_eq rfl (.tmp 24) (.tmp 26) 51 rfl rfl rfl HRUN8.out ?_)
        go_roundw
        case rel =>
          refine ⟨j + 1, out ++ [cur ++ [x]], [], w8.heap.size, by omega, by go_num, ?_, ?_, Nat.le_refl _, HO8.out.mono (fun _ _ h => h) (Nat.le_refl _) HZ8.out, ⟨[], Own.nil _ _ _ _, rfl⟩, T8.out, by simp; omega, Nat.zero_le _⟩
          · rw [← HGO.out, HDR.out, linesGo, if_neg (by rw [← HTB.out]; simp)]
            simp
          · exact T8.out.size
        case measure => simp [intOf]; omega
      · go_wp2_with (at_builtin; refine wpList_append_eq rfl (.tmp 17) (.tmp 19) 53 rfl rfl rfl HRUN6.out ?_)
        refine HTA.out.mono ?_
        rintro e w7 ⟨rfl, hb7⟩
        have T7 := Lib.hid (Tch.of_below (F := fun _ => False) hb7)
        clear hb7 HTA HRUN6
        go_wp2_with fail
        go_roundw
        case rel =>
          refine ⟨j + 1, out, cur ++ [x], Bd, by omega, by go_num, ?_, h1, Nat.le_trans HB6.out T7.out.size, HO6.out.kept T7.out (fun _ _ _ => id) (fun _ _ _ => id) (fun _ _ => id), HC6.out.kept T7.out (fun _ _ _ => id) (fun _ _ => id), T6.out.trans (T7.out.mono (fun _ h => h.elim)), by omega, by simp; omega⟩
          rw [← HGO.out, HDR.out]
          conv => rhs; rw [linesGo, if_pos HTB.out.symm]
        case measure => simp [intOf]; omega
    · obtain rfl : j = l.length := by omega
      have HO := Lib.hid ho
      have T := Lib.hid tt
      have HSZ := Lib.hid h2
      clear ho hc tt hlt hj h1 h2
      go_wp2_with fail
      go_ret
      refine ⟨_, rfl, ?_, HB2.out.trans ((New.below T.out).mono HB2.out.size)⟩
      have e : linesGo [] l = out := by
        rw [← HGO.out, List.drop_length]; simp [linesGo]
      rw [e]
      exact HO.out.mono (fun k _ h => Nat.le_trans HB2.out.size h) T.out.size HSZ.out
end Go.Proofs.YtbagbfmklpklmaaDoor
