/- Walks: spec.Bare. -/
import Derived.Test.YtinkhkhacaehkaaDoorSp
import Derived.Test.YtinkhkhacaehkaaDoorPe
namespace Go.Proofs.YtinkhkhacaehkaaDoor
open Go.RowKit Go.Tw Go.Sort
set_option maxRecDepth 100000

theorem bareO_len (l : List SC) : (bareO l).length ≤ (texts l).length + l.length := by
  induction l with
  | nil => simp [bareO]
  | cons x l ih =>
    have h : (bareC x).length ≤ x.text.length + 1 := by unfold bareC; split <;> simp
    have e : bareO (x :: l) = bareC x ++ bareO l := by simp [bareO]
    rw [e, texts_cons, List.length_append, List.length_append, List.length_cons]; omega
def BaRel (w2 : World) (l : List SC) (t5 t12 : Value) (wr : World) : Prop :=
  ∃ (j n : Nat) (pre : List UInt8), j ≤ l.length ∧ t12 = .int .i64 j ∧ pre ++ bareO (l.drop j) = bareO l ∧ n = pre.length ∧ Own (New w2) wr 5 1 t5 n (bvs pre) ∧ Tch (New w2) w2 wr

set_option maxHeartbeats 4000000 in
theorem bare_calls (w : World) (m t p f : Nat) (hf : f < 64) (ch : UInt8) {v : Value} {s : List UInt8} (h : Rd w v s) (hl : s.length ≤ 1000000) :
    Calls Tryd.prog 22 #[.agg #[.int .i64 m, .int .i64 t, .int .i64 p, .int .u8 ch.toNat, .int .i64 f], v] w (RdPost w (bareO (cellsGo (cfgOf m t p f ch) ⟨[], 0, 0⟩ [] s))) := by
  obtain ⟨w1, hw1⟩ : ∃ w1, w1 = w.alloc (.cells #[.int .i64 m, .int .i64 t, .int .i64 p, .int .u8 ch.toNat, .int .i64 f] 23) := ⟨_, rfl⟩
  have hb0 : Below w.heap.size w w1 := hw1 ▸ (Below.refl _ w).alloc (Nat.le_refl _) _
  have hc0 : w1.heap[w.heap.size]? = some (.cells #[.int .i64 m, .int .i64 t, .int .i64 p, .int .u8 ch.toNat, .int .i64 f] 23 (0, 0)) := hw1 ▸ heap_alloc_new w _
  have hCE := cells_calls w1 m t p f hf ch (h.below hb0) hl
  obtain ⟨l, hl0⟩ : ∃ l, l = cellsGo (cfgOf m t p f ch) ⟨[], 0, 0⟩ [] s := ⟨_, rfl⟩
  have htx : (texts l).length ≤ s.length := by rw [hl0]; have := texts_cellsGo (cfgOf m t p f ch) s.length s ⟨[], 0, 0⟩ [] (Nat.le_refl _); simpa using this
  have hll : l.length ≤ 1000001 := by rw [hl0]; have := cellsGo_len (cfgOf m t p f ch) s.length s ⟨[], 0, 0⟩ [] (Nat.le_refl _); omega
  rw [← hl0] at hCE ⊢
  obtain ⟨d0, d1, d2, d3, d4⟩ := conf_at hc0
  have HCE := Lib.hid hCE
  have HB0 := Lib.hid hb0
  rw [hw1] at d0 d1 d2 d3 d4 HCE HB0
  obtain ⟨ao, cp, rfl, -⟩ := h.val
  have HTX := Lib.hid htx
  clear hb0 hc0 hCE hl0 hw1 h htx
  go_enter Tryd.func22, Tryd.ntmps22
  go_wp2_with fail
  refine HCE.out.mono ?_
  rintro e w2 ⟨v2, rfl, hcl, hb2⟩
  obtain ⟨a2, cp2, rfl⟩ := hcl.shape
  have HCL := Lib.hid hcl
  have HB2 := Lib.hid (HB0.out.trans (hb2.mono HB0.out.size))
  clear hcl hb2 HCE HB0 d0 d1 d2 d3 d4
  go_wp2_with fail
  go_loopw [5, 12] (fun t5 t12 wr => BaRel w2 l t5 t12 wr) (fun _ t12 _ => l.length - (intOf t12).toNat)
  case atStart => exact ⟨0, 0, [], Nat.zero_le _, rfl, rfl, rfl, Own.nil _ _ _ _, Tch.refl _ _⟩
  case round =>
    obtain ⟨j, n, pre, hj, rfl, hgo, rfl, hown, tt⟩ := hrel
    have HGO := Lib.hid hgo
    have hpl : pre.length + (bareO (l.drop j)).length ≤ 2000001 := by
      have h1 := bareO_len l
      have h2 := HTX.out
      rw [← hgo, List.length_append] at h1; omega
    clear hgo
    by_cases hlt : j < l.length
    · obtain ⟨g, tv, rfl, c0, c1, c2, htx⟩ := HCL.out.at hlt
      obtain ⟨ta, tn, tc, rfl⟩ := (show ∃ ta tn tc, tv = .slice ta tn tc from by obtain ⟨a, c, e, _⟩ := htx.rd.val; exact ⟨a, _, c, e⟩)
      obtain ⟨x, hx⟩ : ∃ x, x = l[j] := ⟨_, rfl⟩
      have hdr : l.drop j = x :: l.drop (j + 1) := by rw [List.drop_eq_getElem_cons hlt, hx]
      rw [← hx] at c1 c2 htx
      have hbo : bareO (l.drop j) = bareC x ++ bareO (l.drop (j + 1)) := by rw [hdr]; simp [bareO]
      have HBO := Lib.hid hbo
      have hbl : x.text.length ≤ (bareC x).length := by unfold bareC; simp
      rw [hbo, List.length_append] at hpl
      have k0 : wr.cell? ⟨g, j * 3, none⟩ = some (.slice ta tn tc) := tt.cell c0 (by have := block_lt_of_cell c0; unfold New; simpa using this)
      have k1 : wr.cell? ⟨g, j * 3 + 1, none⟩ = some (.int .i64 x.width) := tt.cell c1 (by have := block_lt_of_cell c1; unfold New; simpa using this)
      have k2 : wr.cell? ⟨g, j * 3 + 2, none⟩ = some (.int .u8 x.fin.toNat) := tt.cell c2 (by have := block_lt_of_cell c2; unfold New; simpa using this)
      have tA : Tch (fun _ => False) wr (wr.alloc (.cells #[.slice ta tn tc, .int .i64 x.width, .int .u8 x.fin.toNat] 56)) := Tch.alloc _ _ _
      obtain ⟨v6, w6, hrun6, ho6, ht6, -⟩ := run_append_rd (F := New w2) (fun k hk => Nat.le_trans tt.size (Nat.le_trans tA.size hk)) (hown.kept tA (fun _ _ => id)) ((htx.rd.new tt).kept tA (fun _ _ _ => id)) (by omega) 24
      have hb6 : w6.heap[wr.heap.size]? = some (.cells #[.slice ta tn tc, .int .i64 x.width, .int .u8 x.fin.toNat] 56 (0, 0)) := ht6.heap (heap_alloc_new wr _) (fun e => by have := hown.lt e; omega)
      have b62 : w6.cell? ⟨wr.heap.size, 2, none⟩ = some (.int .u8 x.fin.toNat) := cell_of_blk hb6 2
      have t6 : Tch (New w2) w2 w6 := tt.trans ((tA.mono (fun _ h => h.elim)).trans (ht6.mono (fun g e => hown.mem g e)))
      have HRUN6 := Lib.hid hrun6
      have HO6 := Lib.hid ho6
      have T6 := Lib.hid t6
      have e10 := u8_eq (b := x.fin) (c := 10) (n := 10) rfl
      have e12 := u8_eq (b := x.fin) (c := 12) (n := 12) rfl
      clear hbo hdr hx htx hown tt tA hrun6 ho6 ht6 hb6 t6 c0 c1 c2
      have hnext : ∀ (w9 : World) (v9 : Value) (n9 : Nat), Own (New w2) w9 5 1 v9 n9 (bvs (pre ++ bareC x)) → Tch (New w2) w2 w9 → BaRel w2 l v9 (.int .i64 ((j : Int) + 1)) w9 := by
        intro w9 v9 n9 h9 t9
        exact ⟨j + 1, n9, _, by omega, by go_num, by rw [← HGO.out, HBO.out, List.append_assoc], by have := h9.row.1; simpa using this.symm, h9, t9⟩
      have HNEXT := Lib.hid hnext
      clear hnext
      by_cases hnl : x.fin = 10 ∨ x.fin = 12
      · have hbc : bareC x = x.text ++ [10] := by unfold bareC; rw [if_pos hnl]
        obtain ⟨v7, w7, hrun7, ho7, ht7, -, -⟩ := run_append_one (F := New w2) (fun k hk => Nat.le_trans T6.out.size hk) HO6.out 10 (by omega) 24
        have HRUN7 := Lib.hid (show (Builtin.append_ #[24, 24] 24 #[v6, .slice (some ⟨w6.heap.size, 0, none⟩) 1 1]).run Tryd.prog (w6.alloc (.cells #[.int .u8 10] 5)) = .ok v7 w7 from hrun7)
        have HF := Lib.hid (HNEXT.out w7 v7 _ (by
          have := ho7
          rw [show bvs (pre ++ x.text) ++ [bv 10] = bvs (pre ++ bareC x) by rw [hbc, ← List.append_assoc, bvs_append (pre ++ x.text) [10]]; rfl] at this
          exact this) (T6.out.trans ht7))
        clear hrun7 ho7 ht7 hbc HNEXT
        by_cases h10 : x.fin = 10
        · rw [decide_eq_true h10] at e10
          clear h10 hnl e12
          go_wp2_with (first | (at_builtin; refine wpList_append_eq rfl (.tmp 16) (.tmp 18) 24 rfl rfl rfl HRUN6.out ?_) | (at_builtin; refine wpList_append_eq rfl (.tmp 28) (.tmp 29) 24 rfl rfl rfl HRUN7.out ?_))
          go_roundw
          case rel => first | exact HF.out | ((repeat apply Exists.intro); exact ⟨HF.out, rfl⟩)
          case measure => simp [intOf]; omega
        · have h12 : x.fin = 12 := by rcases hnl with h | h; exact absurd h h10; exact h
          rw [decide_eq_false h10] at e10
          rw [decide_eq_true h12] at e12
          clear h10 h12 hnl
          go_wp2_with (first | (at_builtin; refine wpList_append_eq rfl (.tmp 16) (.tmp 18) 24 rfl rfl rfl HRUN6.out ?_) | (at_builtin; refine wpList_append_eq rfl (.tmp 28) (.tmp 29) 24 rfl rfl rfl HRUN7.out ?_))
          go_roundw
          case rel => first | exact HF.out | ((repeat apply Exists.intro); exact ⟨HF.out, rfl⟩)
          case measure => simp [intOf]; omega
      · have hbc : bareC x = x.text := by unfold bareC; rw [if_neg hnl, List.append_nil]
        have HF := Lib.hid (HNEXT.out w6 v6 _ (by rw [hbc]; exact HO6.out) T6.out)
        rw [decide_eq_false (fun h => hnl (.inl h))] at e10
        rw [decide_eq_false (fun h => hnl (.inr h))] at e12
        clear hnl hbc HNEXT
        go_wp2_with (at_builtin; refine wpList_append_eq rfl (.tmp 16) (.tmp 18) 24 rfl rfl rfl HRUN6.out ?_)
        go_roundw
        case rel => first | exact HF.out | ((repeat apply Exists.intro); exact ⟨HF.out, rfl⟩)
        case measure => simp [intOf]; omega
    · obtain rfl : j = l.length := by omega
      have HO := Lib.hid hown
      have T := Lib.hid tt
      clear hown tt hlt hj hpl
      go_wp2_with fail
      go_ret
      refine ⟨_, rfl, ?_, HB2.out.trans ((New.below T.out).mono HB2.out.size)⟩
      have e : pre = bareO l := by
        have := HGO.out
        rw [List.drop_length] at this
        simpa [bareO] using this
      rw [← e]
      exact Own.rd HO.out
end Go.Proofs.YtinkhkhacaehkaaDoor
