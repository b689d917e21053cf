/- Walks: the reference's padding. -/
import Derived.Test.YteildpeogbenbaaDoorSe
import Derived.Deep.QuietTactic
import Derived.BigQuiet
namespace Go.Proofs.YteildpeogbenbaaDoor
open Go.RowKit Go.Tw Go.Sort
set_option maxRecDepth 100000

/-- Bytes, in a block of their own. -/
def RdNew (w : World) (bs : List UInt8) (e : Ending) (w' : World) : Prop := ∃ v, e = .returned v ∧ Rd w' v bs ∧ Below w.heap.size w w' ∧ ∀ g, v.ownBlock = some g → w.heap.size ≤ g
/-- The loop that pads with the character. -/
def PdRel (w1 : World) (ch : UInt8) (tw cl : Nat) (t9 t10 : Value) (wr : World) : Prop :=
  ∃ n : Nat, tw ≤ n ∧ (n ≤ cl ∨ n = tw) ∧ t10 = .int .i64 n ∧ Own (New w1) wr 5 1 t9 (n - tw) (bvs (List.replicate (n - tw) ch)) ∧ Tch (New w1) w1 wr
/-- The loop that pads with tabs. -/
def PtRel (w1 : World) (tb tw st : Nat) (t9 t12 : Value) (wr : World) : Prop :=
  ∃ a k : Nat, tw ≤ a ∧ (a ≤ st ∨ a = tw) ∧ k ≤ a - tw ∧ t12 = .int .i64 a ∧ k + (st - a + tb - 1) / tb = (st - tw + tb - 1) / tb ∧ Own (New w1) wr 5 1 t9 k (bvs (List.replicate k 9)) ∧ Tch (New w1) w1 wr

theorem tab_step {tb a S : Nat} (ht : 0 < tb) (h : a < S * tb) : a + (tb - a % tb) ≤ S * tb ∧ (S * tb - a + tb - 1) / tb = 1 + (S * tb - (a + (tb - a % tb)) + tb - 1) / tb := by
  have hm := Nat.mod_lt a ht
  have hd := Nat.div_add_mod a tb
  obtain ⟨q, hq⟩ : ∃ q, q = a / tb := ⟨_, rfl⟩
  obtain ⟨r, hr⟩ : ∃ r, r = a % tb := ⟨_, rfl⟩
  rw [← hq, ← hr] at hd
  rw [← hr] at hm ⊢
  have hqS : q < S := by
    have h1 : tb * q < tb * S := by rw [Nat.mul_comm tb S]; omega
    exact Nat.lt_of_mul_lt_mul_left h1
  obtain ⟨d, rfl⟩ : ∃ d, S = q + 1 + d := ⟨S - q - 1, by omega⟩
  have e1 : (q + 1 + d) * tb = tb * q + tb + d * tb := by rw [Nat.add_mul, Nat.add_mul, Nat.one_mul, Nat.mul_comm q tb]
  refine ⟨by omega, ?_⟩
  have e2 : (q + 1 + d) * tb - a + tb - 1 = (tb - 1 - r) + (1 + d) * tb := by
    have e4 : (1 + d) * tb = tb + d * tb := by rw [Nat.add_mul, Nat.one_mul]
    omega
  have e3 : (q + 1 + d) * tb - (a + (tb - r)) + tb - 1 = (tb - 1) + d * tb := by omega
  rw [e2, e3, Nat.add_mul_div_right _ _ ht, Nat.add_mul_div_right _ _ ht, Nat.div_eq_of_lt (by omega : tb - 1 - r < tb), Nat.div_eq_of_lt (by omega : tb - 1 < tb)]
  omega

set_option maxHeartbeats 4000000 in
theorem padding_calls (w : World) (m t p f : Nat) (ch : UInt8) (tw cl : Nat) (ut : Bool) (htw : tw ≤ 1000000000000) (hcl : cl ≤ 1000000000000) (ht : t ≤ 1000) :
    Calls Tryd.prog 31 #[.agg #[.int .i64 m, .int .i64 t, .int .i64 p, .int .u8 ch.toNat, .int .i64 f], .int .i64 tw, .int .i64 cl, .bool ut] w (RdNew w (padB (cfgOf m t p f ch) tw cl ut)) := by
  obtain ⟨w1, hw1⟩ : ∃ w1, w1 = w.alloc (.cells #[.int .i64 m, .int .i64 t, .int .i64 p, .int .u8 ch.toNat, .int .i64 f] 23) := ⟨_, rfl⟩
  have hb0 : Below w.heap.size w w1 := hw1 ▸ (Below.refl _ w).alloc (Nat.le_refl _) _
  have hc0 : w1.heap[w.heap.size]? = some (.cells #[.int .i64 m, .int .i64 t, .int .i64 p, .int .u8 ch.toNat, .int .i64 f] 23 (0, 0)) := hw1 ▸ heap_alloc_new w _
  obtain ⟨d0, d1, d2, d3, d4⟩ := conf_at hc0
  have hcell : ∀ w', Tch (New w1) w1 w' → w'.cell? ⟨w.heap.size, 1, none⟩ = some (.int .i64 t) ∧ w'.cell? ⟨w.heap.size, 3, none⟩ = some (.int .u8 ch.toNat) := fun w' h => by
    have hlt := lt_of_heap hc0
    exact ⟨h.cell d1 (by unfold New; simpa using hlt), h.cell d3 (by unfold New; simpa using hlt)⟩
  have hend : ∀ w', Tch (New w1) w1 w' → Below w.heap.size w w' := fun w' h => hb0.trans ((New.below h).mono hb0.size)
  have e9 := u8_eq (b := ch) (c := 9) (n := 9) rfl
  have HCELL := Lib.hid hcell
  have HEND := Lib.hid hend
  have hpad : padB (cfgOf m t p f ch) tw cl ut = if ch = 9 ∨ ut = true then (if t = 0 then [] else List.replicate (((cl + t - 1) / t * t - tw + t - 1) / t) 9) else List.replicate (cl - tw) ch := rfl
  rw [hpad]
  clear hpad hc0 hcell hend hb0
  by_cases hch : ch = 9 ∨ ut = true
  · rw [if_pos hch]
    by_cases hz : t = 0
    · subst hz
      rw [if_pos rfl]
      have T0 := Lib.hid (Tch.refl (New w1) w1)
      rw [hw1] at d0 d1 d2 d3 d4 HCELL HEND T0
      have hne : ch ≠ 9 → ut = true := fun h => by rcases hch with h1 | h1; exact absurd h1 h; exact h1
      clear hw1 hch
      by_cases h9 : ch = 9
      · subst h9
        clear hne e9
        cases ut
        all_goals
          go_enter Tryd.func31, Tryd.ntmps31
          go_wp2_with fail
          go_ret
          exact ⟨_, rfl, Rd.nil _, HEND.out _ T0.out, fun g hg => by simp [Value.ownBlock] at hg⟩
      · have hu := hne h9
        subst hu
        have h9' : ((ch.toNat : Int) != 9) = true := by rw [bne, e9, decide_eq_false h9]; rfl
        rw [decide_eq_false h9] at e9
        clear hne h9
        go_enter Tryd.func31, Tryd.ntmps31
        go_wp2_with fail
        go_ret
        exact ⟨_, rfl, Rd.nil _, HEND.out _ T0.out, fun g hg => by simp [Value.ownBlock] at hg⟩
    · rw [if_neg hz]
      have ht1 : 1 ≤ t := by omega
      have hN1 : cl ≤ (cl + t - 1) / t * t ∧ (cl + t - 1) / t * t ≤ cl + t - 1 := by
        have h1 := Nat.div_add_mod (cl + t - 1) t
        have h2 := Nat.mod_lt (cl + t - 1) (show t > 0 by omega)
        rw [Nat.mul_comm] at h1
        omega
      obtain ⟨S, hS⟩ : ∃ S, S = (cl + t - 1) / t := ⟨_, rfl⟩
      obtain ⟨N1, hq⟩ : ∃ N1, N1 = S * t := ⟨_, rfl⟩
      rw [← hS, ← hq] at hN1 ⊢
      have q1 : IntKind.i64.wrap ((cl : Int) + (t : Int)) = (cl : Int) + (t : Int) := IntWalk.i64_in _ (by omega)
      have q2 : IntKind.i64.wrap ((cl : Int) + (t : Int) - 1) = (cl : Int) + (t : Int) - 1 := IntWalk.i64_in _ (by omega)
      have q3 : ((cl : Int) + (t : Int) - 1).tdiv (t : Int) = (S : Int) := by
        rw [Int.tdiv_eq_ediv_of_nonneg (by omega), hS]; push_cast
        rw [show ((cl + t - 1 : Nat) : Int) = (cl : Int) + (t : Int) - 1 by omega]
      have hSle : S ≤ cl + t - 1 := by rw [hS]; exact Nat.div_le_self _ _
      have q4 : IntKind.i64.wrap (S : Int) = (S : Int) := IntWalk.i64_in _ (by omega)
      have q5 : (S : Int) * (t : Int) = (N1 : Int) := by rw [hq]; push_cast; rfl
      have q6 : IntKind.i64.wrap (N1 : Int) = (N1 : Int) := IntWalk.i64_in _ (by omega)
      have q7 : ((t : Int) == 0) = false := by rw [beq_eq_false_iff_ne]; omega
      have hqi : ((cl : Int) + (t : Int) - 1) / (t : Int) * (t : Int) = (N1 : Int) := by
        rw [← q5, ← q3, Int.tdiv_eq_ediv_of_nonneg (by omega)]
      have HS := Lib.hid hq
      rw [hw1] at d0 d1 d2 d3 d4 HCELL HEND
      have hne : ch ≠ 9 → ut = true := fun h => by rcases hch with h1 | h1; exact absurd h1 h; exact h1
      clear hw1 hch hS hq hz
      by_cases h9 : ch = 9
      · subst h9
        clear hne e9
        cases ut
        all_goals
          go_enter Tryd.func31, Tryd.ntmps31
          go_wp2_with fail
          go_quiet (fail)
          go_wp2_with fail
          go_loopw [9, 12] (fun t9 t12 wr => PtRel (w.alloc (.cells #[.int .i64 m, .int .i64 t, .int .i64 p, .int .u8 (9 : UInt8).toNat, .int .i64 f] 23)) t tw N1 t9 t12 wr) (fun _ t12 _ => N1 - (intOf t12).toNat)
          case atStart => exact ⟨tw, 0, Nat.le_refl _, .inr rfl, Nat.zero_le _, rfl, by rw [Nat.zero_add], Own.nil _ _ _ _, Tch.drewN _ _ _⟩
          case round =>
            clear hqi
            obtain ⟨a, k, h1, h2, h3, rfl, h4, hown, tt⟩ := hrel
            have T := Lib.hid tt
            have H4 := Lib.hid h4
            have HO := Lib.hid hown
            by_cases hlt : a < N1
            · obtain ⟨v', w', hrun, ho, ht2, -, -⟩ := run_append_one (fun k hk => Nat.le_trans tt.size hk) hown 9 (by omega) 26
              have T2 := Lib.hid (tt.trans ht2)
              have HRUN := Lib.hid (show (Builtin.append_ #[26, 26] 26 #[_, .slice (some ⟨wr.heap.size, 0, none⟩) 1 1]).run Tryd.prog (wr.alloc (.cells #[.int .u8 9] 5)) = .ok v' w' from hrun)
              have HO2 := Lib.hid ho
              have c1 := (HCELL.out _ T2.out).1
              obtain ⟨r, hr⟩ : ∃ r, r = a % t := ⟨_, rfl⟩
              have hrt : r < t := by rw [hr]; exact Nat.mod_lt _ (by omega)
              have b1 : (a : Int).tmod (t : Int) = (r : Int) := by rw [Int.tmod_eq_emod_of_nonneg (by omega), hr]; rfl
              have hst := tab_step (tb := t) (a := a) (S := S) (by omega) (by rw [← HS.out]; exact hlt)
              rw [← HS.out, ← hr] at hst
              have HST := Lib.hid hst
              have b2 : IntKind.i64.wrap (r : Int) = (r : Int) := IntWalk.i64_in _ (by omega)
              have b3 : IntKind.i64.wrap ((t : Int) - (r : Int)) = (t : Int) - (r : Int) := IntWalk.i64_in _ (by omega)
              have b4 : IntKind.i64.wrap ((a : Int) + ((t : Int) - (r : Int))) = (a : Int) + ((t : Int) - (r : Int)) := IntWalk.i64_in _ (by omega)
              have b5 : ¬ t = 0 := by omega
              clear hr hrun ho ht2 tt h4 hown hst
              go_wp2_with (at_builtin; refine wpList_append_eq rfl (.tmp 60) (.tmp 61) 26 rfl rfl rfl HRUN.out ?_)
              go_quiet (fail)
              go_wp2_with fail
              go_roundw
              case rel =>
                have h5 := HST.out
                have h6 := H4.out
                have R : ∀ x, x = Value.int .i64 ((a : Int) + ((t : Int) - (r : Int))) → PtRel (w.alloc (.cells #[.int .i64 m, .int .i64 t, .int .i64 p, .int .u8 (9 : UInt8).toNat, .int .i64 f] 23)) t tw N1 v' x (w'.drewN nq) := by
                  intro x hx
                  refine ⟨a + (t - r), k + 1, by omega, .inl h5.1, by omega, by rw [hx]; go_num, by omega, ?_, T2.out.trans (Tch.drewN _ _ _)⟩
                  have := HO2.out.kept (Tch.drewN (fun _ => False) w' nq) (fun _ _ => id)
                  rw [show bvs (List.replicate k 9) ++ [bv 9] = bvs (List.replicate (k + 1) 9) by rw [List.replicate_succ', bvs_append]; rfl] at this
                  exact this
                first | exact R _ rfl | ((repeat apply Exists.intro); exact ⟨R _ rfl, rfl⟩)
              case measure => simp [intOf]; omega
            · clear h4 hown tt
              go_wp2_with fail
              go_ret
              refine ⟨_, rfl, ?_, HEND.out _ T.out, fun g hg => by have := HO.out.mem g hg; unfold New at this; simp at this; omega⟩
              have hk : k = (N1 - tw + t - 1) / t := by
                have h6 := H4.out
                rw [show N1 - a + t - 1 = t - 1 by omega, Nat.div_eq_of_lt (by omega : t - 1 < t)] at h6
                exact h6
              rw [← hk]
              exact Own.rd HO.out
      · have hu := hne h9
        subst hu
        have h9' : ((ch.toNat : Int) != 9) = true := by rw [bne, e9, decide_eq_false h9]; rfl
        rw [decide_eq_false h9] at e9
        clear hne h9
        go_enter Tryd.func31, Tryd.ntmps31
        go_wp2_with fail
        go_quiet (fail)
        go_wp2_with fail
        go_loopw [9, 12] (fun t9 t12 wr => PtRel (w.alloc (.cells #[.int .i64 m, .int .i64 t, .int .i64 p, .int .u8 ch.toNat, .int .i64 f] 23)) t tw N1 t9 t12 wr) (fun _ t12 _ => N1 - (intOf t12).toNat)
        case atStart => exact ⟨tw, 0, Nat.le_refl _, .inr rfl, Nat.zero_le _, rfl, by rw [Nat.zero_add], Own.nil _ _ _ _, Tch.drewN _ _ _⟩
        case round =>
          clear hqi
          obtain ⟨a, k, h1, h2, h3, rfl, h4, hown, tt⟩ := hrel
          have T := Lib.hid tt
          have H4 := Lib.hid h4
          have HO := Lib.hid hown
          by_cases hlt : a < N1
          · obtain ⟨v', w', hrun, ho, ht2, -, -⟩ := run_append_one (fun k hk => Nat.le_trans tt.size hk) hown 9 (by omega) 26
            have T2 := Lib.hid (tt.trans ht2)
            have HRUN := Lib.hid (show (Builtin.append_ #[26, 26] 26 #[_, .slice (some ⟨wr.heap.size, 0, none⟩) 1 1]).run Tryd.prog (wr.alloc (.cells #[.int .u8 9] 5)) = .ok v' w' from hrun)
            have HO2 := Lib.hid ho
            have c1 := (HCELL.out _ T2.out).1
            obtain ⟨r, hr⟩ : ∃ r, r = a % t := ⟨_, rfl⟩
            have hrt : r < t := by rw [hr]; exact Nat.mod_lt _ (by omega)
            have b1 : (a : Int).tmod (t : Int) = (r : Int) := by rw [Int.tmod_eq_emod_of_nonneg (by omega), hr]; rfl
            have hst := tab_step (tb := t) (a := a) (S := S) (by omega) (by rw [← HS.out]; exact hlt)
            rw [← HS.out, ← hr] at hst
            have HST := Lib.hid hst
            have b2 : IntKind.i64.wrap (r : Int) = (r : Int) := IntWalk.i64_in _ (by omega)
            have b3 : IntKind.i64.wrap ((t : Int) - (r : Int)) = (t : Int) - (r : Int) := IntWalk.i64_in _ (by omega)
            have b4 : IntKind.i64.wrap ((a : Int) + ((t : Int) - (r : Int))) = (a : Int) + ((t : Int) - (r : Int)) := IntWalk.i64_in _ (by omega)
            have b5 : ¬ t = 0 := by omega
            clear hr hrun ho ht2 tt h4 hown hst
            go_wp2_with (at_builtin; refine wpList_append_eq rfl (.tmp 60) (.tmp 61) 26 rfl rfl rfl HRUN.out ?_)
            go_quiet (fail)
            go_wp2_with fail
            go_roundw
            case rel =>
              have h5 := HST.out
              have h6 := H4.out
              have R : ∀ x, x = Value.int .i64 ((a : Int) + ((t : Int) - (r : Int))) → PtRel (w.alloc (.cells #[.int .i64 m, .int .i64 t, .int .i64 p, .int .u8 ch.toNat, .int .i64 f] 23)) t tw N1 v' x (w'.drewN nq) := by
                intro x hx
                refine ⟨a + (t - r), k + 1, by omega, .inl h5.1, by omega, by rw [hx]; go_num, by omega, ?_, T2.out.trans (Tch.drewN _ _ _)⟩
                have := HO2.out.kept (Tch.drewN (fun _ => False) w' nq) (fun _ _ => id)
                rw [show bvs (List.replicate k 9) ++ [bv 9] = bvs (List.replicate (k + 1) 9) by rw [List.replicate_succ', bvs_append]; rfl] at this
                exact this
              first | exact R _ rfl | ((repeat apply Exists.intro); exact ⟨R _ rfl, rfl⟩)
            case measure => simp [intOf]; omega
          · clear h4 hown tt
            go_wp2_with fail
            go_ret
            refine ⟨_, rfl, ?_, HEND.out _ T.out, fun g hg => by have := HO.out.mem g hg; unfold New at this; simp at this; omega⟩
            have hk : k = (N1 - tw + t - 1) / t := by
              have h6 := H4.out
              rw [show N1 - a + t - 1 = t - 1 by omega, Nat.div_eq_of_lt (by omega : t - 1 < t)] at h6
              exact h6
            rw [← hk]
            exact Own.rd HO.out
  · rw [if_neg hch]
    have h9 : ch ≠ 9 := fun h => hch (.inl h)
    have hu : ut = false := by cases ut; rfl; exact absurd (.inr rfl) hch
    subst hu
    have h9' : ((ch.toNat : Int) != 9) = true := by rw [bne, e9, decide_eq_false h9]; rfl
    rw [decide_eq_false h9] at e9
    rw [hw1] at d0 d1 d2 d3 d4 HCELL HEND
    clear hw1 hch h9
    go_enter Tryd.func31, Tryd.ntmps31
    go_wp2_with fail
    go_loopw [9, 10] (fun t9 t10 wr => PdRel (w.alloc (.cells #[.int .i64 m, .int .i64 t, .int .i64 p, .int .u8 ch.toNat, .int .i64 f] 23)) ch tw cl t9 t10 wr) (fun _ t10 _ => cl - (intOf t10).toNat)
    case atStart => exact ⟨tw, Nat.le_refl _, .inr rfl, rfl, by rw [Nat.sub_self]; exact Own.nil _ _ _ _, Tch.refl _ _⟩
    case round =>
      obtain ⟨n, h1, h2, rfl, hown, tt⟩ := hrel
      have T := Lib.hid tt
      have HO := Lib.hid hown
      have c3 := (HCELL.out _ tt).2
      by_cases hlt : n < cl
      · obtain ⟨v', w', hrun, ho, ht2, -, -⟩ := run_append_one (fun k hk => Nat.le_trans tt.size hk) hown ch (by omega) 26
        have T2 := Lib.hid (tt.trans ht2)
        have HRUN := Lib.hid hrun
        have HO2 := Lib.hid ho
        clear hrun ho ht2 tt hown
        go_wp2_with (at_builtin; refine wpList_append_eq rfl (.tmp 26) (.tmp 29) 26 rfl rfl rfl HRUN.out ?_)
        go_roundw
        case rel =>
          refine ⟨n + 1, by omega, .inl hlt, by go_num, ?_, T2.out⟩
          have := HO2.out
          rw [show bvs (List.replicate (n - tw) ch) ++ [bv ch] = bvs (List.replicate (n + 1 - tw) ch) by rw [show n + 1 - tw = (n - tw) + 1 by omega, List.replicate_succ', bvs_append]; rfl, show n - tw + 1 = n + 1 - tw by omega] at this
          exact this
        case measure => simp [intOf]; omega
      · clear hown tt
        go_wp2_with fail
        go_ret
        refine ⟨_, rfl, ?_, HEND.out _ T.out, fun g hg => by have := HO.out.mem g hg; unfold New at this; simp at this; omega⟩
        have hk : n - tw = cl - tw := by omega
        rw [← hk]
        exact Own.rd HO.out
end Go.Proofs.YteildpeogbenbaaDoor
