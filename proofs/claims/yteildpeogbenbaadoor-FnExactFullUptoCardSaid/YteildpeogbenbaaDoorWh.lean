/- Walks: tabs, vbar, newline, hbar, writePadding. -/
import Derived.Test.YteildpeogbenbaaDoorWg
import Derived.Lib.SlBytesConst
namespace Go.Proofs.YteildpeogbenbaaDoor
open Go.RowKit Go.Tw Go.Sort
set_option maxRecDepth 100000
section
variable {F G : Nat → Prop} {w : World} {B S : Nat} {c : Cfg} {s : St} {ht : Bool} {bufv lv wv ov : Value} {vs : List Value}

theorem tabs_calls (w : World) : Calls Tryd.prog 58 #[] w fun e w' => e = .returned (.slice (some ⟨w.heap.size, 0, none⟩) 8 8) ∧ w' = w.alloc (.cells #[.int .u8 9, .int .u8 9, .int .u8 9, .int .u8 9, .int .u8 9, .int .u8 9, .int .u8 9, .int .u8 9] 5 (8, 9)) := by
  have kc := fun (w : World) (C : Array Value) (n c : Nat) => Lib.run_convert_bytes_const (P := Tryd.prog) w 26 5 C n c Tryd.underlying26 Tryd.underlying5
  go_enter Tryd.func58, Tryd.ntmps58
  go_wp2
  go_ret
  exact ⟨rfl, rfl⟩
theorem vbar_calls (w : World) : Calls Tryd.prog 54 #[] w fun e w' => e = .returned (.slice (some ⟨w.heap.size, 0, none⟩) 1 1) ∧ w' = w.alloc (.cells #[.int .u8 124] 5) := by
  go_enter Tryd.func54, Tryd.ntmps54
  go_wp2
  go_ret
  exact ⟨rfl, rfl⟩
theorem newline_calls (w : World) : Calls Tryd.prog 56 #[] w fun e w' => e = .returned (.slice (some ⟨w.heap.size, 0, none⟩) 1 1) ∧ w' = w.alloc (.cells #[.int .u8 10] 5) := by
  go_enter Tryd.func56, Tryd.ntmps56
  go_wp2
  go_ret
  exact ⟨rfl, rfl⟩
theorem hbar_calls (w : World) : Calls Tryd.prog 40 #[] w fun e w' => e = .returned (.slice (some ⟨w.heap.size, 0, none⟩) 4 4) ∧ w' = w.alloc (.cells #[.int .u8 45, .int .u8 45, .int .u8 45, .int .u8 10] 5 (4, 5)) := by
  have kc := fun (w : World) (C : Array Value) (n c : Nat) => Lib.run_convert_bytes_const (P := Tryd.prog) w 26 5 C n c Tryd.underlying26 Tryd.underlying5
  go_enter Tryd.func40, Tryd.ntmps40
  go_wp2
  go_ret
  exact ⟨rfl, rfl⟩

/-- A new block of bytes, read. -/
theorem Rd.fresh (w : World) (l : List UInt8) (n : Nat) (fr : Nat × Nat) (hn : n = l.length) (hl : l.length ≤ maxLen) : Rd (w.alloc (.cells (bvs l).toArray 5 fr)) (.slice (some ⟨w.heap.size, 0, none⟩) n n) l := by
  subst hn
  refine Rd.mk' (Nat.le_refl _) hl fun j hj => ?_
  have := heap_alloc_new w (.cells (bvs l).toArray 5 fr)
  simp only [World.cell?, this, Nat.zero_add]
  simpa using bvs_get l j hj

/-- The padding of a text of width tw in a cell of width cl. -/
def padB (c : Cfg) (tw cl : Nat) (ut : Bool) : List UInt8 :=
  if c.ch = 9 ∨ ut = true then (if c.tb = 0 then [] else List.replicate (((cl + c.tb - 1) / c.tb * c.tb - tw + c.tb - 1) / c.tb) 9) else List.replicate (cl - tw) c.ch

/-- writeN over a new block of tabs. -/
theorem writeFresh (hF : Env F w) (hrp : RepAt F w B S c s ht bufv lv wv ov vs) (hG : OutG G w S ov) (n : Nat) (hb : s.out.length + n ≤ 140737488355328) :
    Calls Tryd.prog 57 #[.pointer (some ⟨B, 0, none⟩), .slice (some ⟨w.heap.size, 0, none⟩) 8 8, .int .i64 n] (w.alloc (.cells #[.int .u8 9, .int .u8 9, .int .u8 9, .int .u8 9, .int .u8 9, .int .u8 9, .int .u8 9, .int .u8 9] 5 (8, 9))).drew fun e w' => (e = .returned (.tuple #[]) ∧ Wrote F G w B S c s ht bufv lv wv vs (List.replicate n 9) w') ∨ Stop F G w B S c (s.out ++ List.replicate n 9) e w' := by
  have hrd := (Rd.fresh w (List.replicate 8 9) 8 (8, 9) rfl (by simp [maxLen])).drew
  have ta : Tch (fun _ => False) w (w.alloc (.cells #[.int .u8 9, .int .u8 9, .int .u8 9, .int .u8 9, .int .u8 9, .int .u8 9, .int .u8 9, .int .u8 9] 5 (8, 9))).drew := (Tch.alloc _ _ _).trans (Tch.drew _ _)
  have hr2 := hrp.kept ta (fun _ _ _ => id)
  have hG2 : OutG (fun k => G k ∧ k ≠ w.heap.size) (w.alloc (.cells #[.int .u8 9, .int .u8 9, .int .u8 9, .int .u8 9, .int .u8 9, .int .u8 9, .int .u8 9, .int .u8 9] 5 (8, 9))).drew S ov :=
    ⟨⟨hG.sink, by have := lt_of_heap hrp.parts.sink; omega⟩, fun g hg => ⟨hG.row g hg, by have := hrp.parts.out.lt hg; omega⟩, fun k hk => by simp at hk; exact ⟨hG.new k (by omega), by omega⟩, fun h => hG.err h.1⟩
  refine (writeN_calls (hF.step ta id) hr2 hG2 hrd (fun g hg => by simp [Value.ownBlock] at hg; subst hg; simp) n hb).mono ?_
  rintro e w' (⟨he, ov', h1, h2, h3⟩ | hE)
  · exact .inl ⟨he, ov', h1, (ta.mono (fun _ h => h.elim)).trans (h2.mono (fun k h => h.1)), ⟨h3.sink.1, fun g hg => (h3.row g hg).1, fun k hk => (h3.new k hk).1, hG.err⟩⟩
  · exact .inr (hE.up (ta.mono (fun _ h => h.elim)) (fun _ _ h => h.1) [] (by simp))

set_option maxHeartbeats 1000000 in
theorem writePadding_calls (hF : Env F w) (hrp : RepAt F w B S c s ht bufv lv wv ov vs) (hG : OutG G w S ov) (hGB : ¬ G B) (tw cl : Nat) (ut : Bool) (hle : tw ≤ cl) (hcl : cl ≤ 1000000000000) (htb : c.tb ≤ 1000000) (hb : s.out.length + cl + 3000000 ≤ 140737488355328) :
    Calls Tryd.prog 55 #[.pointer (some ⟨B, 0, none⟩), .int .i64 tw, .int .i64 cl, .bool ut] w fun e w' => (e = .returned (.tuple #[]) ∧ Wrote F G w B S c s ht bufv lv wv vs (padB c tw cl ut) w') ∨ Stop F G w B S c (s.out ++ padB c tw cl ut) e w' := by
  have c4 : w.cell? ⟨B, 4, none⟩ = some (.int .u8 c.ch.toNat) := cell_of_blk hrp.blk 4
  have c2 : w.cell? ⟨B, 2, none⟩ = some (.int .i64 c.tb) := cell_of_blk hrp.blk 2
  by_cases htabs : c.ch = 9 ∨ ut = true
  · by_cases hz : c.tb = 0
    · have hpad : padB c tw cl ut = [] := by simp [padB, htabs, hz]
      rw [hpad]
      have HW : Hid (Wrote F G w B S c s ht bufv lv wv vs [] w) := ⟨ov, by simpa using hrp, Tch.refl _ _, hG⟩
      have c2' : w.cell? ⟨B, 2, none⟩ = some (.int .i64 0) := by rw [c2, hz]; rfl
      clear hpad hrp hG hF hz c2
      by_cases hch : c.ch = 9
      · have c4' : w.cell? ⟨B, 4, none⟩ = some (.int .u8 9) := by rw [c4, hch]; rfl
        clear c4 hch htabs
        go_enter Tryd.func55, Tryd.ntmps55
        go_wp2
        refine bodyPost_ret (results_none rfl _ _ _) rfl ?_
        exact .inl ⟨rfl, HW.out⟩
      · have hut : ut = true := by rcases htabs with h | h <;> simp_all
        subst hut
        have hch2 : ((c.ch.toNat : Int) == 9) = false := by
          rw [beq_eq_false_iff_ne]
          intro e
          exact hch (UInt8.toNat_inj.1 (by have : c.ch.toNat = 9 := by omega
                                           simpa using this))
        clear hch htabs
        go_enter Tryd.func55, Tryd.ntmps55
        go_wp2
        refine bodyPost_ret (results_none rfl _ _ _) rfl ?_
        exact .inl ⟨rfl, HW.out⟩
    · have htb1 : 1 ≤ c.tb := by omega
      have hN1 : cl ≤ (cl + c.tb - 1) / c.tb * c.tb ∧ (cl + c.tb - 1) / c.tb * c.tb ≤ cl + c.tb - 1 := by
        have h1 := Nat.div_add_mod (cl + c.tb - 1) c.tb
        have h2 := Nat.mod_lt (cl + c.tb - 1) (show c.tb > 0 by omega)
        rw [Nat.mul_comm] at h1
        omega
      have hpad : padB c tw cl ut = List.replicate (((cl + c.tb - 1) / c.tb * c.tb - tw + c.tb - 1) / c.tb) 9 := by simp [padB, htabs, hz]
      rw [hpad]
      obtain ⟨N1, hq⟩ : ∃ N1, N1 = (cl + c.tb - 1) / c.tb * c.tb := ⟨_, rfl⟩
      rw [← hq] at hN1 hpad ⊢
      have hqi : ((cl : Int) + (c.tb : Int) - 1) / (c.tb : Int) * (c.tb : Int) = (N1 : Int) := by
        rw [hq]; push_cast
        rw [show ((cl + c.tb - 1 : Nat) : Int) = (cl : Int) + (c.tb : Int) - 1 by omega]
      have hz' : ((c.tb : Int) == 0) = false := by rw [beq_eq_false_iff_ne]; omega
      obtain ⟨M, hM⟩ : ∃ M, M = (N1 - tw + c.tb - 1) / c.tb := ⟨_, rfl⟩
      have hMi : ((N1 : Int) - (tw : Int) + (c.tb : Int) - 1) / (c.tb : Int) = (M : Int) := by
        rw [hM]; push_cast
        rw [show ((N1 - tw + c.tb - 1 : Nat) : Int) = (N1 : Int) - (tw : Int) + (c.tb : Int) - 1 by omega]
      have hMle : M ≤ N1 - tw + c.tb - 1 := by rw [hM]; exact Nat.div_le_self _ _
      rw [← hM]
      have hbM : s.out.length + M ≤ 140737488355328 := by omega
      have HMI := Lib.hid hMi
      clear hM hMi
      have HRP := Lib.hid hrp
      have HG := Lib.hid hG
      have HF := Lib.hid hF
      clear hpad hq hrp hG hF hz
      by_cases hch : c.ch = 9
      · have c4' : w.cell? ⟨B, 4, none⟩ = some (.int .u8 9) := by rw [c4, hch]; rfl
        clear c4 hch htabs
        go_enter Tryd.func55, Tryd.ntmps55
        go_wp2_with fail
        go_quiet (fail)
        go_wp2_with fail
        have HRP1 := Lib.hid (HRP.out.kept (Tch.drewN (fun _ => False) w nq) (fun _ _ _ => id))
        have T1 := Lib.hid (Tch.drewN G w nq)
        have d2 : (w.drewN nq).cell? ⟨B, 2, none⟩ = some (.int .i64 c.tb) := c2
        have HG1 : Hid (OutG G (w.drewN nq) S ov) := ⟨HG.out.sink, HG.out.row, HG.out.new, HG.out.err⟩
        have HF1 : Hid (Env F (w.drewN nq)) := HF.out.step (Tch.drewN (fun _ => False) w nq) id
        have hBlt := lt_of_heap HRP1.out.blk
        revert HRP1 T1 d2 HG1 HF1 hBlt
        generalize w.drewN nq = w1
        intro HRP1 T1 d2 HG1 HF1 hBlt
        have d2' : ∀ o, (w1.alloc o).cell? ⟨B, 2, none⟩ = some (.int .i64 c.tb) := fun o => by rw [World.cell?_alloc_past _ _ _ hBlt]; exact d2
        have a1 : IntKind.i64.wrap ((N1 : Int) - (tw : Int) + (c.tb : Int)) = (N1 : Int) - (tw : Int) + (c.tb : Int) := IntWalk.i64_in _ (by omega)
        have a2 : IntKind.i64.wrap ((N1 : Int) - (tw : Int) + (c.tb : Int) - 1) = (N1 : Int) - (tw : Int) + (c.tb : Int) - 1 := IntWalk.i64_in _ (by omega)
        have a3 : ((N1 : Int) - (tw : Int) + (c.tb : Int) - 1).tdiv (c.tb : Int) = (M : Int) := by rw [Int.tdiv_eq_ediv_of_nonneg (by omega), HMI.out]
        have a4 : IntKind.i64.wrap (M : Int) = (M : Int) := IntWalk.i64_in _ (by omega)
        have a5 : ¬ c.tb = 0 := by omega
        clear hqi c2 c4' HMI
        refine wp_region_rf (fun w' => w' = w1.drew ∨ w' = (w1.alloc (.cells #[.int .u8 9, .int .u8 9, .int .u8 9, .int .u8 9, .int .u8 9, .int .u8 9, .int .u8 9, .int .u8 9] 5 (8, 9))).drew) [0, 2, 3, 4, 5, 6, 7, 8, 9, 10, 11, 12, 13] [1, 14] 1 [_, _, _, _, _, _, _, _, _, _, _, _, _] [_, _] (by kernel_rfl) (by kernel_rfl) rfl rfl (fun _ _ d _ _ h => by cases d <;> exact h) (.inl rfl) ?_
        iterate 13 (refine wpR_step rfl (fun K hK => ?_); go_simp; refine hK _ ?_; clear hK K)
        refine wpR_nil ?_
        refine wpE_step rfl (fun K hK => ?_)
        go_simp
        refine (tabs_calls w1.drew).mono ?_
        rintro e w2 ⟨rfl, rfl⟩
        refine hK _ _ (.inr rfl) ?_
        clear hK K
        refine wpE_zero ?_
        have HN := Lib.hid (stopUp (writeFresh HF1.out HRP1.out HG1.out M hbM) T1.out (fun _ _ => id) [] (List.append_nil _))
        clear d2 d2' a1 a2 a3 a4 a5
        change wpList _ _ _ _ _ (w1.alloc (.cells #[.int .u8 9, .int .u8 9, .int .u8 9, .int .u8 9, .int .u8 9, .int .u8 9, .int .u8 9, .int .u8 9] 5 (8, 9))).drew
        go_wp2_with (go_at_call 57; refine HN.out.mono ?_; rintro e w3 hE; rcases hE with ⟨rfl, hw⟩ | hE; rotate_left; (obtain ⟨ch, rfl⟩ := hE.panic; exact And.intro rfl (Or.inr hE)); have HW := Lib.hid hw; clear hw)
        refine bodyPost_ret (results_none rfl _ _ _) rfl ?_
        obtain ⟨ov3, hr3, t3, g3⟩ := HW.out
        exact .inl ⟨rfl, ov3, hr3, T1.out.trans t3, g3⟩
      · have hut : ut = true := by rcases htabs with h | h <;> simp_all
        subst hut
        have hch2 : ((c.ch.toNat : Int) == 9) = false := by
          rw [beq_eq_false_iff_ne]
          intro e
          exact hch (UInt8.toNat_inj.1 (by have : c.ch.toNat = 9 := by omega
                                           simpa using this))
        have c4' := c4
        clear c4 hch htabs
        go_enter Tryd.func55, Tryd.ntmps55
        go_wp2_with fail
        go_quiet (fail)
        go_wp2_with fail
        have HRP1 := Lib.hid (HRP.out.kept (Tch.drewN (fun _ => False) w nq) (fun _ _ _ => id))
        have T1 := Lib.hid (Tch.drewN G w nq)
        have d2 : (w.drewN nq).cell? ⟨B, 2, none⟩ = some (.int .i64 c.tb) := c2
        have HG1 : Hid (OutG G (w.drewN nq) S ov) := ⟨HG.out.sink, HG.out.row, HG.out.new, HG.out.err⟩
        have HF1 : Hid (Env F (w.drewN nq)) := HF.out.step (Tch.drewN (fun _ => False) w nq) id
        have hBlt := lt_of_heap HRP1.out.blk
        revert HRP1 T1 d2 HG1 HF1 hBlt
        generalize w.drewN nq = w1
        intro HRP1 T1 d2 HG1 HF1 hBlt
        have d2' : ∀ o, (w1.alloc o).cell? ⟨B, 2, none⟩ = some (.int .i64 c.tb) := fun o => by rw [World.cell?_alloc_past _ _ _ hBlt]; exact d2
        have a1 : IntKind.i64.wrap ((N1 : Int) - (tw : Int) + (c.tb : Int)) = (N1 : Int) - (tw : Int) + (c.tb : Int) := IntWalk.i64_in _ (by omega)
        have a2 : IntKind.i64.wrap ((N1 : Int) - (tw : Int) + (c.tb : Int) - 1) = (N1 : Int) - (tw : Int) + (c.tb : Int) - 1 := IntWalk.i64_in _ (by omega)
        have a3 : ((N1 : Int) - (tw : Int) + (c.tb : Int) - 1).tdiv (c.tb : Int) = (M : Int) := by rw [Int.tdiv_eq_ediv_of_nonneg (by omega), HMI.out]
        have a4 : IntKind.i64.wrap (M : Int) = (M : Int) := IntWalk.i64_in _ (by omega)
        have a5 : ¬ c.tb = 0 := by omega
        clear hqi c2 c4' HMI
        refine wp_region_rf (fun w' => w' = w1.drew ∨ w' = (w1.alloc (.cells #[.int .u8 9, .int .u8 9, .int .u8 9, .int .u8 9, .int .u8 9, .int .u8 9, .int .u8 9, .int .u8 9] 5 (8, 9))).drew) [0, 2, 3, 4, 5, 6, 7, 8, 9, 10, 11, 12, 13] [1, 14] 1 [_, _, _, _, _, _, _, _, _, _, _, _, _] [_, _] (by kernel_rfl) (by kernel_rfl) rfl rfl (fun _ _ d _ _ h => by cases d <;> exact h) (.inl rfl) ?_
        iterate 13 (refine wpR_step rfl (fun K hK => ?_); go_simp; refine hK _ ?_; clear hK K)
        refine wpR_nil ?_
        refine wpE_step rfl (fun K hK => ?_)
        go_simp
        refine (tabs_calls w1.drew).mono ?_
        rintro e w2 ⟨rfl, rfl⟩
        refine hK _ _ (.inr rfl) ?_
        clear hK K
        refine wpE_zero ?_
        have HN := Lib.hid (stopUp (writeFresh HF1.out HRP1.out HG1.out M hbM) T1.out (fun _ _ => id) [] (List.append_nil _))
        clear d2 d2' a1 a2 a3 a4 a5
        change wpList _ _ _ _ _ (w1.alloc (.cells #[.int .u8 9, .int .u8 9, .int .u8 9, .int .u8 9, .int .u8 9, .int .u8 9, .int .u8 9, .int .u8 9] 5 (8, 9))).drew
        go_wp2_with (go_at_call 57; refine HN.out.mono ?_; rintro e w3 hE; rcases hE with ⟨rfl, hw⟩ | hE; rotate_left; (obtain ⟨ch, rfl⟩ := hE.panic; exact And.intro rfl (Or.inr hE)); have HW := Lib.hid hw; clear hw)
        refine bodyPost_ret (results_none rfl _ _ _) rfl ?_
        obtain ⟨ov3, hr3, t3, g3⟩ := HW.out
        exact .inl ⟨rfl, ov3, hr3, T1.out.trans t3, g3⟩
  · -- by the character
    have hch : ¬ c.ch = 9 := fun h => htabs (.inl h)
    have hut : ut = false := by cases ut <;> simp_all
    subst hut
    have hch2 : ((c.ch.toNat : Int) == 9) = false := by
      rw [beq_eq_false_iff_ne]
      intro e
      exact hch (UInt8.toNat_inj.1 (by have : c.ch.toNat = 9 := by omega
                                       simpa using this))
    have hpad : padB c tw cl false = List.replicate (cl - tw) c.ch := by simp [padB, hch]
    rw [hpad]
    have hrd : Rd w (.slice (some ⟨B, 4, none⟩) 8 8) (List.replicate 8 c.ch) := by
      refine ⟨some ⟨B, 4, none⟩, 8, by simp, by simp, by unfold maxLen; omega, fun e => (by cases e), fun ad e => (by cases e; rfl), fun j hj => ⟨_, rfl, ?_⟩⟩
      rw [cell_of_blk hrp.blk]
      simp only [List.length_replicate] at hj
      rcases j with _ | _ | _ | _ | _ | _ | _ | _ | j <;> first | (simp [wcells]; done) | omega
    have HN := Lib.hid (writeN_calls hF hrp hG hrd (fun g hg => by simp [Value.ownBlock] at hg; subst hg; exact hGB) (cl - tw) (by omega))
    clear hrd hrp hpad htabs hF hG
    have hcast : ((cl : Int) - (tw : Int)) = ((cl - tw : Nat) : Int) := by omega
    go_enter Tryd.func55, Tryd.ntmps55
    go_wp2_with fail
    refine HN.out.mono ?_
    rintro e w1 hE
    rcases hE with ⟨rfl, hw⟩ | hE
    rotate_left
    · obtain ⟨ch, rfl⟩ := hE.panic
      exact And.intro rfl (Or.inr hE)
    have HW := Lib.hid hw
    clear hw
    go_wp2
    go_end0
    exact .inl ⟨rfl, HW.out⟩
end
end Go.Proofs.YteildpeogbenbaaDoor
