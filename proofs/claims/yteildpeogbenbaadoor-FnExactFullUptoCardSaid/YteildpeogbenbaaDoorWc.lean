/- Walks: terminateCell. -/
import Derived.Test.YteildpeogbenbaaDoorWb
namespace Go.Proofs.YteildpeogbenbaaDoor
open Go.RowKit Go.Tw Go.Sort
set_option maxRecDepth 100000
section
variable {F : Nat → Prop} {w : World} {B S : Nat} {c : Cfg} {s : St}

theorem Parts.drewN {bufv lv wv ov : Value} {vs : List Value} {room : Int} {bf ot : List UInt8} {ls : List (List PC)} {ws : List Nat} (h : Parts F w S room bf ls ws ot bufv lv wv ov vs) (n : Nat) : Parts F (w.drewN n) S room bf ls ws ot bufv lv wv ov vs :=
  h.keptOther (Tch.drewN (fun _ => False) w n) (fun _ e => e.elim)

/-- The last line's cell has been put there. -/
theorem Parts.lineGrown {w' : World} {bufv lv wv ov : Value} {vs : List Value} {room : Int} {bf ot : List UInt8} {ls : List (List PC)} {ws : List Nat} {l : List PC} {p : PC} {L : Nat} {v v' : Value} {n : Nat}
    (h : Parts F w S room bf (ls ++ [l]) ws ot bufv lv wv ov vs) (hL : lv.ownBlock = some L) (hv : vs[ls.length]? = some v) (hown : Own F w' 73 3 v' n (pcs l ++ PC.vals p)) (hn : n = l.length + 1) (hg : w.grownBy w' v.ownBlock) (hb : ∀ g, v'.ownBlock = some g → v.ownBlock = some g ∨ w.heap.size ≤ g) :
    Parts F (w'.setCell ⟨L, ls.length, none⟩ v') S room bf (ls ++ [l ++ [p]]) ws ot bufv lv wv ov (vs.set ls.length v') := by
  subst hn
  have t : Tch (fun k => v.ownBlock = some k) w w' := Tch.grown hg (fun k e => e)
  obtain ⟨n0, xs0, ho0, _⟩ := h.lines.row ls.length v hv
  have no : ∀ {k : Nat} {cs : Array Value} {T : TypeId} {fr : Nat × Nat}, w.heap[k]? = some (.cells cs T fr) → T ≠ 73 → ¬ (v.ownBlock = some k) := fun hk hT => ho0.ne hk hT
  have hLw := h.lines.blockL hL
  have hLw' : w'.heap[L]? = some (.cells vs.toArray 100 (0, 0)) := t.heap hLw.1 (no hLw.1 (by decide))
  have t2 : Tch (· = L) w' (w'.setCell ⟨L, ls.length, none⟩ v') := Tch.setCell (F := (· = L)) (a := ⟨L, ls.length, none⟩) w' rfl v'
  have no2 : ∀ {k : Nat} {cs : Array Value} {T : TypeId} {fr : Nat × Nat}, w'.heap[k]? = some (.cells cs T fr) → T ≠ 100 → ¬ (k = L) := by
    intro k cs T fr hk hT e
    subst e; rw [hLw'] at hk; simp at hk; exact hT hk.2.1.symm
  have keep : ∀ {e : TypeId} {size : Nat} {u : Value} {n : Nat} {xs : List Value}, Own F w' e size u n xs → e ≠ 100 → Own F (w'.setCell ⟨L, ls.length, none⟩ v') e size u n xs :=
    fun ho he => ho.kept t2 (fun g hg => no2 (ho.block hg).choose_spec he)
  have keep0 : ∀ {e : TypeId} {size : Nat} {u : Value} {n : Nat} {xs : List Value}, Own F w e size u n xs → e ≠ 100 → e ≠ 73 → Own F (w'.setCell ⟨L, ls.length, none⟩ v') e size u n xs :=
    fun ho he1 he2 => keep (ho.kept t (fun g hg => no (ho.block hg).choose_spec he2)) he1
  have hset := blk_set hLw' ls.length v'
  have hle : ls.length + 1 ≤ vs.length := by have := h.lines.le; simpa using this
  refine ⟨keep0 h.buf (by decide) (by decide), ⟨?_, ?_, ?_, ?_⟩, keep0 h.wds (by decide) (by decide), ?_, h.FS, keep0 h.out (by decide) (by decide), h.ne, h.fits⟩
  · rcases h.lines.val with ⟨rfl, _⟩ | ⟨L', rfl, hFL, hh, hm⟩
    · simp [Value.ownBlock] at hL
    · simp only [Value.ownBlock, Option.some.injEq] at hL
      subst hL
      exact .inr ⟨L', by simp, hFL, by rw [hset]; simp, by simpa using hm⟩
  · simpa using hle
  · intro i u hu
    by_cases hi : i = ls.length
    · subst hi
      have : u = v' := by rw [List.getElem?_set_self (by omega)] at hu; exact (Option.some.inj hu).symm
      subst this
      refine ⟨l.length + 1, _, keep hown (by decide), fun l' hl' => ?_⟩
      simp at hl'
      subst hl'
      simp [pcs]
    · rw [List.getElem?_set_ne (Ne.symm hi)] at hu
      obtain ⟨n1, xs1, ho1, hl1⟩ := h.lines.row i u hu
      have hne : ∀ g, u.ownBlock = some g → ¬ (v.ownBlock = some g) := by
        intro g hg hvg
        rcases Nat.lt_or_gt_of_ne hi with h1 | h1
        · rcases h.lines.ne i ls.length u v h1 hu hv with h2 | h2
          · rw [h2] at hg; cases hg
          · exact h2 (hg.trans hvg.symm)
        · rcases h.lines.ne ls.length i v u h1 hv hu with h2 | h2
          · rw [h2] at hvg; cases hvg
          · exact h2 (hvg.trans hg.symm)
      refine ⟨n1, xs1, keep (ho1.kept t hne) (by decide), fun l' hl' => hl1 l' ?_⟩
      rcases Nat.lt_or_gt_of_ne hi with h1 | h1
      · rw [List.getElem?_append_left h1] at hl' ⊢; exact hl'
      · rw [List.getElem?_append_right (by omega)] at hl'
        have : i - ls.length = (i - ls.length - 1) + 1 := by omega
        rw [this] at hl'; simp at hl'
  · intro i j u u' hij hu hu'
    have other : ∀ (k : Nat) (x : Value), k ≠ ls.length → vs[k]? = some x → v'.ownBlock = none ∨ x.ownBlock = none ∨ v'.ownBlock ≠ x.ownBlock := by
      intro k x hk hx
      cases hv' : v'.ownBlock with
      | none => exact .inl rfl
      | some g =>
        cases hxg : x.ownBlock with
        | none => exact .inr (.inl rfl)
        | some g2 =>
          refine .inr (.inr fun e => ?_)
          cases e
          obtain ⟨n1, xs1, ho1, _⟩ := h.lines.row k x hx
          rcases hb g hv' with h1 | h1
          · rcases Nat.lt_or_gt_of_ne hk with h2 | h2
            · rcases h.lines.ne k ls.length x v h2 hx hv with h3 | h3
              · rw [h3] at hxg; cases hxg
              · exact h3 (hxg.trans h1.symm)
            · rcases h.lines.ne ls.length k v x h2 hv hx with h3 | h3
              · rw [h3] at h1; cases h1
              · exact h3 (h1.trans hxg.symm)
          · have := ho1.lt hxg; omega
    by_cases hi : i = ls.length
    · subst hi
      rw [List.getElem?_set_self (by omega)] at hu
      cases hu
      rw [List.getElem?_set_ne (by omega)] at hu'
      rcases other j u' (by omega) hu' with h1 | h1 | h1
      · exact .inl h1
      · by_cases h2 : v'.ownBlock = none
        · exact .inl h2
        · exact .inr (by rw [h1]; exact h2)
      · exact .inr h1
    · rw [List.getElem?_set_ne (Ne.symm hi)] at hu
      by_cases hj : j = ls.length
      · subst hj
        rw [List.getElem?_set_self (by omega)] at hu'
        cases hu'
        rcases other i u hi hu with h1 | h1 | h1
        · by_cases h2 : u.ownBlock = none
          · exact .inl h2
          · exact .inr (by rw [h1]; exact h2)
        · exact .inl h1
        · exact .inr (Ne.symm h1)
      · rw [List.getElem?_set_ne (Ne.symm hj)] at hu'
        exact h.lines.ne i j u u' hij hu hu'
  · exact t2.heap (t.heap h.sink (no h.sink (by decide))) (no2 (t.heap h.sink (no h.sink (by decide))) (by decide))

set_option maxHeartbeats 1000000 in
theorem terminateCell_calls (hF : ∀ k, w.heap.size ≤ k → F k) (hrep : Rep F w B S c s) (ls : List (List PC)) (l : List PC) (hl : s.lines = ls ++ [l]) (hb1 : l.length + 1 ≤ 1000000000000) (hb2 : ls.length + 1 ≤ 1000000000000) (b : Bool) :
    Calls Tryd.prog 36 #[.pointer (some ⟨B, 0, none⟩), .bool b] w fun ed w' => ed = .returned (.int .i64 ((l.length : Int) + 1)) ∧ Rep F w' B S c { s with lines := ls ++ [l ++ [⟨s.csize, s.cw, b⟩]], csize := 0, cw := 0 } ∧ Tch F w w' := by
  obtain ⟨bufv, lv, wv, ov, vs, hrp⟩ := hrep
  obtain ⟨L, rfl, hFL, hLb, hLm⟩ : ∃ L, lv = .slice (some ⟨L, 0, none⟩) (ls.length + 1) vs.length ∧ F L ∧ w.heap[L]? = some (.cells vs.toArray 100 (0, 0)) ∧ vs.length ≤ maxLen := by
    rcases hrp.parts.lines.val with ⟨_, rfl⟩ | ⟨L, rfl, h1, h2, h3⟩
    · have := hrp.parts.lines.le; rw [hl] at this; simp at this
    · exact ⟨L, by rw [hl]; simp, h1, h2, h3⟩
  have hle : ls.length + 1 ≤ vs.length := by have := hrp.parts.lines.le; rw [hl] at this; simpa using this
  obtain ⟨v, hv⟩ : ∃ v, vs[ls.length]? = some v := ⟨vs[ls.length], by simp⟩
  have f17 := frozen_of_blk hrp.blk 17
  have c17 : w.cell? ⟨B, 17, none⟩ = some (.bool false) := cell_of_blk hrp.blk 17
  have e0 := blk_set hrp.blk 17 (.bool b)
  have hP0 := hrp.parts.setB hrp.blk 17 (.bool b)
  have hL0 : (w.setCell ⟨B, 17, none⟩ (.bool b)).heap[L]? = some (.cells vs.toArray 100 (0, 0)) := (hP0.lines.blockL rfl).1
  have ht0 : Tch F w (w.setCell ⟨B, 17, none⟩ (.bool b)) := Tch.setCell _ hrp.FB _
  have hF0 : ∀ k, (w.setCell ⟨B, 17, none⟩ (.bool b)).heap.size ≤ k → F k := fun k hk => hF k (by simpa [World.setCell] using hk)
  have E0 := Lib.hid e0
  have P0 := Lib.hid hP0
  have T0 := Lib.hid ht0
  have L0 := Lib.hid hL0
  have F0 := Lib.hid hF0
  have HV := Lib.hid hv
  have HL := Lib.hid hl
  clear e0 hP0 ht0 hL0 hF0 hv hl hLb
  go_enter Tryd.func36, Tryd.ntmps36
  go_wp2_with fail
  revert E0 P0 T0 L0 F0
  generalize w.setCell ⟨B, 17, none⟩ (.bool b) = w0
  intro E0 P0 T0 L0 F0
  have c19 : w0.cell? ⟨B, 19, none⟩ = some (.slice (some ⟨L, 0, none⟩) (ls.length + 1) vs.length) := cell_of_blk E0.out 19
  go_quiet (fail)
  go_wp2_with fail
  have E1 := Lib.hid ((Tch.drewN (fun _ => False) w0 nq).heap E0.out id)
  have P1 := Lib.hid (P0.out.drewN nq)
  have T1 := Lib.hid (T0.out.trans (Tch.drewN F w0 nq))
  have L1 := Lib.hid ((Tch.drewN (fun _ => False) w0 nq).heap L0.out id)
  have F1 : Hid (∀ k, (w0.drewN nq).heap.size ≤ k → F k) := F0.out
  clear E0 P0 T0 L0 F0 c19
  revert E1 P1 T1 L1 F1
  generalize w0.drewN nq = w1
  intro E1 P1 T1 L1 F1
  obtain ⟨i0, hi0, hz0, hz1, hz2⟩ := info_parts Tryd.info_pc
  obtain ⟨n, xs, hown, hnx⟩ := P1.out.lines.row ls.length v HV.out
  obtain ⟨hn, hx⟩ := hnx l (by rw [HL.out]; simp)
  subst hn hx
  have hnews : ∀ j u, (PC.vals ⟨s.csize, s.cw, b⟩)[j]? = some u → (w1.alloc (.cells #[.int .i64 s.csize, .int .i64 s.cw, .bool b] 73)).drew.cell? ((⟨w1.heap.size, 0, none⟩ : Addr).add j) = some u := by
    intro j u hj
    match j, hj with
    | 0, hj => simpa [PC.vals, Addr.add] using hj
    | 1, hj => simpa [PC.vals, Addr.add] using hj
    | 2, hj => simpa [PC.vals, Addr.add] using hj
  obtain ⟨v', w3, hrun, hown', hgrow, hblk, _⟩ := run_append_Own (P := Tryd.prog) (w1.alloc (.cells #[.int .i64 s.csize, .int .i64 s.cw, .bool b] 73)).drew F 100 100 73 i0 (.agg #[.int .i64 0, .int .i64 0, .bool false]) 3 24 Tryd.underlying100 hi0 hz0 hz1 hz2 rfl (by decide) v l.length (pcs l)
    ((hown.kept (Tch.alloc (fun _ => False) w1 _) (fun _ _ => id)).kept (Tch.drew (fun _ => False) _) (fun _ _ => id)) ⟨w1.heap.size, 0, none⟩ 1 1 (PC.vals ⟨s.csize, s.cw, b⟩) rfl hnews (by simp [PC.vals, Value.oneCell']) (by unfold maxLen; omega) (by omega) (fun k hk => F1.out k (by simp at hk; omega))
  obtain ⟨av, cv, rfl⟩ := hown.shape
  obtain ⟨av', cv', rfl⟩ := hown'.shape
  have hownF := hown.mem
  have hLlt := lt_of_heap L1.out
  have hBlt := lt_of_heap E1.out
  have hLv : w1.cell? ⟨L, ls.length, none⟩ = some (.slice av l.length cv) := by rw [cell_of_blk L1.out]; simpa using HV.out
  have rowne : ∀ {k : Nat} {cs : Array Value} {T : TypeId}, w1.heap[k]? = some (.cells cs T (0, 0)) → T ≠ 73 → w3.heap[k]? = some (.cells cs T (0, 0)) := by
    intro k cs T hk hT
    have hlt := lt_of_heap hk
    rw [hgrow.block k (by simp; omega) (fun e => hown.ne hk hT e.symm)]
    show (w1.alloc _).heap[k]? = _
    rw [Below.heap_alloc _ _ _ hlt]; exact hk
  have E3 := Lib.hid (rowne E1.out (by decide))
  have L3 := Lib.hid (rowne L1.out (by decide))
  have b15 : w1.cell? ⟨B, 15, none⟩ = some (.int .i64 s.csize) := by rw [cell_of_blk E1.out]; simp [wcells]
  have b16 : w1.cell? ⟨B, 16, none⟩ = some (.int .i64 s.cw) := by rw [cell_of_blk E1.out]; simp [wcells]
  have b17 : w1.cell? ⟨B, 17, none⟩ = some (.bool b) := by rw [cell_of_blk E1.out]; simp [wcells]
  have hLv2 : ∀ o, (w1.alloc o).cell? ⟨L, ls.length, none⟩ = some (.slice av l.length cv) := fun o => by rw [World.cell?_alloc_past _ _ _ hLlt]; exact hLv
  have b15' : ∀ o, (w1.alloc o).cell? ⟨B, 15, none⟩ = some (.int .i64 s.csize) := fun o => by rw [World.cell?_alloc_past _ _ _ hBlt]; exact b15
  have b16' : ∀ o, (w1.alloc o).cell? ⟨B, 16, none⟩ = some (.int .i64 s.cw) := fun o => by rw [World.cell?_alloc_past _ _ _ hBlt]; exact b16
  have b17' : ∀ o, (w1.alloc o).cell? ⟨B, 17, none⟩ = some (.bool b) := fun o => by rw [World.cell?_alloc_past _ _ _ hBlt]; exact b17
  have d15 : w3.cell? ⟨B, 15, none⟩ = some (.int .i64 s.csize) := by rw [cell_of_blk E3.out]; simp [wcells]
  have d16 : w3.cell? ⟨B, 16, none⟩ = some (.int .i64 s.cw) := by rw [cell_of_blk E3.out]; simp [wcells]
  have d17 : w3.cell? ⟨B, 17, none⟩ = some (.bool b) := by rw [cell_of_blk E3.out]; simp [wcells]
  have dLv : w3.cell? ⟨L, ls.length, none⟩ = some (.slice av l.length cv) := by rw [cell_of_blk L3.out]; simpa using HV.out
  have HRUN := Lib.hid hrun
  have HOWN := Lib.hid hown'
  have HG := Lib.hid hgrow
  have HBK := Lib.hid hblk
  clear hrun hown' hgrow hblk hnews hnx hown hF rowne c17 f17
  refine wp_region_rf (fun w' => w' = w1.drew ∨ w' = (w1.alloc (.cells #[.int .i64 s.csize, .int .i64 s.cw, .bool b] 73)).drew ∨ w' = w3) [0, 1, 2, 3, 4, 5, 6, 7] [8, 9, 10, 11] 2 [_, _, _, _, _, _, _, _] [_, _, _, _] (by kernel_rfl) (by kernel_rfl) rfl rfl (fun _ _ d _ _ h => by cases d <;> exact h) (.inl rfl) ?_
  iterate 8 (refine wpR_step rfl (fun K hK => ?_); go_simp; refine hK _ ?_; clear hK K)
  refine wpR_nil ?_
  refine wpE_step rfl (fun K hK => ?_)
  go_simp
  refine hK _ _ (.inr (.inl rfl)) ?_
  clear hK K
  refine wpE_step rfl (fun K hK => ?_)
  refine wp_append_eq (.tmp 25) (.tmp 30) 100 rfl rfl rfl HRUN.out ?_
  go_simp
  refine hK _ _ (.inr (.inr rfl)) ?_
  clear hK K HRUN b15 b16 b17 b15' b16' b17' hLv2 hLv
  refine wpE_zero ?_
  have gL := frozen_of_blk L3.out ls.length
  have g15 := frozen_of_blk E3.out 15
  have g16 := frozen_of_blk E3.out 16
  have g17 := frozen_of_blk E3.out 17
  have hne : ¬ L = B := fun e => by have h1 := L3.out; rw [e, E3.out] at h1; simp at h1
  have hne' : ¬ B = L := fun e => hne e.symm
  go_wp2
  go_ret
  have hPa := (P1.out.alloc (.cells #[.int .i64 s.csize, .int .i64 s.cw, .bool b] 73)).drew
  rw [HL.out] at hPa
  have hPL := hPa.lineGrown (L := L) (p := ⟨s.csize, s.cw, b⟩) rfl HV.out HOWN.out rfl HG.out HBK.out
  have hB3 : (w3.setCell ⟨L, ls.length, none⟩ (.slice av' (l.length + 1) cv')).heap[B]? = _ := (Tch.setCell (F := (· = L)) (a := ⟨L, ls.length, none⟩) w3 rfl _).heap E3.out hne'
  have e1 := blk_set hB3 15 (.int .i64 0)
  have e2 := blk_set e1 16 (.int .i64 0)
  have e3 := blk_set e2 17 (.bool false)
  refine ⟨rfl, ⟨_, _, wv, ov, _, by rw [e3]; simp [wcells], hrp.FB, ((hPL.setB hB3 15 _).setB e1 16 _).setB e2 17 _⟩, ?_⟩
  have tg : Tch F w1 w3 := ((Tch.alloc F w1 _).trans (Tch.drew F _)).trans (Tch.grown HG.out (fun k e => hownF k e))
  exact ((((T1.out.trans tg).trans (Tch.setCell _ hFL _)).trans (Tch.setCell _ hrp.FB _)).trans (Tch.setCell _ hrp.FB _)).trans (Tch.setCell _ hrp.FB _)
end
end Go.Proofs.YteildpeogbenbaaDoor
