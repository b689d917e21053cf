/- Walks: writeLines. -/
import Derived.Test.YteildpeogbenbaaDoorWi
namespace Go.Proofs.YteildpeogbenbaaDoor
open Go.RowKit Go.Tw Go.Sort
set_option maxRecDepth 100000

section
variable {F G : Nat → Prop} {w : World} {B S : Nat} {c : Cfg} {s : St} {ht : Bool} {bufv lv wv ov : Value} {vs : List Value}

set_option maxHeartbeats 8000000 in
theorem writeLines_calls (hF : Env F w) (hrp : RepAt F w B S c s ht bufv lv wv ov vs) (hG : OutG G w S ov) (hGn : ∀ k, F k → k < w.heap.size → G k → k = S ∨ ov.ownBlock = some k) (hcs : s.csize = 0) (p0 l0 l1 : Nat) (hl : l0 ≤ l1) (hl1 : l1 ≤ s.lines.length) (hb : s.lines.length ≤ 1000000000000) (hsz : p0 + (((s.lines.take l1).drop l0).map sizeOfCells).sum ≤ s.buf.length) (hob : (s.out ++ linesOut c s.ws s.buf s.lines.length l0 p0 ((s.lines.take l1).drop l0)).length ≤ 130000000000000) (htb : c.tb ≤ 1000000) (hws : ∀ i, s.ws.getD i 0 ≤ 1000000000000) (hfit : ∀ k l, l0 ≤ k → k < l1 → s.lines[k]? = some l → ∀ (i : Nat) (p : PC), l[i]? = some p → i < s.ws.length → 0 ≤ p.width ∧ p.width ≤ s.ws.getD i 0) :
    Calls Tryd.prog 53 #[.pointer (some ⟨B, 0, none⟩), .int .i64 p0, .int .i64 l0, .int .i64 l1] w fun e w' => (e = .returned (.int .i64 (p0 + (((s.lines.take l1).drop l0).map sizeOfCells).sum : Nat)) ∧ Wrote F G w B S c s ht bufv lv wv vs (linesOut c s.ws s.buf s.lines.length l0 p0 ((s.lines.take l1).drop l0)) w') ∨ Stop F G w B S c (s.out ++ linesOut c s.ws s.buf s.lines.length l0 p0 ((s.lines.take l1).drop l0)) e w' := by
  obtain ⟨TT, hTT⟩ : ∃ TT, TT = s.out ++ linesOut c s.ws s.buf s.lines.length l0 p0 ((s.lines.take l1).drop l0) := ⟨_, rfl⟩
  rw [← hTT]
  have HTT := Lib.hid hTT
  clear hTT
  have hGB : ¬ G B := by
    intro hg
    rcases hGn B hrp.FB (lt_of_heap hrp.blk) hg with e | e
    · have h1 := hrp.blk; rw [e, hrp.parts.sink] at h1; simp at h1
    · exact hrp.parts.out.ne hrp.blk (by decide) e
  have H0 : LRel F G w B S c s ht bufv lv wv vs p0 l0 l1 (.int .i64 p0) (.int .i64 l0) w := by
    refine ⟨l0, Nat.le_refl _, hl, rfl, ?_, ?_⟩
    · simp
    · refine ⟨ov, ?_, Tch.refl _ _, hG⟩
      simpa [List.drop_take, linesOut] using hrp
  go_enter Tryd.func53, Tryd.ntmps53
  go_wp2_with fail
  go_loopw [8, 9] (fun t8 t9 wr => LRel F G w B S c s ht bufv lv wv vs p0 l0 l1 t8 t9 wr) (fun _ t9 _ => l1 - (intOf t9).toNat)
  case atStart => exact H0
  case round =>
    obtain ⟨k, hk0, hk1, rfl, rfl, ov1, hr1, t1, g1⟩ := hrel
    by_cases hlt : k < l1
    · have hkl : k < s.lines.length := by omega
      obtain ⟨l, hll⟩ : ∃ l, l = s.lines[k] := ⟨_, rfl⟩
      have hlk : s.lines[k]? = some l := by rw [hll]; simp
      have hle := hr1.parts.lines.le
      simp only at hle
      obtain ⟨L, hlv, hLb⟩ : ∃ L, lv = .slice (some ⟨L, 0, none⟩) s.lines.length vs.length ∧ wr.heap[L]? = some (.cells vs.toArray 100 (0, 0)) := by
        rcases hr1.parts.lines.val with ⟨_, rfl⟩ | ⟨L, e, _, h2, _⟩
        · have : s.lines.length ≤ 0 := hle
          omega
        · exact ⟨L, e, h2⟩
      obtain ⟨v, hv⟩ : ∃ v, vs[k]? = some v := ⟨vs[k], by simp⟩
      obtain ⟨n, xs, hown, hnx⟩ := hr1.parts.lines.row k v hv
      obtain ⟨hn, hx⟩ := hnx l hlk
      subst hn hx
      obtain ⟨al, cl, rfl⟩ := hown.shape
      have c19 : wr.cell? ⟨B, 19, none⟩ = some (.slice (some ⟨L, 0, none⟩) s.lines.length vs.length) := by rw [← hlv]; exact cell_of_blk hr1.blk 19
      have c12 : wr.cell? ⟨B, 12, none⟩ = some (.int .u64 c.fl) := cell_of_blk hr1.blk 12
      have cL : wr.cell? ⟨L, k, none⟩ = some (.slice al l.length cl) := by rw [cell_of_blk hLb]; simpa using hv
      obtain ⟨ti, hti⟩ : ∃ ti, (bits BinOp.and IntKind.u64 (c.fl : Int) 16 != 0) = ti := ⟨_, rfl⟩
      have HX := Lib.hid (⟨hr1, t1, g1⟩ : RepAt F wr B S c _ ht bufv lv wv ov1 vs ∧ Tch G w wr ∧ OutG G wr S ov1)
      have HOWN := Lib.hid hown
      have HLV := Lib.hid hlv
      have HV := Lib.hid hv
      have HLL := Lib.hid hlk
      clear hr1 t1 g1 hown hnx hlv hlk hll hLb hv H0
      obtain ⟨pre, hpre⟩ : ∃ pre, pre = linesOut c s.ws s.buf s.lines.length l0 p0 ((s.lines.take k).drop l0) := ⟨_, rfl⟩
      rw [← hpre] at HX
      have HPRE := Lib.hid hpre
      clear hpre
      obtain ⟨P, hP⟩ : ∃ P, P = p0 + (((s.lines.take k).drop l0).map sizeOfCells).sum := ⟨_, rfl⟩
      rw [← hP]
      have HPP := Lib.hid hP
      clear hP
      have I0 : IRel F G w B S c s ht bufv lv wv vs pre l P ti (.int .i64 P) (.bool ti) (.int .i64 0) wr := by
        refine ⟨0, Nat.zero_le _, rfl, by simp [sizeOfCells], by simp, ov1, ?_, HX.out.2⟩
        simpa [cellsOut] using HX.out.1
      go_wp2_with fail
      go_loopw [8, 11, 36] (fun t8 t11 t36 wq => IRel F G w B S c s ht bufv lv wv vs pre l P ti t8 t11 t36 wq) (fun _ _ t36 _ => l.length - (intOf t36).toNat)
      case atStart => exact I0
      case round =>
        clear I0 c19 c12 cL
        obtain ⟨j, hj, rfl, rfl, rfl, ov2, hr2, t2, g2⟩ := hrel
        by_cases hjl : j < l.length
        · obtain ⟨p, hp⟩ : ∃ p, l[j]? = some p := ⟨l[j], by simp⟩
          obtain ⟨n2, xs2, hown2, hnx2⟩ := hr2.parts.lines.row k _ HV.out
          obtain ⟨-, hx2⟩ := hnx2 l HLL.out
          subst hx2
          obtain ⟨g, rfl, hcell, hlm⟩ : ∃ g, al = some ⟨g, 0, none⟩ ∧ (∀ i, i < l.length * 3 → wr.cell? ⟨g, i, none⟩ = (pcs l)[i]?) ∧ l.length ≤ 9223372036854775807 := by
            rcases hown2.row.2 with ⟨e, _⟩ | ⟨g, cap, cur, e, _, hg, hc, hm, hs, htk⟩
            · simp only [Value.slice.injEq] at e; omega
            · simp only [Value.slice.injEq] at e
              obtain ⟨rfl, e2, _⟩ := e
              refine ⟨g, rfl, fun i hi => ?_, by unfold maxLen at hm; omega⟩
              rw [cell_of_blk hg, ← htk, List.getElem?_take, if_pos (by omega)]
              simp
          have hpc : ∀ i, i < 3 → (pcs l)[j * 3 + i]? = (PC.vals p)[i]? := fun i hi => pcs_get hp i hi
          have q0 : wr.cell? ⟨g, j * 3, none⟩ = some (.int .i64 p.size) := by rw [hcell _ (by omega)]; have := hpc 0 (by omega); simpa [PC.vals] using this
          have q1 : wr.cell? ⟨g, j * 3 + 1, none⟩ = some (.int .i64 p.width) := by rw [hcell _ (by omega)]; have := hpc 1 (by omega); simpa [PC.vals] using this
          have q2 : wr.cell? ⟨g, j * 3 + 2, none⟩ = some (.bool p.htab) := by rw [hcell _ (by omega)]; have := hpc 2 (by omega); simpa [PC.vals] using this
          have d12 : wr.cell? ⟨B, 12, none⟩ = some (.int .u64 c.fl) := cell_of_blk hr2.blk 12
          clear hcell hpc hnx2 hown2
          have hwd := hfit k l hk0 hlt HLL.out j p hp
          have hsz2 := sizes_cells hp
          have hcp := cellsOut_part c s.ws s.buf hp P ti
          have hpart := linesOut_part c s.ws s.buf (p0 := p0) HLL.out hk0 hlt
          rw [← HPRE.out, ← HPP.out, show c.flag 16 = ti from hti] at hpart
          have hQ0 := Nat.le_trans (sizes_part HLL.out hk0 hlt p0) hsz
          rw [← HPP.out] at hQ0
          have hfin : ∀ wx, Mid F G w B S c s ht bufv lv wv vs wr.heap.size p (s.out ++ (pre ++ cellsOut c s.ws s.buf 0 P ti (l.take j)) ++ cellOut c s.ws s.buf j (P + sizeOfCells (l.take j)) (ti && (l.take j).all (·.size == 0)) p) wx → IRel F G w B S c s ht bufv lv wv vs pre l P ti (.int .i64 (P + sizeOfCells (l.take j) + p.size : Nat)) (.bool ((ti && (l.take j).all (·.size == 0)) && p.size == 0)) (.int .i64 (j + 1 : Nat)) wx := by
            intro wx hm
            have e : l.take (j + 1) = l.take j ++ [p] := by rw [List.take_add_one, hp]; rfl
            obtain ⟨ov7, h7, t7, g7, _, _⟩ := hm
            refine ⟨j + 1, by omega, rfl, by rw [hsz2.1, Nat.add_assoc], by rw [e]; simp [Bool.and_assoc], ov7, ?_, t7, ⟨g7.sink.1, fun g hg => (g7.row g hg).1, fun k hk => (g7.new k hk).1, hG.err⟩⟩
            rw [e, cellsOut_snoc]
            have e2 : (l.take j).length = j := by simp; omega
            rw [e2, Nat.zero_add]
            simpa [List.append_assoc] using h7
          have hol : (s.out ++ (pre ++ cellsOut c s.ws s.buf 0 P ti (l.take j))).length + (cellOut c s.ws s.buf j (P + sizeOfCells (l.take j)) (ti && (l.take j).all (·.size == 0)) p).length ≤ 130000000000000 := by
            simp only [List.length_append] at hob ⊢; omega
          have hp5 : P + sizeOfCells (l.take j) + p.size ≤ s.buf.length := by omega
          have htp : ∃ x, s.out ++ (pre ++ cellsOut c s.ws s.buf 0 P ti (l.take j)) ++ cellOut c s.ws s.buf j (P + sizeOfCells (l.take j)) (ti && (l.take j).all (·.size == 0)) p ++ x = TT := by
            obtain ⟨x, hx⟩ := cellsOut_split c s.ws s.buf hp P ti
            obtain ⟨y, hy⟩ := linesOut_split c s.ws s.buf (p0 := p0) HLL.out hk0 hlt
            rw [← HPRE.out, ← HPP.out, show c.flag 16 = ti from hti, ← hx] at hy
            exact ⟨x ++ (if k + 1 = s.lines.length then [] else [10]) ++ y, by rw [HTT.out, ← hy]; simp only [List.append_assoc]⟩
          clear hsz2 hcp hpart hQ0
          revert hfin hol hp5 htp
          generalize P + sizeOfCells (l.take j) = p5
          generalize (ti && (l.take j).all (·.size == 0)) = u5
          revert hr2
          generalize s.out ++ (pre ++ cellsOut c s.ws s.buf 0 P ti (l.take j)) = out5
          intro hr2 hfin hol hp5 htp
          have HTP := Lib.hid htp
          clear htp
          have FIN := Lib.hid hfin
          have HOL := Lib.hid hol
          have HFIT := Lib.hid hwd
          clear hfin hol hwd
          go_upto_region 10 with (fail)
          have M5 : Mid F G w B S c s ht bufv lv wv vs wr.heap.size p out5 (wr.alloc (.cells #[.int .i64 p.size, .int .i64 p.width, .bool p.htab] 73)) :=
            ⟨ov2, hr2.kept (Tch.alloc (fun _ => False) wr _) (fun _ _ _ => id), t2.trans (Tch.alloc _ _ _), ⟨⟨g2.sink, by have := lt_of_heap hr2.parts.sink; omega⟩, fun g hg => ⟨g2.row g hg, by have := hr2.parts.out.lt hg; omega⟩, fun k hk => by simp at hk; exact ⟨g2.new k (by omega), by omega⟩, fun h => hG.err h.1⟩, heap_alloc_new wr _, (hF.step t2 hG.err).step (Tch.alloc (fun _ => False) wr _) id⟩
          have HM5 := Lib.hid M5
          have HP := Lib.hid hp
          clear hr2 g2 t2 q0 q1 q2 d12 M5 hp HX
          revert FIN HM5
          generalize wr.alloc (.cells #[.int .i64 p.size, .int .i64 p.width, .bool p.htab] 73) = w5
          generalize wr.heap.size = bx at *
          intro FIN HM5
          go_cut [36, 50] from 36 to 150 (fun s36 s50 wx => s36 = .int .i64 j ∧ s50 = .bool (decide (0 < j) && c.flag 32) ∧ wx = w5)
          case first =>
            obtain ⟨-, -, e12, -, -⟩ := HM5.out.cells
            by_cases hj0 : 0 < j
            · go_wp2_with fail
              go_meet
              refine ⟨rfl, ?_, rfl⟩
              simp [hj0, Cfg.flag]
            · go_wp2_with fail
              go_meet
              refine ⟨rfl, ?_, rfl⟩
              simp [hj0]
          case rest =>
            obtain ⟨rfl, rfl, rfl⟩ := hcut
            go_upto_if 50 with (fail)
            go_cut [36] from 36 to 150 (fun s36 wx => s36 = .int .i64 j ∧ Mid F G w B S c s ht bufv lv wv vs bx p (out5 ++ (if 0 < j ∧ c.flag 32 = true then [124] else [])) wx)
            case first =>
              by_cases hbar : 0 < j ∧ c.flag 32 = true
              · have hb1 : (decide (0 < j) && c.flag 32) = true := by simp [hbar.1, hbar.2]
                have HB := Lib.hid hbar
                have HN := Lib.hid (wideT (HM5.out.fresh1 124 124 rfl (by have := HOL.out; omega)) (pre1 HTP.out (show cellOut c s.ws s.buf j p5 u5 p = [124] ++ _ by unfold cellOut; rw [if_pos HB.out])))
                rw [hb1]
                clear hb1 hbar
                go_wp2_with (first | (go_at_call 54; refine (vbar_calls _).mono ?_; rintro e w5 ⟨rfl, rfl⟩) | (go_at_call 39; refine HN.out.mono ?_; rintro e w6 hE; rcases hE with ⟨rfl, hw⟩ | hE; rotate_left; (obtain ⟨ch, rfl⟩ := hE.panic; exact And.intro rfl (Or.inr hE)); have HW := Lib.hid hw; clear hw))
                go_meet
                rw [if_pos HB.out]
                exact ⟨rfl, HW.out⟩
              · have hb1 : (decide (0 < j) && c.flag 32) = false := by
                  rw [Bool.and_eq_false_iff]
                  by_cases h0 : 0 < j
                  · right; simpa [h0] using hbar
                  · left; simpa using h0
                have HB := Lib.hid hbar
                rw [hb1]
                clear hb1 hbar
                go_wp2_with fail
                go_meet
                rw [if_neg HB.out]
                exact ⟨rfl, by simpa using HM5.out⟩
            case rest =>
              obtain ⟨rfl, hm6⟩ := hcut
              have HM6 := Lib.hid hm6
              clear hm6
              have hbf : ∃ ab cb, bufv = .slice ab s.buf.length cb := by obtain ⟨_, hr, _⟩ := HM6.out; exact hr.parts.buf.shape
              obtain ⟨ab, cb, rfl⟩ := hbf
              obtain ⟨aw, cw, rfl, haw⟩ := HM6.out.wsj
              have HAW := Lib.hid haw
              clear haw
              revert HM6
              generalize hbr : (if 0 < j ∧ c.flag 32 = true then [124] else [] : List UInt8) = br
              intro HM6
              have HBR := Lib.hid hbr
              clear hbr
              obtain ⟨x0, q1, e12, e13, e20⟩ := HM6.out.cells
              by_cases hz : p.size = 0
              · have q0 : wc.cell? ⟨bx, 0, none⟩ = some (.int .i64 0) := by rw [x0, hz]; rfl
                have HZ := Lib.hid hz
                clear x0 hz
                by_cases hjw : j < s.ws.length
                · obtain ⟨wd, hwd⟩ : ∃ wd, wd = s.ws.getD j 0 := ⟨_, rfl⟩
                  have HWD := Lib.hid hwd
                  clear hwd
                  have HC := Lib.hid (show cellOut c s.ws s.buf j p5 u5 p = br ++ padB c p.width.toNat wd u5 by unfold cellOut; rw [if_pos HZ.out, if_pos hjw, HBR.out, ← HWD.out])
                  obtain ⟨gw, rfl⟩ := HAW.out j hjw
                  have r0 := HM6.out.wcell hjw
                  rw [← HWD.out] at r0
                  have HN1 := Lib.hid (wideT (HM6.out.drew.pad hGB p.width wd u5 (HFIT.out hjw).1 (by rw [HWD.out]; exact (HFIT.out hjw).2) (by rw [HWD.out]; exact hws j) htb (by have := HOL.out; simp only [HC.out, List.length_append] at this ⊢; omega)) (pre2 HTP.out HC.out))
                  go_wp2_with fail
                  refine wp_region_rf (fun w' => w' = wc.drew) [0, 1, 2, 3, 4, 5, 6, 7, 8, 9, 10] [11] 0 [_, _, _, _, _, _, _, _, _, _, _] [_] (by kernel_rfl) (by kernel_rfl) rfl rfl (fun _ _ d _ _ h => by cases d <;> exact h) rfl ?_
                  iterate 11 (refine wpR_step rfl (fun K hK => ?_); go_simp; refine hK _ ?_; clear hK K)
                  refine wpR_nil (wpE_zero ?_)
                  go_wp2_with (go_at_call 55; (with_reducible refine HN1.out.mono ?_); rintro e w7 hE; rcases hE with ⟨rfl, hw⟩ | hE; rotate_left; (obtain ⟨ch, rfl⟩ := hE.panic; exact And.intro rfl (Or.inr hE)); have HM7 := Lib.hid hw; clear hw)
                  go_roundw
                  case rel =>
                    have h7 := FIN.out w7 (by rw [HC.out, ← List.append_assoc]; exact HM7.out)
                    simpa [HZ.out] using h7
                  case measure => simp [intOf]; omega
                · have HC := Lib.hid (show cellOut c s.ws s.buf j p5 u5 p = br by unfold cellOut; rw [if_pos HZ.out, if_neg hjw, HBR.out, List.append_nil])
                  go_wp2_with fail
                  go_roundw
                  case rel =>
                    have h7 := FIN.out wc (by rw [HC.out]; exact HM6.out)
                    simpa [HZ.out] using h7
                  case measure => simp [intOf]; omega
              · have hz1 : (((p.size : Nat) : Int) == 0) = false := by rw [beq_eq_false_iff_ne]; omega
                have HZ := Lib.hid hz
                clear hz
                have hlen : ((s.buf.drop p5).take p.size).length = p.size := by simp; omega
                have HLEN := Lib.hid hlen
                clear hlen
                have hx1 : (p5 : Int) + p.size ≤ cb := by have := (HM6.out.text hp5).1; omega
                have hx2 : (cb : Int) ≤ 9223372036854775807 := by have := (HM6.out.text hp5).2.1; omega
                have hx3 : IntKind.i64.wrap ((p5 : Int) + p.size) = (p5 : Int) + p.size := IntWalk.i64_in _ (by omega)
                have hx4 : (p5 : Int) ≤ (p5 : Int) + p.size := by omega
                obtain ⟨a2, ha2⟩ : ∃ a2, (if cb = p5 then ab else Option.map (fun x => x.add p5) ab) = a2 := ⟨_, rfl⟩
                have HA2 := Lib.hid ha2
                by_cases hfl : c.flag 4 = true
                · have hf1 : (bits BinOp.and IntKind.u64 (c.fl : Int) 4 == 0) = false := by unfold Cfg.flag at hfl; simpa using hfl
                  have HFL := Lib.hid hfl
                  clear hfl
                  by_cases hjw : j < s.ws.length
                  · obtain ⟨wd, hwd⟩ : ∃ wd, wd = s.ws.getD j 0 := ⟨_, rfl⟩
                    have HWD := Lib.hid hwd
                    clear hwd
                    have HC := Lib.hid (show cellOut c s.ws s.buf j p5 u5 p = br ++ (padB c p.width.toNat wd false ++ (s.buf.drop p5).take p.size) by unfold cellOut; rw [if_neg HZ.out, if_pos HFL.out, if_pos hjw, HBR.out, ← HWD.out])
                    obtain ⟨gw, rfl⟩ := HAW.out j hjw
                    have r0 := HM6.out.wcell hjw
                    rw [← HWD.out] at r0
                    have HN1 := Lib.hid (wideT (HM6.out.drew.pad hGB p.width wd false (HFIT.out hjw).1 (by rw [HWD.out]; exact (HFIT.out hjw).2) (by rw [HWD.out]; exact hws j) htb (by have := HOL.out; simp only [HC.out, List.length_append] at this ⊢; omega)) (pre3 HTP.out HC.out))
                    go_wp2_with fail
                    refine wp_region_rf (fun w' => w' = wc.drew) [0, 1, 2, 3, 4, 5, 6, 7, 8, 9] [10] 0 [_, _, _, _, _, _, _, _, _, _] [_] (by kernel_rfl) (by kernel_rfl) rfl rfl (fun _ _ d _ _ h => by cases d <;> exact h) rfl ?_
                    iterate 10 (refine wpR_step rfl (fun K hK => ?_); go_simp; refine hK _ ?_; clear hK K)
                    refine wpR_nil (wpE_zero ?_)
                    go_wp2_with (go_at_call 55; (with_reducible refine HN1.out.mono ?_); rintro e w7 hE; rcases hE with ⟨rfl, hw⟩ | hE; rotate_left; (obtain ⟨ch, rfl⟩ := hE.panic; exact And.intro rfl (Or.inr hE)); have HM7 := Lib.hid hw; clear hw; obtain ⟨x1, y1, z1, v1, s1⟩ := HM7.out.cells)
                    have rd2 : Rd w7.drew (.slice a2 (p5 + p.size - p5) (cb - p5)) ((s.buf.drop p5).take p.size) := by rw [Nat.add_sub_cancel_left, ← HA2.out]; exact (HM7.out.drew.text hp5).2.2
                    have HT2 := Lib.hid (wideT (HM7.out.drew.write0 rd2 (by have h9 := HOL.out; have h8 := HLEN.out; simp only [HC.out, List.length_append] at h9 ⊢; omega)) (pre4 HTP.out HC.out))
                    clear rd2
                    refine wp_region_rf (fun w' => w' = w7.drew) [0, 1, 2, 3, 4, 5, 6, 7, 8, 9, 10] [11] 0 [_, _, _, _, _, _, _, _, _, _, _] [_] (by kernel_rfl) (by kernel_rfl) rfl rfl (fun _ _ d _ _ h => by cases d <;> exact h) rfl ?_
                    iterate 11 (refine wpR_step rfl (fun K hK => ?_); go_simp; refine hK _ ?_; clear hK K)
                    refine wpR_nil (wpE_zero ?_)
                    go_wp2_with (go_at_call 39; (with_reducible refine HT2.out.mono ?_); rintro e w8 hE; rcases hE with ⟨rfl, hw⟩ | hE; rotate_left; (obtain ⟨ch, rfl⟩ := hE.panic; exact And.intro rfl (Or.inr hE)); have HM8 := Lib.hid hw; clear hw; obtain ⟨x2, y2, z2, v2, s2⟩ := HM8.out.cells)
                    go_roundw
                    case rel =>
                      have h7 := FIN.out w8 (by rw [HC.out]; simpa only [List.append_assoc] using HM8.out)
                      have hz9 : (p.size == 0) = false := by rw [beq_eq_false_iff_ne]; exact HZ.out
                      simpa [hz9] using h7
                    case measure => simp [intOf]; omega
                  · have HC := Lib.hid (show cellOut c s.ws s.buf j p5 u5 p = br ++ (s.buf.drop p5).take p.size by unfold cellOut; rw [if_neg HZ.out, if_pos HFL.out, if_neg hjw, HBR.out, List.nil_append])
                    have rd2 : Rd wc.drew (.slice a2 (p5 + p.size - p5) (cb - p5)) ((s.buf.drop p5).take p.size) := by rw [Nat.add_sub_cancel_left, ← HA2.out]; exact (HM6.out.drew.text hp5).2.2
                    have HT2 := Lib.hid (wideT (HM6.out.drew.write0 rd2 (by have h9 := HOL.out; have h8 := HLEN.out; simp only [HC.out, List.length_append] at h9 ⊢; omega)) (pre2 HTP.out HC.out))
                    clear rd2
                    go_wp2_with fail
                    refine wp_region_rf (fun w' => w' = wc.drew) [0, 1, 2, 3, 4, 5, 6, 7, 8, 9, 10] [11] 0 [_, _, _, _, _, _, _, _, _, _, _] [_] (by kernel_rfl) (by kernel_rfl) rfl rfl (fun _ _ d _ _ h => by cases d <;> exact h) rfl ?_
                    iterate 11 (refine wpR_step rfl (fun K hK => ?_); go_simp; refine hK _ ?_; clear hK K)
                    refine wpR_nil (wpE_zero ?_)
                    go_wp2_with (go_at_call 39; (with_reducible refine HT2.out.mono ?_); rintro e w8 hE; rcases hE with ⟨rfl, hw⟩ | hE; rotate_left; (obtain ⟨ch, rfl⟩ := hE.panic; exact And.intro rfl (Or.inr hE)); have HM8 := Lib.hid hw; clear hw; obtain ⟨x2, y2, z2, v2, s2⟩ := HM8.out.cells)
                    go_roundw
                    case rel =>
                      have h7 := FIN.out w8 (by rw [HC.out]; simpa only [List.append_assoc] using HM8.out)
                      have hz9 : (p.size == 0) = false := by rw [beq_eq_false_iff_ne]; exact HZ.out
                      simpa [hz9] using h7
                    case measure => simp [intOf]; omega
                · have hf1 : (bits BinOp.and IntKind.u64 (c.fl : Int) 4 == 0) = true := by unfold Cfg.flag at hfl; simpa using hfl
                  have HFL := Lib.hid hfl
                  clear hfl
                  by_cases hjw : j < s.ws.length
                  · obtain ⟨wd, hwd⟩ : ∃ wd, wd = s.ws.getD j 0 := ⟨_, rfl⟩
                    have HWD := Lib.hid hwd
                    clear hwd
                    have HC := Lib.hid (show cellOut c s.ws s.buf j p5 u5 p = br ++ ((s.buf.drop p5).take p.size ++ padB c p.width.toNat wd false) by unfold cellOut; rw [if_neg HZ.out, if_neg HFL.out, if_pos hjw, HBR.out, ← HWD.out])
                    obtain ⟨gw, rfl⟩ := HAW.out j hjw
                    have rd2 : Rd wc.drew (.slice a2 (p5 + p.size - p5) (cb - p5)) ((s.buf.drop p5).take p.size) := by rw [Nat.add_sub_cancel_left, ← HA2.out]; exact (HM6.out.drew.text hp5).2.2
                    have HT2 := Lib.hid (wideT (HM6.out.drew.write0 rd2 (by have h9 := HOL.out; have h8 := HLEN.out; simp only [HC.out, List.length_append] at h9 ⊢; omega)) (pre3 HTP.out HC.out))
                    clear rd2
                    go_wp2_with fail
                    refine wp_region_rf (fun w' => w' = wc.drew) [0, 1, 2, 3, 4, 5, 6, 7, 8, 9, 10] [11] 0 [_, _, _, _, _, _, _, _, _, _, _] [_] (by kernel_rfl) (by kernel_rfl) rfl rfl (fun _ _ d _ _ h => by cases d <;> exact h) rfl ?_
                    iterate 11 (refine wpR_step rfl (fun K hK => ?_); go_simp; refine hK _ ?_; clear hK K)
                    refine wpR_nil (wpE_zero ?_)
                    go_wp2_with (go_at_call 39; (with_reducible refine HT2.out.mono ?_); rintro e w7 hE; rcases hE with ⟨rfl, hw⟩ | hE; rotate_left; (obtain ⟨ch, rfl⟩ := hE.panic; exact And.intro rfl (Or.inr hE)); have HM7 := Lib.hid hw; clear hw; obtain ⟨x2, y2, z2, v2, s2⟩ := HM7.out.cells; have r0 := HM7.out.wcell hjw; rw [← HWD.out] at r0)
                    have HN1 := Lib.hid (wideT (HM7.out.drew.pad hGB p.width wd false (HFIT.out hjw).1 (by rw [HWD.out]; exact (HFIT.out hjw).2) (by rw [HWD.out]; exact hws j) htb (by have h9 := HOL.out; simp only [HC.out, List.length_append] at h9 ⊢; omega)) (pre4 HTP.out HC.out))
                    refine wp_region_rf (fun w' => w' = w7.drew) [0, 1, 2, 3, 4, 5, 6, 7, 8, 9] [10] 0 [_, _, _, _, _, _, _, _, _, _] [_] (by kernel_rfl) (by kernel_rfl) rfl rfl (fun _ _ d _ _ h => by cases d <;> exact h) rfl ?_
                    iterate 10 (refine wpR_step rfl (fun K hK => ?_); go_simp; refine hK _ ?_; clear hK K)
                    refine wpR_nil (wpE_zero ?_)
                    go_wp2_with (go_at_call 55; (with_reducible refine HN1.out.mono ?_); rintro e w8 hE; rcases hE with ⟨rfl, hw⟩ | hE; rotate_left; (obtain ⟨ch, rfl⟩ := hE.panic; exact And.intro rfl (Or.inr hE)); have HM8 := Lib.hid hw; clear hw)
                    go_roundw
                    case rel =>
                      have h7 := FIN.out w8 (by rw [HC.out]; simpa only [List.append_assoc] using HM8.out)
                      have hz9 : (p.size == 0) = false := by rw [beq_eq_false_iff_ne]; exact HZ.out
                      simpa [hz9] using h7
                    case measure => simp [intOf]; omega
                  · have HC := Lib.hid (show cellOut c s.ws s.buf j p5 u5 p = br ++ (s.buf.drop p5).take p.size by unfold cellOut; rw [if_neg HZ.out, if_neg HFL.out, if_neg hjw, HBR.out, List.append_nil])
                    have rd2 : Rd wc.drew (.slice a2 (p5 + p.size - p5) (cb - p5)) ((s.buf.drop p5).take p.size) := by rw [Nat.add_sub_cancel_left, ← HA2.out]; exact (HM6.out.drew.text hp5).2.2
                    have HT2 := Lib.hid (wideT (HM6.out.drew.write0 rd2 (by have h9 := HOL.out; have h8 := HLEN.out; simp only [HC.out, List.length_append] at h9 ⊢; omega)) (pre2 HTP.out HC.out))
                    clear rd2
                    go_wp2_with fail
                    refine wp_region_rf (fun w' => w' = wc.drew) [0, 1, 2, 3, 4, 5, 6, 7, 8, 9, 10] [11] 0 [_, _, _, _, _, _, _, _, _, _, _] [_] (by kernel_rfl) (by kernel_rfl) rfl rfl (fun _ _ d _ _ h => by cases d <;> exact h) rfl ?_
                    iterate 11 (refine wpR_step rfl (fun K hK => ?_); go_simp; refine hK _ ?_; clear hK K)
                    refine wpR_nil (wpE_zero ?_)
                    go_wp2_with (go_at_call 39; (with_reducible refine HT2.out.mono ?_); rintro e w8 hE; rcases hE with ⟨rfl, hw⟩ | hE; rotate_left; (obtain ⟨ch, rfl⟩ := hE.panic; exact And.intro rfl (Or.inr hE)); have HM8 := Lib.hid hw; clear hw; obtain ⟨x2, y2, z2, v2, s2⟩ := HM8.out.cells)
                    go_roundw
                    case rel =>
                      have h7 := FIN.out w8 (by rw [HC.out]; simpa only [List.append_assoc] using HM8.out)
                      have hz9 : (p.size == 0) = false := by rw [beq_eq_false_iff_ne]; exact HZ.out
                      simpa [hz9] using h7
                    case measure => simp [intOf]; omega
        · obtain rfl : j = l.length := by omega
          rw [List.take_length] at hr2 ⊢
          have d19 : wr.cell? ⟨B, 19, none⟩ = some (.slice (some ⟨L, 0, none⟩) s.lines.length vs.length) := by rw [← HLV.out]; exact cell_of_blk hr2.blk 19
          have hF2 : Env F wr := hF.step t2 hG.err
          obtain ⟨y, hy⟩ := linesOut_split c s.ws s.buf (p0 := p0) HLL.out hk0 hlt
          rw [← HPRE.out, ← HPP.out, show c.flag 16 = ti from hti] at hy
          have hlast : ∀ w3, Wrote F G wr B S c { s with out := s.out ++ (pre ++ cellsOut c s.ws s.buf 0 P ti l) } ht bufv lv wv vs (if k + 1 = s.lines.length then [] else [10]) w3 → LRel F G w B S c s ht bufv lv wv vs p0 l0 l1 (.int .i64 (P + sizeOfCells l : Nat)) (.int .i64 (k + 1 : Nat)) w3 := by
            intro w3 hw3
            have := Wrote.step ov2 hr2 t2 hw3
            refine ⟨k + 1, by omega, by omega, rfl, ?_, ?_⟩
            · rw [HPP.out, take_drop_succ HLL.out hk0]; simp [Nat.add_assoc]
            · rw [take_drop_succ HLL.out hk0, linesOut_snoc, ← HPRE.out, ← HPP.out]
              have e : l0 + ((s.lines.take k).drop l0).length = k := by simp; omega
              rw [e]
              have hti2 : c.flag 16 = ti := hti
              rw [hti2]
              simpa [List.append_assoc] using this
          have HL2 := Lib.hid hlast
          clear hlast
          have hpart := linesOut_part c s.ws s.buf (p0 := p0) HLL.out hk0 hlt
          rw [← HPRE.out, ← HPP.out, show c.flag 16 = ti from hti] at hpart
          simp only [List.length_append] at hob
          have hcell1 : s.out.length + (pre.length + (cellsOut c s.ws s.buf 0 P ti l).length) + (if k + 1 = s.lines.length then 0 else 1) ≤ 130000000000000 := by omega
          by_cases hkn : k + 1 = s.lines.length
          · obtain ⟨ab, cb, hab⟩ := hr2.parts.buf.shape
            have hcb : s.buf.length ≤ cb := by
              have h1 := (Own.rd hr2.parts.buf).val
              obtain ⟨ao', cp', e, h2, _⟩ := h1
              rw [hab] at e
              simp only [Value.slice.injEq] at e
              simp only at h2
              omega
            have d13 : wr.cell? ⟨B, 13, none⟩ = some (.slice ab s.buf.length cb) := by have := cell_of_blk hr2.blk 13; rw [hab] at this; exact this
            have d15 : wr.cell? ⟨B, 15, none⟩ = some (.int .i64 0) := by have := cell_of_blk hr2.blk 15; rw [this]; simp [wcells, hcs]
            have hQ : P + sizeOfCells l ≤ s.buf.length := by rw [HPP.out]; exact Nat.le_trans (sizes_part HLL.out hk0 hlt p0) hsz
            obtain ⟨Q, hQe⟩ : ∃ Q, Q = P + sizeOfCells l := ⟨_, rfl⟩
            rw [← hQe] at hQ ⊢
            have hrdb : Rd wr (.slice ab s.buf.length cb) s.buf := by have := Own.rd hr2.parts.buf; rw [hab] at this; exact this
            have hrd0 := (hrdb.dropped hQ).taken (k := 0) (Nat.zero_le _)
            obtain ⟨a2, ha2⟩ : ∃ a2, (if cb = Q then ab else Option.map (fun x => x.add Q) ab) = a2 := ⟨_, rfl⟩
            rw [ha2] at hrd0
            have hcbm : cb ≤ 9223372036854775807 := by
              have h1 := hrdb.val
              obtain ⟨ao', cp', e, _, h2, _⟩ := h1
              simp only [Value.slice.injEq] at e
              unfold maxLen at h2
              omega
            have HN := Lib.hid (stopUp (T' := TT) (write0_calls (w := wr.drew) (hF2.step (Tch.drew (fun _ => False) wr) id) (hr2.kept (Tch.drew (fun _ => False) wr) (fun _ _ _ => id)) ⟨g2.sink, g2.row, g2.new, g2.err⟩ hrd0.drew (by simp only [List.length_append, List.length_take, Nat.zero_min]; rw [if_pos hkn] at hcell1; omega)) (t2.trans (Tch.drew G wr)) (fun _ _ => id) y (by rw [HTT.out, ← hy, if_pos hkn]; simp))
            have hkb : (((k : Int) + 1) == (s.lines.length : Int)) = true := by rw [beq_iff_eq]; omega
            have hw1 : IntKind.i64.wrap (Q : Int) = Q := IntWalk.i64_in _ (by omega)
            have hx1 : (Q : Int) ≤ (cb : Int) := by omega
            have HQE := Lib.hid hQe
            have HKN := Lib.hid hkn
            clear hr2 t2 g2 hF2 hrdb hrd0 hQe hkn hab
            go_wp2_with fail
            refine wp_region_rf (fun w' => w' = wr.drew) [0, 1, 2, 3, 4, 5, 6, 7, 8, 9, 10, 11, 12, 13] [14] 0 [_, _, _, _, _, _, _, _, _, _, _, _, _, _] [_] (by kernel_rfl) (by kernel_rfl) rfl rfl (fun _ _ d _ _ h => by cases d <;> exact h) rfl ?_
            iterate 14 (refine wpR_step rfl (fun K hK => ?_); go_simp; refine hK _ ?_; clear hK K)
            refine wpR_nil (wpE_zero ?_)
            go_wp2_with (go_at_call 39; refine HN.out.mono ?_; rintro e w6 hE; rcases hE with ⟨rfl, hw⟩ | hE; rotate_left; (obtain ⟨ch, rfl⟩ := hE.panic; exact And.intro rfl (Or.inr hE)); obtain ⟨ov6, hr6, t6, g6⟩ := hw; have HR6 := Lib.hid hr6; have T6 := Lib.hid t6; have e15 : w6.cell? ⟨B, 15, none⟩ = some (.int .i64 0) := (by have := cell_of_blk hr6.blk 15; rw [this]; simp [wcells, hcs]); clear hr6 t6)
            go_roundw
            case rel =>
              rw [HQE.out]
              refine HL2.out _ ?_
              rw [if_pos HKN.out]
              refine ⟨ov6, ?_, (Tch.drew G wr).trans T6.out, g6⟩
              have := HR6.out
              simpa using this
            case measure => simp [intOf]; omega
          · have HN := Lib.hid (stopUp (T' := TT) (write0Fresh1 hF2 hr2 g2 10 10 rfl (by simp only [List.length_append]; rw [if_neg hkn] at hcell1; omega)) t2 (fun _ _ => id) y (by rw [HTT.out, ← hy, if_neg hkn]; simp))
            have hkb : (((k : Int) + 1) == (s.lines.length : Int)) = false := by rw [beq_eq_false_iff_ne]; omega
            clear hr2 t2 g2 hF2
            go_wp2_with (first | (go_at_call 56; refine (newline_calls _).mono ?_; rintro e w5 ⟨rfl, rfl⟩) | (go_at_call 39; refine HN.out.mono ?_; rintro e w6 hE; rcases hE with ⟨rfl, hw⟩ | hE; rotate_left; (obtain ⟨ch, rfl⟩ := hE.panic; exact And.intro rfl (Or.inr hE)); have HW := Lib.hid hw; clear hw))
            go_roundw
            case rel => exact HL2.out _ (by rw [if_neg hkn]; exact HW.out)
            case measure => simp [intOf]; omega
    · obtain rfl : k = l1 := by omega
      have HX := Lib.hid (⟨ov1, hr1, t1, g1⟩ : Wrote F G w B S c s ht bufv lv wv vs (linesOut c s.ws s.buf s.lines.length l0 p0 ((s.lines.take k).drop l0)) wr)
      clear hr1 t1 g1 H0
      go_wp2_with fail
      go_ret
      exact .inl ⟨rfl, HX.out⟩
end
end Go.Proofs.YteildpeogbenbaaDoor
