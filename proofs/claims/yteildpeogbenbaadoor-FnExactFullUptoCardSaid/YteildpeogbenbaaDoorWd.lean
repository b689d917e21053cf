/- Walks: addLine, reset. -/
import Derived.Test.YteildpeogbenbaaDoorWc
import Derived.Deep.CutRange
import Derived.Deep.CutBlock
namespace Go.Proofs.YteildpeogbenbaaDoor
open Go.RowKit Go.Tw Go.Sort
set_option maxRecDepth 100000

theorem zero_nil (n : Nat) : (Builtin.zeroCells (Value.cells (.slice none 0 0)) n).toList = List.replicate n (Value.slice none 0 0) := by
  have h1 : ∀ i : Nat, i % 1 = 0 := fun i => by omega
  simp only [Builtin.zeroCells, Value.cells, List.size_toArray, List.length_cons, List.length_nil, Nat.zero_add, Nat.mul_one, h1]
  apply List.ext_getElem <;> simp

/-- One more (nil) slice behind a full list of slices: a new block. -/
theorem run_append_full {F : Nat → Prop} {w : World} {lv : Value} {lines : List (List PC)} {vs : List Value} (h : LinesOwn F w lv lines vs) (hfull : vs.length = lines.length) (hb : vs.length ≤ 1000000000000) (a : Addr) (ha : w.cell? a = some (.slice none 0 0)) (ty : TypeId) :
    ∃ k, (Builtin.append_ #[74, 74] ty #[lv, .slice (some a) 1 1]).run Tryd.prog w =
      .ok (.slice (some ⟨w.heap.size, 0, none⟩) (vs.length + 1) (vs.length + 1 + k)) (w.drew.alloc (.cells (vs ++ List.replicate (k + 1) (Value.slice none 0 0)).toArray 100)) ∧ vs.length + 1 + k ≤ maxLen := by
  obtain ⟨i0, hi0, hz0, hz1, hz2⟩ := info_parts Tryd.info_pcl
  have hl1 : ([Value.slice none 0 0] : List Value).length = 1 * i0.size := by simp [hz1]
  have hnews : ∀ j v, ([Value.slice none 0 0] : List Value)[j]? = some v → w.cell? (a.add j) = some v := by
    intro j v hj
    match j, hj with
    | 0, hj => simp at hj; subst hj; simpa [Addr.add] using ha
  have hge := grownCap_ge w (vs.length + 1) vs.length 100
  have hmx := grownCap_le_maxLen w (vs.length + 1) vs.length 100 (by unfold maxLen; omega)
  have arr : ∀ (x k : Nat), k = x → (vs.toArray ++ [Value.slice none 0 0].toArray ++ Builtin.zeroCells (Value.cells (.slice none 0 0)) k) = (vs ++ List.replicate (x + 1) (Value.slice none 0 0)).toArray := by
    intro x k e
    subst e
    apply Array.toList_inj.1
    simp [zero_nil, List.replicate_succ]
  refine ⟨grownCap w (vs.length + 1) vs.length 100 - (vs.length + 1), ?_, by omega⟩
  rcases h.val with ⟨rfl, rfl⟩ | ⟨L, rfl, hFL, hLb, hLm⟩
  · have := run_append_nil (P := Tryd.prog) w 74 ty 100 i0 (.slice none 0 0) Tryd.underlying74 hi0 hz0 a 1 1 [.slice none 0 0] hl1 hnews (by decide) (by decide) (by rw [hz2]; decide)
    rw [this]
    simp only [List.length_nil, Nat.zero_add] at hge ⊢
    have e := arr (grownCap w 1 0 100 - 1) _ rfl
    congr 1
    · congr 1; omega
    · rw [← e]; simp
  · rw [← hfull]
    have holds : ∀ j v, vs[j]? = some v → w.cell? ((⟨L, 0, none⟩ : Addr).add j) = some v := by
      intro j v hj
      have : (⟨L, 0, none⟩ : Addr).add j = ⟨L, j, none⟩ := by cases j <;> simp [Addr.add]
      rw [this, cell_of_blk hLb]; simpa using hj
    have := run_append_grow (P := Tryd.prog) w 74 ty 100 i0 (.slice none 0 0) Tryd.underlying74 hi0 hz0 ⟨L, 0, none⟩ vs.length vs.length vs (by simp [hz1]) holds a 1 1 [.slice none 0 0] hl1 hnews (by omega) (by omega) (by rw [hz2]; exact growslice_fits (by omega) (by omega))
    rw [this]
    congr 1
    · congr 1; omega
    · rw [arr _ _ rfl]

section
variable {F : Nat → Prop} {w : World} {B S : Nat} {c : Cfg} {s : St}

/-- The lines behind a new block. -/
theorem LinesOwn.moved {lv : Value} {lines : List (List PC)} {vs : List Value} (h : LinesOwn F w lv lines vs) (hfull : vs.length = lines.length) {w' : World} (t : Tch (fun _ => False) w w') {g k : Nat} (hg : w'.heap[g]? = some (.cells (vs ++ List.replicate (k + 1) (Value.slice none 0 0)).toArray 100 (0, 0))) (hF : F g) (hm : vs.length + 1 + k ≤ maxLen) :
    LinesOwn F w' (.slice (some ⟨g, 0, none⟩) (vs.length + 1) (vs.length + 1 + k)) (lines ++ [[]]) (vs ++ List.replicate (k + 1) (Value.slice none 0 0)) := by
  have hnil : ∀ (i : Nat) (v : Value), vs.length ≤ i → (vs ++ List.replicate (k + 1) (Value.slice none 0 0))[i]? = some v → v = .slice none 0 0 := by
    intro i v hi hv
    rw [List.getElem?_append_right hi] at hv
    have := List.mem_of_getElem? hv
    simpa using this
  refine ⟨.inr ⟨g, by simp [hfull]; omega, hF, hg, by simp; omega⟩, by simp; omega, ?_, ?_⟩
  · intro i v hv
    by_cases hi : i < vs.length
    · rw [List.getElem?_append_left hi] at hv
      obtain ⟨n, xs, ho, hl⟩ := h.row i v hv
      refine ⟨n, xs, ho.kept t (fun _ _ => id), fun l hl' => hl l ?_⟩
      rw [List.getElem?_append_left (by omega)] at hl'; exact hl'
    · have := hnil i v (by omega) hv
      subst this
      refine ⟨0, [], Own.nil _ _ _ _, fun l hl' => ?_⟩
      rw [List.getElem?_append_right (by omega)] at hl'
      have := List.mem_of_getElem? hl'
      simp at this; subst this; simp [pcs]
  · intro i j v v' hij hv hv'
    by_cases hj : j < vs.length
    · rw [List.getElem?_append_left hj] at hv'
      rw [List.getElem?_append_left (by omega)] at hv
      exact h.ne i j v v' hij hv hv'
    · have := hnil j v' (by omega) hv'
      subst this
      cases e : v.ownBlock with
      | none => exact .inl rfl
      | some x => exact .inr (by simp [Value.ownBlock])

/-- A line that was there once is used again. -/
theorem LinesOwn.reused {L : Nat} {n cap : Nat} {lines : List (List PC)} {vs : List Value} (h : LinesOwn F w (.slice (some ⟨L, 0, none⟩) n cap) lines vs) {v : Value} {ao : Option Addr} {m cp : Nat} (hv : vs[lines.length]? = some v) (hsh : v = .slice ao m cp) :
    LinesOwn F (w.setCell ⟨L, lines.length, none⟩ (.slice ao 0 cp)) (.slice (some ⟨L, 0, none⟩) (n + 1) cap) (lines ++ [[]]) (vs.set lines.length (.slice ao 0 cp)) := by
  subst hsh
  obtain ⟨hLb, hFL⟩ := h.blockL rfl
  have hlt : lines.length < vs.length := (List.getElem?_eq_some_iff.1 hv).1
  have t2 : Tch (· = L) w (w.setCell ⟨L, lines.length, none⟩ (.slice ao 0 cp)) := Tch.setCell (F := (· = L)) (a := ⟨L, lines.length, none⟩) w rfl _
  have hset := blk_set hLb lines.length (.slice ao 0 cp)
  have keep : ∀ {u : Value} {n : Nat} {xs : List Value}, Own F w 73 3 u n xs → Own F (w.setCell ⟨L, lines.length, none⟩ (.slice ao 0 cp)) 73 3 u n xs := by
    intro u n xs ho
    refine ho.kept t2 (fun g hg e => ?_)
    subst e
    obtain ⟨cur, hc⟩ := ho.block hg
    rw [hLb] at hc; simp at hc
  have hval := h.val
  refine ⟨?_, by simp; omega, ?_, ?_⟩
  · rcases hval with ⟨e, _⟩ | ⟨L', e, _, _, hm⟩
    · cases e
    · simp only [Value.slice.injEq, Option.some.injEq] at e
      obtain ⟨e1, e2, e3⟩ := e
      exact .inr ⟨L, by simp [e2, e3], hFL, by rw [hset]; simp, by simpa using hm⟩
  · intro i u hu
    by_cases hi : i = lines.length
    · subst hi
      rw [List.getElem?_set_self hlt] at hu
      cases hu
      obtain ⟨n1, xs1, ho1, _⟩ := h.row lines.length _ hv
      refine ⟨0, [], ?_, fun l hl => ?_⟩
      · have ho2 := keep ho1
        refine ⟨⟨by simp, ?_⟩, fun x hx => ho2.mem x (by cases ao <;> exact hx)⟩
        rcases ho2.row.2 with ⟨e, _⟩ | ⟨g, cap', cur, e, hb, hg, hc, hm, hs, _⟩
        · simp only [Value.slice.injEq] at e
          obtain ⟨rfl, _, rfl⟩ := e
          exact .inl ⟨rfl, rfl⟩
        · simp only [Value.slice.injEq] at e
          obtain ⟨rfl, _, rfl⟩ := e
          exact .inr ⟨g, cp, cur, rfl, hb, hg, Nat.zero_le _, hm, hs, by simp⟩
      · simp at hl; subst hl; simp [pcs]
    · rw [List.getElem?_set_ne (Ne.symm hi)] at hu
      obtain ⟨n1, xs1, ho1, hl1⟩ := h.row i u hu
      refine ⟨n1, xs1, keep ho1, fun l hl => hl1 l ?_⟩
      rcases Nat.lt_or_gt_of_ne hi with h1 | h1
      · rw [List.getElem?_append_left h1] at hl; exact hl
      · rw [List.getElem?_append_right (by omega)] at hl
        have : i - lines.length = (i - lines.length - 1) + 1 := by omega
        rw [this] at hl; simp at hl
  · intro i j u u' hij hu hu'
    have same : ∀ (k : Nat) (x : Value), (vs.set lines.length (.slice ao 0 cp))[k]? = some x → ∃ y, vs[k]? = some y ∧ y.ownBlock = x.ownBlock := by
      intro k x hx
      by_cases hk : k = lines.length
      · subst hk
        rw [List.getElem?_set_self hlt] at hx
        cases hx
        exact ⟨_, hv, by cases ao <;> rfl⟩
      · rw [List.getElem?_set_ne (Ne.symm hk)] at hx
        exact ⟨x, hx, rfl⟩
    obtain ⟨y, hy, ey⟩ := same i u hu
    obtain ⟨y', hy', ey'⟩ := same j u' hu'
    rw [← ey, ← ey']
    exact h.ne i j y y' hij hy hy'

/-- A line's row is made anew. -/
theorem LinesOwn.replaced {L : Nat} {n cap : Nat} {lines : List (List PC)} {vs : List Value} (h : LinesOwn F w (.slice (some ⟨L, 0, none⟩) n cap) (lines ++ [[]]) vs) {v' : Value} {g cp : Nat} {cur : Array Value} (hv' : v' = .slice (some ⟨g, 0, none⟩) 0 cp) (hg : w.heap[g]? = some (.cells cur 73 (0, 0))) (hcs : cur.size = cp * 3) (hcm : cp ≤ maxLen) (hFg : F g) (hnew : ∀ (i : Nat) u, vs[i]? = some u → u.ownBlock ≠ some g) :
    LinesOwn F (w.setCell ⟨L, lines.length, none⟩ v') (.slice (some ⟨L, 0, none⟩) n cap) (lines ++ [[]]) (vs.set lines.length v') := by
  subst hv'
  obtain ⟨hLb, hFL⟩ := h.blockL rfl
  have hlt : lines.length < vs.length := by have := h.le; simp at this; omega
  have t2 : Tch (· = L) w (w.setCell ⟨L, lines.length, none⟩ (.slice (some ⟨g, 0, none⟩) 0 cp)) := Tch.setCell (F := (· = L)) (a := ⟨L, lines.length, none⟩) w rfl _
  have hset := blk_set hLb lines.length (.slice (some ⟨g, 0, none⟩) 0 cp)
  have keep : ∀ {u : Value} {n : Nat} {xs : List Value}, Own F w 73 3 u n xs → Own F (w.setCell ⟨L, lines.length, none⟩ (.slice (some ⟨g, 0, none⟩) 0 cp)) 73 3 u n xs := by
    intro u n xs ho
    refine ho.kept t2 (fun g hg e => ?_)
    subst e
    obtain ⟨cur, hc⟩ := ho.block hg
    rw [hLb] at hc; simp at hc
  have hval := h.val
  refine ⟨?_, by have := h.le; simpa using this, ?_, ?_⟩
  · rcases hval with ⟨e, _⟩ | ⟨L', e, _, _, hm⟩
    · cases e
    · simp only [Value.slice.injEq, Option.some.injEq] at e
      obtain ⟨e1, e2, e3⟩ := e
      exact .inr ⟨L, by simp [e2, e3], hFL, by rw [hset]; simp, by simpa using hm⟩
  · intro i u hu
    by_cases hi : i = lines.length
    · subst hi
      rw [List.getElem?_set_self hlt] at hu
      cases hu
      refine ⟨0, [], keep ⟨⟨by simp, .inr ⟨g, cp, cur, rfl, Nat.zero_le _, hg, Nat.zero_le _, hcm, hcs, by simp⟩⟩, fun x hx => by simp [Value.ownBlock] at hx; subst hx; exact hFg⟩, fun l hl => ?_⟩
      simp at hl; subst hl; simp [pcs]
    · rw [List.getElem?_set_ne (Ne.symm hi)] at hu
      obtain ⟨n1, xs1, ho1, hl1⟩ := h.row i u hu
      exact ⟨n1, xs1, keep ho1, hl1⟩
  · intro i j u u' hij hu hu'
    by_cases hi : i = lines.length
    · subst hi
      rw [List.getElem?_set_self hlt] at hu
      cases hu
      rw [List.getElem?_set_ne (by omega)] at hu'
      exact .inr (fun e => hnew j u' hu' (by rw [← e]; rfl))
    · rw [List.getElem?_set_ne (Ne.symm hi)] at hu
      by_cases hj : j = lines.length
      · subst hj
        rw [List.getElem?_set_self hlt] at hu'
        cases hu'
        exact .inr (fun e => hnew i u hu (by rw [e]; rfl))
      · rw [List.getElem?_set_ne (Ne.symm hj)] at hu'
        exact h.ne i j u u' hij hu hu'


theorem Parts.withLines {bufv lv wv ov : Value} {vs : List Value} {room : Int} {bf ot : List UInt8} {ls : List (List PC)} {ws : List Nat} (h : Parts F w S room bf ls ws ot bufv lv wv ov vs) {w' : World} {lv' : Value} {ls' : List (List PC)} {vs' : List Value} (t : Tch (fun k => lv.ownBlock = some k) w w') (hl : LinesOwn F w' lv' ls' vs') : Parts F w' S room bf ls' ws ot bufv lv' wv ov vs' := by
  have no : ∀ {k : Nat} {cs : Array Value} {T : TypeId} {fr : Nat × Nat}, w.heap[k]? = some (.cells cs T fr) → T ≠ 100 → ¬ (lv.ownBlock = some k) := by
    intro k cs T fr hk hT e
    have := (h.lines.blockL e).1
    rw [hk] at this; simp at this; exact hT this.2.1
  exact ⟨h.buf.kept t (fun g hg => no (h.buf.block hg).choose_spec (by decide)), hl, h.wds.kept t (fun g hg => no (h.wds.block hg).choose_spec (by decide)), t.heap h.sink (no h.sink (by decide)), h.FS, h.out.kept t (fun g hg => no (h.out.block hg).choose_spec (by decide)), h.ne, h.fits⟩

set_option maxHeartbeats 1000000 in
theorem addLine_calls (hF : ∀ k, w.heap.size ≤ k → F k) (hrep : Rep F w B S c s) (hb1 : s.lines.length ≤ 100000000000) (hb2 : ∀ l ∈ s.lines, l.length ≤ 1000000000000) (fl : Bool) :
    Calls Tryd.prog 37 #[.pointer (some ⟨B, 0, none⟩), .bool fl] w fun ed w' => ed = .returned (.tuple #[]) ∧ Rep F w' B S c { s with lines := s.lines ++ [[]] } ∧ Tch F w w' := by
  obtain ⟨bufv, lv, wv, ov, vs, hrp⟩ := hrep
  have hle := hrp.parts.lines.le
  by_cases hroom : s.lines.length + 1 ≤ vs.length
  obtain ⟨L, rfl, hFL, hLb, hLm⟩ : ∃ L, lv = .slice (some ⟨L, 0, none⟩) s.lines.length vs.length ∧ F L ∧ w.heap[L]? = some (.cells vs.toArray 100 (0, 0)) ∧ vs.length ≤ maxLen := by
    rcases hrp.parts.lines.val with ⟨_, rfl⟩ | h
    · simp at hroom
    · exact h
  obtain ⟨v, hv⟩ : ∃ v, vs[s.lines.length]? = some v := ⟨vs[s.lines.length], by simp⟩
  obtain ⟨n1, xs1, ho1, _⟩ := hrp.parts.lines.row _ v hv
  obtain ⟨ao, cp, rfl⟩ := ho1.shape
  have c19 : w.cell? ⟨B, 19, none⟩ = some (.slice (some ⟨L, 0, none⟩) s.lines.length vs.length) := cell_of_blk hrp.blk 19
  have f19 := frozen_of_blk hrp.blk 19
  have fL := frozen_of_blk hLb s.lines.length
  have cL : w.cell? ⟨L, s.lines.length, none⟩ = some (.slice ao n1 cp) := by rw [cell_of_blk hLb]; simpa using hv
  have hne : ¬ L = B := fun e => by have h1 := hLb; rw [e, hrp.blk] at h1; simp at h1
  have hne' : ¬ B = L := fun e => hne e.symm
  have HV := Lib.hid hv
  have HB2 := Lib.hid hb2
  have HLB := Lib.hid hLb
  clear hv hb2 hLb
  unfold maxLen at hLm
  have hx0 : (s.lines.length : Int) < (s.lines.length : Int) + 1 := by omega
  have hw0 : IntKind.i64.wrap (s.lines.length : Int) = s.lines.length := IntWalk.i64_in _ (by omega)
  go_enter Tryd.func37, Tryd.ntmps37
  go_wp2_with fail
  refine wp_region_rf (fun w' => w' = (w.setCell ⟨B, 19, none⟩ (.slice (some ⟨L, 0, none⟩) (s.lines.length + 1) vs.length)).drew) [0, 1, 2, 3, 4, 5, 6, 7, 8, 9, 10, 11, 12, 13, 14] [15, 16] 0 [_, _, _, _, _, _, _, _, _, _, _, _, _, _, _] [_, _] (by kernel_rfl) (by kernel_rfl) rfl rfl (fun _ _ d _ _ h => by cases d <;> exact h) rfl ?_
  iterate 15 (refine wpR_step rfl (fun K hK => ?_); go_simp; refine hK _ ?_; clear hK K)
  refine wpR_nil (wpE_zero ?_)
  go_upto_region 5 with (fail)
  obtain ⟨L2, vs2, hL2, E2, P2, T2, F2⟩ : ∃ (L2 : Nat) (vs2 : List Value), (L2 = L ∧ vs2.length = vs.length) ∧
      Hid (((w.setCell ⟨B, 19, none⟩ (.slice (some ⟨L, 0, none⟩) (s.lines.length + 1) vs.length)).setCell ⟨L, s.lines.length, none⟩ (.slice ao 0 cp)).drew.heap[B]? = some (.cells (wcells S c bufv s.pos s.csize s.cw false s.en (.slice (some ⟨L2, 0, none⟩) (s.lines.length + 1) vs2.length) wv) 77 (0, 0))) ∧
      Hid (Parts F ((w.setCell ⟨B, 19, none⟩ (.slice (some ⟨L, 0, none⟩) (s.lines.length + 1) vs.length)).setCell ⟨L, s.lines.length, none⟩ (.slice ao 0 cp)).drew S c.room s.buf (s.lines ++ [[]]) s.ws s.out bufv (.slice (some ⟨L2, 0, none⟩) (s.lines.length + 1) vs2.length) wv ov vs2) ∧
      Hid (Tch F w ((w.setCell ⟨B, 19, none⟩ (.slice (some ⟨L, 0, none⟩) (s.lines.length + 1) vs.length)).setCell ⟨L, s.lines.length, none⟩ (.slice ao 0 cp)).drew) ∧
      Hid (∀ k, ((w.setCell ⟨B, 19, none⟩ (.slice (some ⟨L, 0, none⟩) (s.lines.length + 1) vs.length)).setCell ⟨L, s.lines.length, none⟩ (.slice ao 0 cp)).drew.heap.size ≤ k → F k) := by
    have e1 := blk_set hrp.blk 19 (.slice (some ⟨L, 0, none⟩) (s.lines.length + 1) vs.length)
    have hP1 := hrp.parts.setB hrp.blk 19 (.slice (some ⟨L, 0, none⟩) (s.lines.length + 1) vs.length)
    have tL : Tch (fun k => (Value.slice (some ⟨L, 0, none⟩) s.lines.length vs.length).ownBlock = some k) (w.setCell ⟨B, 19, none⟩ (.slice (some ⟨L, 0, none⟩) (s.lines.length + 1) vs.length)) ((w.setCell ⟨B, 19, none⟩ (.slice (some ⟨L, 0, none⟩) (s.lines.length + 1) vs.length)).setCell ⟨L, s.lines.length, none⟩ (.slice ao 0 cp)) := Tch.setCell (F := fun k => (Value.slice (some ⟨L, 0, none⟩) s.lines.length vs.length).ownBlock = some k) (a := ⟨L, s.lines.length, none⟩) _ rfl _
    have hP2 := hP1.withLines tL (hP1.lines.reused HV.out rfl)
    have hlen : (vs.set s.lines.length (.slice ao 0 cp)).length = vs.length := by simp
    refine ⟨L, vs.set s.lines.length (.slice ao 0 cp), ⟨rfl, hlen⟩, ?_, ?_, ?_, ?_⟩
    · rw [hlen]
      have e2 := tL.heap e1 (by simp [Value.ownBlock, hne])
      show _ = _
      rw [show ((w.setCell ⟨B, 19, none⟩ (.slice (some ⟨L, 0, none⟩) (s.lines.length + 1) vs.length)).setCell ⟨L, s.lines.length, none⟩ (.slice ao 0 cp)).drew.heap = ((w.setCell ⟨B, 19, none⟩ (.slice (some ⟨L, 0, none⟩) (s.lines.length + 1) vs.length)).setCell ⟨L, s.lines.length, none⟩ (.slice ao 0 cp)).heap from rfl, e2]
      simp [wcells]
    · rw [hlen]; exact hP2.drew
    · exact ((Tch.setCell _ hrp.FB _).trans (Tch.setCell _ hFL _)).trans (Tch.drew F _)
    · intro k hk; exact hF k (by simpa [World.setCell] using hk)
  obtain ⟨-, hcap2⟩ := hL2
  have hcm2 : vs2.length ≤ 9223372036854775807 := by omega
  clear HV HLB c19 f19 fL cL hne hne' hcap2 hw0 hx0
  revert E2 P2 T2 F2
  generalize ((w.setCell ⟨B, 19, none⟩ (.slice (some ⟨L, 0, none⟩) (s.lines.length + 1) vs.length)).setCell ⟨L, s.lines.length, none⟩ (.slice ao 0 cp)).drew = w2
  intro E2 P2 T2 F2
  rotate_left
  have hfull : vs.length = s.lines.length := by omega
  obtain ⟨ao, cpl, hlv⟩ : ∃ ao cpl, lv = .slice ao s.lines.length cpl ∧ cpl = vs.length := by
    rcases hrp.parts.lines.val with ⟨rfl, rfl⟩ | ⟨L, rfl, _⟩
    · exact ⟨none, 0, by rw [← hfull]; rfl, rfl⟩
    · exact ⟨_, _, rfl, rfl⟩
  obtain ⟨rfl, rfl⟩ := hlv
  have c19 : w.cell? ⟨B, 19, none⟩ = some (.slice ao s.lines.length vs.length) := cell_of_blk hrp.blk 19
  have hPa := hrp.parts.alloc (.cells #[.slice none 0 0] 100)
  obtain ⟨kk, hrun, hkm⟩ := run_append_full hPa.lines hfull (by omega) ⟨w.heap.size, 0, none⟩ (by simp) 74
  have HFULL := Lib.hid hfull
  have HRUN := Lib.hid hrun
  have HB2 := Lib.hid hb2
  clear hrun hfull hb2
  obtain ⟨w1, hw1⟩ : ∃ w1, w1 = (w.alloc (.cells #[.slice none 0 0] 100)).drew.alloc (.cells (vs ++ List.replicate (kk + 1) (Value.slice none 0 0)).toArray 100) := ⟨_, rfl⟩
  have hrun := HRUN.out
  rw [← hw1] at hrun
  have HRUN2 := Lib.hid hrun
  have t1 : Tch (fun _ => False) w w1 := by rw [hw1]; exact ((Tch.alloc _ w _).trans (Tch.drew _ _)).trans (Tch.alloc _ _ _)
  have hg1 : w1.heap[w.heap.size + 1]? = some (.cells (vs ++ List.replicate (kk + 1) (Value.slice none 0 0)).toArray 100 (0, 0)) := by
    rw [hw1]
    have := heap_alloc_new (w.alloc (.cells #[.slice none 0 0] 100)).drew (.cells (vs ++ List.replicate (kk + 1) (Value.slice none 0 0)).toArray 100)
    simpa using this
  have hB1 := t1.heap hrp.blk id
  have d19 : w1.cell? ⟨B, 19, none⟩ = some (.slice ao s.lines.length vs.length) := cell_of_blk hB1 19
  have g19 := frozen_of_blk hB1 19
  have hsz : (w.alloc (.cells #[.slice none 0 0] 100)).heap.size = w.heap.size + 1 := by simp
  rw [hsz] at hrun
  have HRUN2 := Lib.hid hrun
  have HB1 := Lib.hid hB1
  have T1 := Lib.hid t1
  have G1 := Lib.hid hg1
  have S1 : Hid (w.heap.size ≤ w1.heap.size) := t1.size
  clear hrun HRUN hw1 hB1 t1 hg1 hsz hPa
  go_enter Tryd.func37, Tryd.ntmps37
  go_upto_region 5 with (at_builtin; refine wpList_append_eq rfl (.tmp 49) (.tmp 50) 74 rfl rfl rfl HRUN2.out ?_)
  obtain ⟨L2, vs2, hL2, E2, P2, T2, F2⟩ : ∃ (L2 : Nat) (vs2 : List Value), (L2 = w.heap.size + 1 ∧ vs2.length = vs.length + 1 + kk) ∧
      Hid ((w1.setCell ⟨B, 19, none⟩ (.slice (some ⟨w.heap.size + 1, 0, none⟩) (vs.length + 1) (vs.length + 1 + kk))).heap[B]? = some (.cells (wcells S c bufv s.pos s.csize s.cw false s.en (.slice (some ⟨L2, 0, none⟩) (s.lines.length + 1) vs2.length) wv) 77 (0, 0))) ∧
      Hid (Parts F (w1.setCell ⟨B, 19, none⟩ (.slice (some ⟨w.heap.size + 1, 0, none⟩) (vs.length + 1) (vs.length + 1 + kk))) S c.room s.buf (s.lines ++ [[]]) s.ws s.out bufv (.slice (some ⟨L2, 0, none⟩) (s.lines.length + 1) vs2.length) wv ov vs2) ∧
      Hid (Tch F w (w1.setCell ⟨B, 19, none⟩ (.slice (some ⟨w.heap.size + 1, 0, none⟩) (vs.length + 1) (vs.length + 1 + kk)))) ∧
      Hid (∀ k, (w1.setCell ⟨B, 19, none⟩ (.slice (some ⟨w.heap.size + 1, 0, none⟩) (vs.length + 1) (vs.length + 1 + kk))).heap.size ≤ k → F k) := by
    have hlen : (vs ++ List.replicate (kk + 1) (Value.slice none 0 0)).length = vs.length + 1 + kk := by simp; omega
    have e1 := blk_set HB1.out 19 (.slice (some ⟨w.heap.size + 1, 0, none⟩) (vs.length + 1) (vs.length + 1 + kk))
    have hl1 := hrp.parts.lines.moved HFULL.out T1.out G1.out (hF _ (by omega)) hkm
    have hP1 := hrp.parts.withLines (T1.out.mono (fun _ h => h.elim)) hl1
    refine ⟨w.heap.size + 1, vs ++ List.replicate (kk + 1) (Value.slice none 0 0), ⟨rfl, hlen⟩, ?_, ?_, ?_, ?_⟩
    · rw [hlen, ← HFULL.out]
      show _ = _
      rw [e1]; simp [wcells]
    · rw [hlen, ← HFULL.out]; exact hP1.setB HB1.out 19 _
    · exact (T1.out.mono (fun _ h => h.elim)).trans (Tch.setCell _ hrp.FB _)
    · intro k hk; exact hF k (by have := S1.out; simp [World.setCell] at hk; omega)
  obtain ⟨-, hcap2⟩ := hL2
  have hcm2 : vs2.length ≤ 9223372036854775807 := by unfold maxLen at hkm; omega
  clear HRUN2 HB1 T1 G1 S1 c19 d19 g19 hcap2
  revert E2 P2 T2 F2
  generalize w1.setCell ⟨B, 19, none⟩ (.slice (some ⟨w.heap.size + 1, 0, none⟩) (vs.length + 1) (vs.length + 1 + kk)) = w2
  intro E2 P2 T2 F2
  all_goals
    have hFB := hrp.FB
    have c19 : w2.cell? ⟨B, 19, none⟩ = some (.slice (some ⟨L2, 0, none⟩) (s.lines.length + 1) vs2.length) := cell_of_blk E2.out 19
    have hLb2 := (P2.out.lines.blockL rfl).1
    have hFL2 := (P2.out.lines.blockL rfl).2
    have hle2 : s.lines.length + 1 ≤ vs2.length := by have := P2.out.lines.le; simpa using this
    clear hrp
    cases fl
    rotate_left
    · go_wp2
      go_end0
      exact ⟨rfl, ⟨bufv, _, wv, ov, vs2, E2.out, hFB, P2.out⟩, T2.out⟩
    · by_cases hz : s.lines.length < 1
      · go_wp2
        go_end0
        exact ⟨rfl, ⟨bufv, _, wv, ov, vs2, E2.out, hFB, P2.out⟩, T2.out⟩
      · obtain ⟨v, hv⟩ : ∃ v, vs2[s.lines.length]? = some v := ⟨vs2[s.lines.length], by simp⟩
        obtain ⟨u, hu⟩ : ∃ u, vs2[s.lines.length - 1]? = some u := ⟨vs2[s.lines.length - 1], by simp⟩
        obtain ⟨nv, xv, hov, hnv⟩ := P2.out.lines.row _ v hv
        obtain ⟨nu, xu, hou, hnu⟩ := P2.out.lines.row _ u hu
        obtain ⟨av, cv, rfl⟩ := hov.shape
        obtain ⟨au, cu, rfl⟩ := hou.shape
        have hnu2 : nu ≤ 1000000000000 := by
          have := (hnu (s.lines[s.lines.length - 1]) (by rw [List.getElem?_append_left (by omega)]; simp)).1
          rw [this]; exact HB2.out _ (List.getElem_mem _)
        have cv1 : w2.cell? ⟨L2, s.lines.length, none⟩ = some (.slice av nv cv) := by rw [cell_of_blk hLb2]; simpa using hv
        have cu1 : w2.cell? ⟨L2, s.lines.length - 1, none⟩ = some (.slice au nu cu) := by rw [cell_of_blk hLb2]; simpa using hu
        have HLB2 := Lib.hid hLb2
        have HU := Lib.hid hu
        have HV := Lib.hid hv
        clear hLb2 hu hv hnv hnu
        by_cases hcap : nu ≤ cv
        · go_wp2
          go_end0
          exact ⟨rfl, ⟨bufv, _, wv, ov, vs2, E2.out, hFB, P2.out⟩, T2.out⟩
        · obtain ⟨i0, hi0, hz0, hz1, hz2⟩ := info_parts Tryd.info_pc
          obtain ⟨w3, hrun, hown3, hgrow3⟩ := run_make_own (P := Tryd.prog) w2.drew 0 100 73 i0 _ 3 Tryd.underlying100 hi0 hz0 hz1 .i64 .i64 nu (by rw [hz2]; omega) (by unfold maxLen; omega) (Nat.zero_le _)
          have t3 : Tch (fun _ => False) w2 w3 := (Tch.drew _ w2).trans (Tch.grown hgrow3 (fun k e => by cases e))
          have P3 := Lib.hid (P2.out.keptOther t3 (fun _ e => e.elim))
          have E3 := Lib.hid (t3.heap E2.out id)
          have L3 := Lib.hid (t3.heap HLB2.out id)
          obtain ⟨cur, hg3, hcs3, hcm3⟩ : ∃ cur, w3.heap[w2.heap.size]? = some (.cells cur 73 (0, 0)) ∧ cur.size = nu * 3 ∧ nu ≤ maxLen := by
            rcases hown3.2 with ⟨e, _⟩ | ⟨g, cap, cur, e, _, hh, _, hm, hs, _⟩
            · cases e
            · simp only [Value.slice.injEq, Option.some.injEq, Addr.mk.injEq] at e
              obtain ⟨⟨e1, _⟩, _, e3⟩ := e
              subst e3
              exact ⟨cur, by rw [show w2.heap.size = g from e1]; exact hh, hs, hm⟩
          have d19 : w3.cell? ⟨B, 19, none⟩ = some (.slice (some ⟨L2, 0, none⟩) (s.lines.length + 1) vs2.length) := cell_of_blk E3.out 19
          have dv : w3.cell? ⟨L2, s.lines.length, none⟩ = some (.slice av nv cv) := by rw [cell_of_blk L3.out]; simpa using HV.out
          have gL := frozen_of_blk L3.out s.lines.length
          have hw1 : IntKind.i64.wrap (s.lines.length : Int) = s.lines.length := IntWalk.i64_in _ (by omega)
          have hx1 : (s.lines.length : Int) < (s.lines.length : Int) + 1 := by omega
          have HRUN := Lib.hid hrun
          have T3 := Lib.hid t3
          have G3 := Lib.hid hg3
          clear hrun t3 hg3 hgrow3 hown3
          go_wp2_with fail
          refine wp_region_rf (fun w' => w' = w2.drew ∨ w' = w3) [0, 1, 2, 3, 4, 5, 6] [7, 8, 9] 1 [_, _, _, _, _, _, _] [_, _, _] (by kernel_rfl) (by kernel_rfl) rfl rfl (fun _ _ d _ _ h => by cases d <;> exact h) (.inl rfl) ?_
          iterate 7 (refine wpR_step rfl (fun K hK => ?_); go_simp; refine hK _ ?_; clear hK K)
          refine wpR_nil ?_
          refine wpE_step rfl (fun K hK => ?_)
          refine wp_make_eq _ _ 100 rfl rfl rfl HRUN.out ?_
          go_simp
          refine hK _ _ (.inr rfl) ?_
          clear hK K
          refine wpE_zero ?_
          go_wp2
          go_end0
          have tL : Tch (fun k => (Value.slice (some ⟨L2, 0, none⟩) (s.lines.length + 1) vs2.length).ownBlock = some k) w3 (w3.setCell ⟨L2, s.lines.length, none⟩ (.slice (some ⟨w2.heap.size, 0, none⟩) 0 nu)) := Tch.setCell (F := fun k => (Value.slice (some ⟨L2, 0, none⟩) (s.lines.length + 1) vs2.length).ownBlock = some k) (a := ⟨L2, s.lines.length, none⟩) _ rfl _
          have hrep3 := P3.out.lines.replaced (v' := .slice (some ⟨w2.heap.size, 0, none⟩) 0 nu) rfl G3.out hcs3 hcm3 (F2.out _ (Nat.le_refl _)) (fun i x hx e => by
            obtain ⟨nn, xx, hoo, _⟩ := P2.out.lines.row i x hx
            have := hoo.lt e
            omega)
          have hne : ¬ L2 = B := fun e => by have h1 := L3.out; rw [e, E3.out] at h1; simp at h1
          have hE4 := tL.heap E3.out (by simp [Value.ownBlock, hne])
          have hlen : (vs2.set s.lines.length (.slice (some ⟨w2.heap.size, 0, none⟩) 0 nu)).length = vs2.length := by simp
          exact ⟨rfl, ⟨bufv, _, wv, ov, _, hE4, hFB, P3.out.withLines tL hrep3⟩, (T2.out.trans (T3.out.mono (fun _ h => h.elim))).trans (Tch.setCell _ hFL2 _)⟩
end
end Go.Proofs.YteildpeogbenbaaDoor
