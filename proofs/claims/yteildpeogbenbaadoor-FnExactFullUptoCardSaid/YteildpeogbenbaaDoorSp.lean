/- Walks: spec.Format. -/
import Derived.Test.YteildpeogbenbaaDoorSi
import Derived.Test.YteildpeogbenbaaDoorSk
import Derived.Test.YteildpeogbenbaaDoorSm
import Derived.Test.YteildpeogbenbaaDoorSn
import Derived.Lib.AppendStr
namespace Go.Proofs.YteildpeogbenbaaDoor
open Go.RowKit Go.Tw Go.Sort
set_option maxRecDepth 100000

/-- How long what the reference gives may be: the lines' sizes. -/
theorem texts_cellsGo (c : Cfg) : ∀ (n : Nat) (s : List UInt8) (x : SC) (pl : List UInt8), s.length ≤ n → (texts (cellsGo c x pl s)).length ≤ x.text.length + pl.length + s.length := by
  intro n
  induction n with
  | zero =>
    intro s x pl hs
    obtain rfl : s = [] := List.length_eq_zero_iff.1 (by omega)
    rw [cellsGo]; simp
  | succ n ih =>
    intro s x pl hs
    cases s with
    | nil => rw [cellsGo]; simp
    | cons b t =>
      simp only [List.length_cons] at hs
      by_cases he : endOf c b = 0
      · rw [cellsGo, if_neg (by rw [he]; simp)]
        split
        · have := ih t ⟨[], 0, 0⟩ [] (by omega)
          simp only [texts_cons, List.length_append, List.length_cons, List.length_nil] at this ⊢
          omega
        · have := ih t x (pl ++ [b]) (by omega)
          simp only [List.length_append, List.length_cons, List.length_nil] at this ⊢
          omega
      · obtain ⟨inn, k, wh, _, _, _, h1, h2, h3, htake, hcg⟩ := sp_yes (t := t) he
        rw [hcg]
        have h4 := ih ((b :: t).drop k) ⟨x.text ++ pl ++ passT c b inn wh, x.width + rc pl + passW b inn, x.fin⟩ [] (by simp at h2 ⊢; omega)
        have h5 : (passT c b inn wh).length ≤ k := by
          have : (b :: (inn ++ (if wh = true then [endOf c b] else []))).length = k := by rw [← htake]; simp at h2 ⊢; omega
          rw [← this]; unfold passT
          split
          · simp; omega
          · exact Nat.le_refl _
        simp only [List.length_append, List.length_nil, List.length_drop, List.length_cons] at h4 h2 ⊢
        omega
theorem width_cellsGo (c : Cfg) : ∀ (n : Nat) (s : List UInt8) (x : SC) (pl : List UInt8), s.length ≤ n → 0 ≤ x.width → ∀ y ∈ cellsGo c x pl s, 0 ≤ y.width ∧ y.width ≤ x.width + pl.length + s.length := by
  intro n
  induction n with
  | zero =>
    intro s x pl hs hx y hy
    obtain rfl : s = [] := List.length_eq_zero_iff.1 (by omega)
    rw [cellsGo] at hy
    simp at hy; subst hy
    have := rc_le pl
    simp; omega
  | succ n ih =>
    intro s x pl hs hx y hy
    have hrc := rc_le pl
    cases s with
    | nil =>
      rw [cellsGo] at hy
      simp at hy; subst hy
      simp; omega
    | cons b t =>
      simp only [List.length_cons] at hs
      by_cases he : endOf c b = 0
      · rw [cellsGo, if_neg (by rw [he]; simp)] at hy
        split at hy
        · rcases List.mem_cons.1 hy with rfl | hy
          · simp only [List.length_cons]; omega
          · have := ih t ⟨[], 0, 0⟩ [] (by omega) (Int.le_refl _) y hy
            simp only [List.length_cons, List.length_nil] at this ⊢; omega
        · have := ih t x (pl ++ [b]) (by omega) hx y hy
          simp only [List.length_append, List.length_cons, List.length_nil] at this ⊢; omega
      · obtain ⟨inn, k, wh, _, _, _, h1, h2, h3, htake, hcg⟩ := sp_yes (t := t) he
        rw [hcg] at hy
        have hpw := passW_le b inn
        have h4 := ih ((b :: t).drop k) ⟨x.text ++ pl ++ passT c b inn wh, x.width + rc pl + passW b inn, x.fin⟩ [] (by simp at h2 ⊢; omega) (by show 0 ≤ x.width + (rc pl : Int) + (passW b inn : Int); omega) y hy
        simp only [List.length_nil, List.length_drop, List.length_cons] at h4 h2 ⊢
        omega
theorem linesGo_mem : ∀ (xs : List SC) (cur : List SC) (l : List SC), l ∈ linesGo cur xs → l ≠ [] ∧ (∀ x ∈ l, x ∈ cur ∨ x ∈ xs) ∧ l.length ≤ cur.length + xs.length ∧ (texts l).length ≤ (texts cur).length + (texts xs).length := by
  intro xs
  induction xs with
  | nil => intro cur l h; simp [linesGo] at h
  | cons x xs ih =>
    intro cur l h
    simp only [linesGo] at h
    split at h
    · obtain ⟨a, b, c, d⟩ := ih _ l h
      refine ⟨a, fun y hy => ?_, ?_, ?_⟩
      · rcases b y hy with h | h
        · rcases List.mem_append.1 h with h | h
          · exact .inl h
          · simp at h; subst h; exact .inr (by simp)
        · exact .inr (by simp [h])
      · simp only [List.length_append, List.length_cons, List.length_nil] at c ⊢; omega
      · simp only [texts_append, texts_cons, texts_nil, List.length_append, List.length_nil] at d ⊢; omega
    · rcases List.mem_cons.1 h with rfl | h
      · refine ⟨by simp, fun y hy => ?_, by simp, by simp⟩
        rcases List.mem_append.1 hy with h | h
        · exact .inl h
        · simp at h; subst h; exact .inr (by simp)
      · obtain ⟨a, b, c, d⟩ := ih _ l h
        refine ⟨a, fun y hy => ?_, ?_, ?_⟩
        · rcases b y hy with h | h
          · simp at h
          · exact .inr (by simp [h])
        · simp only [List.length_nil, List.length_cons] at c ⊢; omega
        · simp only [texts_cons, texts_nil, List.length_append, List.length_nil] at d ⊢; omega
theorem linesGo_len : ∀ (xs : List SC) (cur : List SC), (linesGo cur xs).length ≤ xs.length := by
  intro xs
  induction xs with
  | nil => intro cur; simp [linesGo]
  | cons x xs ih =>
    intro cur
    simp only [linesGo]
    split
    · have := ih (cur ++ [x]); simp only [List.length_cons]; omega
    · have := ih []; simp only [List.length_cons]; omega
/-- The reference's lines are small enough. -/
theorem lines_fit (c : Cfg) (s : List UInt8) (hs : s.length ≤ 900000) : FitT (linesGo [] (cellsGo c ⟨[], 0, 0⟩ [] s)) := by
  have h1 := cellsGo_len c s.length s ⟨[], 0, 0⟩ [] (Nat.le_refl _)
  have h2 := linesGo_len (cellsGo c ⟨[], 0, 0⟩ [] s) []
  have h3 := texts_cellsGo c s.length s ⟨[], 0, 0⟩ [] (Nat.le_refl _)
  simp only [List.length_nil] at h3
  refine ⟨⟨by omega, fun l hl => (linesGo_mem _ _ l hl).1, fun l hl => ?_, fun l hl x hx => ?_⟩, fun l hl => ?_⟩
  · have := (linesGo_mem _ _ l hl).2.2.1
    simp only [List.length_nil] at this; omega
  · rcases (linesGo_mem _ _ l hl).2.1 x hx with h | h
    · simp at h
    · have := width_cellsGo c s.length s ⟨[], 0, 0⟩ [] (Nat.le_refl _) (Int.le_refl _) x h
      simp only [List.length_nil] at this; omega
  · have := (linesGo_mem _ _ l hl).2.2.2
    simp only [texts_nil, List.length_nil] at this; omega
theorem cut_fit {LL : List (List SC)} (h : FitT LL) (hne : LL ≠ []) (h2 : 1 < (LL.getLastD []).length) : FitT (cutLast LL) := by
  have hm : LL.getLastD [] ∈ LL := by
    cases LL with
    | nil => exact absurd rfl hne
    | cons x LL =>
      cases hg : (x :: LL).getLast? with
      | none => simp at hg
      | some y => rw [List.getLastD_eq_getLast?, hg]; exact List.mem_of_getLast? hg
  have hmem : ∀ l ∈ cutLast LL, l ∈ LL ∨ l = (LL.getLastD []).dropLast := by
    intro l hl
    rcases List.mem_append.1 hl with h | h
    · exact .inl (List.dropLast_subset _ h)
    · exact .inr (List.mem_singleton.1 h)
  refine ⟨⟨?_, fun l hl => ?_, fun l hl => ?_, fun l hl x hx => ?_⟩, fun l hl => ?_⟩
  · have := h.len
    have h3 : 0 < LL.length := List.length_pos_iff.2 hne
    unfold cutLast; simp; omega
  · rcases hmem l hl with h1 | rfl
    · exact h.ne l h1
    · intro e
      have := congrArg List.length e
      rw [List.length_dropLast, List.length_nil] at this; omega
  · rcases hmem l hl with h1 | rfl
    · exact h.each l h1
    · have := h.each _ hm; rw [List.length_dropLast]; omega
  · rcases hmem l hl with h1 | rfl
    · exact h.wid l h1 x hx
    · exact h.wid _ hm x (List.dropLast_subset _ hx)
  · rcases hmem l hl with h1 | rfl
    · exact h.txt l h1
    · have h3 := h.txt _ hm
      have h4 : (texts (LL.getLastD []).dropLast).length ≤ (texts (LL.getLastD [])).length := by
        have : ∀ l : List SC, (texts l.dropLast).length ≤ (texts l).length := by
          intro l
          by_cases hl : l = []
          · subst hl; simp
          · conv => rhs; rw [← List.dropLast_concat_getLast hl]
            simp
        exact this _
      omega
end Go.Proofs.YteildpeogbenbaaDoor

namespace Go.Proofs.YteildpeogbenbaaDoor
open Go.RowKit Go.Tw Go.Sort
set_option maxRecDepth 100000

theorem wpList_append_eq2 {P : Program} {ops : Array Oper} {Q : Exit → Act → World → Prop} {a : Act} {w : World} {o : Oper} {rest : List Oper} (hgd : o.guard = none) (s x : Operand) (t t2 : TypeId)
    (ho : o.op = .call { callee := .builtin .append, args := #[s, x], argTypes := #[t, t2] }) {v u v' : Value} {w' : World} (hs : a.eval s = v) (hx : a.eval x = u)
    (hr : (Builtin.append_ #[t, t2] o.type #[v, u]).run P w = .ok v' w') (h : wpList P ops Q rest (a.put o.dst v') w') : wpList P ops Q (o :: rest) a w := by
  refine wpList_plain hgd fun K hK => ?_
  unfold Oper.wp execOp
  simp only [ho, resolve, invoke, builtin, Sem.run_bind, Sem.run_pure, Result.andThen_ok, List.map_toArray, List.map_cons, List.map_nil, hs, hx, hr]
  exact hK _ _ h

/-- The bar below a line is appended. -/
theorem run_append_bar {base w : World} {v : Value} {n : Nat} {pre : List UInt8} (t : Tch (New base) base w) (h : Own (New base) w 5 1 v n (bvs pre)) (hb : n ≤ 10000000000000) (ty : TypeId) :
    ∃ v' w', (Builtin.append_ #[26, 9] ty #[v, .string ⟨#[45, 45, 45, 10]⟩]).run Tryd.prog w = .ok v' w' ∧ Own (New base) w' 5 1 v' (n + 4) (bvs (pre ++ hbarL)) ∧ Tch (New base) base w' := by
  obtain ⟨i0, hi, hz0, hz1, hz2⟩ := info_parts Tryd.info_u8
  have hrow : w.ownsRow base.heap.size 5 1 v n (bvs pre) := by
    refine ⟨h.row.1, ?_⟩
    rcases h.row.2 with h1 | ⟨g, cap, cur, rfl, _, rest⟩
    · exact .inl h1
    · exact .inr ⟨g, cap, cur, rfl, h.mem g rfl, rest⟩
  obtain ⟨v', w', hr, ho, hg, _⟩ := Lib.run_append_own_string (P := Tryd.prog) w base.heap.size 26 9 ty 5 i0 Tryd.underlying26 Tryd.underlying9 hi hz0 hz1 hz2 v n (bvs pre) hrow ⟨#[45, 45, 45, 10]⟩ (by simp [maxLen, ByteArray.size]; omega) (by simp [ByteArray.size]; omega) t.size
  refine ⟨v', w', hr, ⟨⟨?_, ?_⟩, ?_⟩, t.trans (Tch.grown hg (fun k e => h.mem k e))⟩
  · have := ho.1
    have e : bvs (pre ++ hbarL) = bvs pre ++ Lib.strCells ⟨#[45, 45, 45, 10]⟩ := by rw [bvs_append]; rfl
    rw [e]; exact this
  · have e : bvs (pre ++ hbarL) = bvs pre ++ Lib.strCells ⟨#[45, 45, 45, 10]⟩ := by rw [bvs_append]; rfl
    rw [e]
    rcases ho.2 with h1 | ⟨g, cap, cur, rfl, _, rest⟩
    · exact .inl h1
    · exact .inr ⟨g, cap, cur, rfl, Nat.zero_le _, rest⟩
  · intro g hg2
    exact (ho.lt g hg2).1

/-- The last line is cut. -/
theorem Lw.cut {F : Nat → Prop} {w : World} {TB Bd : Nat} {v : Value} {LL : List (List SC)} (h : Lw F w TB Bd v LL) (hne : LL ≠ []) (h1 : 1 ≤ (LL.getLastD []).length) :
    ∃ G cp al cl, v = .slice (some ⟨G, 0, none⟩) LL.length cp ∧ F G ∧ w.cell? ⟨G, LL.length - 1, none⟩ = some (.slice al (LL.getLastD []).length cl) ∧ w.frozen? ⟨G, LL.length - 1, none⟩ = false ∧ (LL.getLastD []).length ≤ cl ∧
      Lz (w.setCell ⟨G, LL.length - 1, none⟩ (.slice al ((LL.getLastD []).length - 1) cl)) v (cutLast LL) ∧ Tch (fun g => g = G) w (w.setCell ⟨G, LL.length - 1, none⟩ (.slice al ((LL.getLastD []).length - 1) cl)) := by
  have hlen : 0 < LL.length := List.length_pos_iff.2 hne
  obtain ⟨vs, ho, hl⟩ := h.val
  rcases ho.row.2 with ⟨_, hn⟩ | ⟨G, cap, cur, rfl, _, hg, hcp, hm, hs, ht⟩
  · omega
  · have hlast : LL.getLastD [] = LL[LL.length - 1]'(by omega) := by
      rw [List.getLastD_eq_getLast?, List.getLast?_eq_getElem?, List.getElem?_eq_getElem (by omega)]; rfl
    obtain ⟨lv, hlv, hcl⟩ := hl.get (LL.length - 1) (by omega)
    rw [← hlast] at hcl
    obtain ⟨al, cl, rfl⟩ := hcl.shape
    have hk : Kind w G 39 := ⟨_, _, hg⟩
    have tt : Tch (fun g => g = G) w (w.setCell ⟨G, LL.length - 1, none⟩ (.slice al ((LL.getLastD []).length - 1) cl)) := Tch.setCell (F := fun g => g = G) (a := ⟨G, LL.length - 1, none⟩) _ rfl _
    have cellv : ∀ {i : Nat} {u : Value}, vs[i]? = some u → w.cell? ⟨G, i, none⟩ = some u := by
      intro i u hu
      rw [← ht, List.getElem?_take] at hu
      split at hu
      · simp only [World.cell?, hg]; simpa using hu
      · cases hu
    have hset := blk_set hg (LL.length - 1) (.slice al ((LL.getLastD []).length - 1) cl)
    have hck : ∀ {lv' : Value} {l : List SC}, Cl (fun k => k < Bd) w TB lv' l → Cl (fun k => k < Bd) (w.setCell ⟨G, LL.length - 1, none⟩ (.slice al ((LL.getLastD []).length - 1) cl)) TB lv' l := fun hc =>
      hc.kept tt (fun g _ hk2 e => by subst e; exact absurd (hk2.ne hk) (by decide)) (fun g hg2 e => by subst e; exact absurd ((hc.kindB hg2).2.ne hk) (by decide))
    have hcap : (LL.getLastD []).length ≤ cl := by
      obtain ⟨ao, cp', e2, q1, _⟩ := hcl.ce.val
      simp only [Value.slice.injEq] at e2
      obtain ⟨_, _, rfl⟩ := e2
      exact q1
    refine ⟨G, cap, al, cl, rfl, ho.mem G rfl, cellv hlv, frozen_of_blk hg _, hcap, ?_, tt⟩
    have hcl2 : (cutLast LL).length = LL.length := by unfold cutLast; simp; omega
    refine ⟨some ⟨G, 0, none⟩, cap, by rw [hcl2], by rw [hcl2]; exact hcp, hm, fun ad e => (by cases e; rfl), fun j hj => ?_⟩
    rw [hcl2] at hj
    by_cases hjl : j = LL.length - 1
    · subst hjl
      refine ⟨⟨G, 0, none⟩, .slice al ((LL.getLastD []).length - 1) cl, rfl, ?_, ?_⟩
      · rw [cell_of_blk hset, Nat.zero_add]
        have : LL.length - 1 < cur.size := by rw [hs]; omega
        simp [this]
      · have e : (cutLast LL)[LL.length - 1]'(by rw [hcl2]; omega) = (LL.getLastD []).dropLast := by
          unfold cutLast
          rw [List.getElem_append_right (by simp)]
          simp
        rw [e]
        obtain ⟨ao, cp', e2, q1, q2, q3, q4⟩ := (hck hcl).ce.val
        simp only [Value.slice.injEq] at e2
        obtain ⟨rfl, _, rfl⟩ := e2
        refine ⟨al, cl, by rw [List.length_dropLast], by rw [List.length_dropLast]; omega, q2, q3, fun i hi => ?_⟩
        have hi2 : i < (LL.getLastD []).length := by rw [List.length_dropLast] at hi; omega
        obtain ⟨ad, tv, a, b, c, d, e⟩ := q4 i hi2
        refine ⟨ad, tv, a, b, ?_, ?_, ?_⟩
        · rw [c]; simp
        · rw [d]; simp
        · simpa using e
    · obtain ⟨lv', hlv', hcl'⟩ := hl.get j hj
      refine ⟨⟨G, 0, none⟩, lv', rfl, ?_, ?_⟩
      · have := cellv hlv'
        rw [Nat.zero_add, cell_of_blk hset]
        rw [cell_of_blk hg] at this
        rw [Array.getElem?_setIfInBounds_ne (by omega)]
        exact this
      · have e : (cutLast LL)[j]'(by rw [hcl2]; omega) = LL[j] := by
          unfold cutLast
          rw [List.getElem_append_left (by simp; omega)]
          simp
        rw [e]
        exact (hck hcl').ce

theorem lines_open (c : Cfg) (s : List UInt8) : ∃ init last y, linesGo [] (cellsGo c ⟨[], 0, 0⟩ [] s) = init ++ [last ++ [y]] ∧ opn (cellsGo c ⟨[], 0, 0⟩ [] s) = (!last.isEmpty && y.text.isEmpty) := by
  obtain ⟨y, l0, e, hy⟩ := cellsGo_last c s.length s ⟨[], 0, 0⟩ [] (Nat.le_refl _) rfl
  rw [e]
  have hyt : y.tabbed = false := by simp [SC.tabbed, hy]
  obtain ⟨init, last, h1, h2⟩ := lines_end hyt l0 []
  have ho : opn (l0 ++ [y]) = (!last.isEmpty && y.text.isEmpty) := by
    unfold opn
    cases hl0 : l0 with
    | nil =>
      subst hl0
      rw [if_pos rfl] at h2
      have : last = [] := h2.2 rfl
      subst this
      simp
    | cons z l1 =>
      rw [← hl0]
      have hne : l0 ≠ [] := by rw [hl0]; simp
      rw [if_neg hne] at h2
      have hlen : 0 < l0.length := List.length_pos_iff.2 hne
      have e1 : (l0 ++ [y]).getLastD default = y := by simp
      have e2 : (l0 ++ [y]).getD ((l0 ++ [y]).length - 2) default = l0.getLastD default := by
        have : (l0 ++ [y]).length - 2 = l0.length - 1 := by simp
        rw [this, List.getD_eq_getElem?_getD, List.getElem?_append_left (by omega), ← List.getLast?_eq_getElem?, List.getLastD_eq_getLast?]
      have e3 : decide (1 < (l0 ++ [y]).length) = true := by simp; omega
      rw [e1, e2, e3, Bool.true_and, Bool.and_comm]
      congr 1
      cases ht : (l0.getLastD default).tabbed
      · rw [h2.2 ht]; rfl
      · have : last ≠ [] := fun h => by have := h2.1 h; rw [ht] at this; cases this
        simpa using this
  exact ⟨init, last, y, h1, ho⟩
theorem open_last {c : Cfg} {s : List UInt8} (h : opn (cellsGo c ⟨[], 0, 0⟩ [] s) = true) : 1 < ((linesGo [] (cellsGo c ⟨[], 0, 0⟩ [] s)).getLastD []).length := by
  obtain ⟨init, last, y, h1, h2⟩ := lines_open c s
  rw [h1]
  rw [h2, Bool.and_eq_true] at h
  have : last ≠ [] := by have := h.1; simpa using this
  have := List.length_pos_iff.2 this
  simp; omega
theorem outF_len {c : Cfg} {f : Nat → Nat → Nat} {n B : Nat} : ∀ (M : List Ln) (k : Nat), (∀ i l, M[i]? = some l → (lineO c (f (k + i)) l).length ≤ B) → (outF c f n k M).length ≤ M.length * (B + 5) := by
  intro M
  induction M with
  | nil => intro k _; simp [outF]
  | cons l M ih =>
    intro k h
    have h1 := h 0 l rfl
    have h2 := ih (k + 1) (fun i x hx => by have := h (i + 1) x (by simpa using hx); rw [show k + 1 + i = k + (i + 1) by omega]; exact this)
    have h3 : (if k + 1 = n then [] else [10] : List UInt8).length ≤ 1 := by split <;> simp
    have h4 : (if l.shut = true ∧ c.flag 32 = true then hbarL else []).length ≤ 4 := by split <;> simp [hbarL]
    simp only [outF, List.length_append, List.length_cons, Nat.add_mul, Nat.one_mul, Nat.add_zero] at h1 h2 ⊢
    omega
/-- How long the reference's text is. -/
theorem spec_len {c : Cfg} {LL : List (List SC)} (hf : FitT LL) (hm : c.mn ≤ 1000) (ht : c.tb ≤ 1000) (hp : c.pd ≤ 1000) (h1 : LL.length ≤ 3001) (h2 : ∀ l ∈ LL, l.length ≤ 3001 ∧ (texts l).length ≤ 3000) : (specOut c (LL.map view)).length ≤ 9500000000000 := by
  have hW : ∀ i j, Wd c (LL.map view) i j ≤ 1001000 := fun i j => cW_le hf.toFit hm hp _ (fun ln hln => by obtain ⟨l, hl, rfl⟩ := List.mem_map.1 hln; exact ⟨l, hl, rfl⟩) i j
  have := outF_len (c := c) (f := Wd c (LL.map view)) (n := (LL.map view).length) (B := 3013007000) (LL.map view) 0 (fun i ln hln => by
    rw [List.getElem?_map, Option.map_eq_some_iff] at hln
    obtain ⟨l, hl, rfl⟩ := hln
    have hmem := List.mem_of_getElem? hl
    rw [lineO_lnGo c _ (hf.ne l hmem)]
    have h3 := lnGo_len (c := c) (f := Wd c (LL.map view) (0 + i)) (hW _) ht l.length l 0 (c.flag 16)
    obtain ⟨h4, h5⟩ := h2 l hmem
    have h6 : l.length * 1004000 ≤ 3001 * 1004000 := Nat.mul_le_mul_right _ h4
    omega)
  have h7 : (LL.map view).length * (3013007000 + 5) ≤ 3001 * (3013007000 + 5) := Nat.mul_le_mul_right _ (by simpa using h1)
  unfold specOut
  omega

/-- The loop of Format. -/
def FmRel (base : World) (c : Cfg) (M : List Ln) (t5 t33 : Value) (wr : World) : Prop :=
  ∃ (i n : Nat) (pre : List UInt8), i ≤ M.length ∧ t33 = .int .i64 i ∧ pre ++ outF c (Wd c M) M.length i (M.drop i) = specOut c M ∧ Own (New base) wr 5 1 t5 n (bvs pre) ∧ n = pre.length ∧ Tch (New base) base wr

set_option maxHeartbeats 8000000 in
theorem format_callsW (w : World) (m t p f : Nat) (hf : f < 64) (ch : UInt8) {v : Value} {s : List UInt8} (h : Rw w v s) (hs : s.length ≤ 3000) (hm : m ≤ 1000) (ht : t ≤ 1000) (hp : p ≤ 1000) :
    Calls Tryd.prog 7 #[.agg #[.int .i64 m, .int .i64 t, .int .i64 p, .int .u8 ch.toNat, .int .i64 f], v] w (RdPost w (formatO (cfgOf m t p f ch) s)) := by
  obtain ⟨w1, hw1⟩ : ∃ w1, w1 = w.alloc (.cells #[.int .i64 m, .int .i64 t, .int .i64 p, .int .u8 ch.toNat, .int .i64 f] 23) := ⟨_, rfl⟩
  have hb0 : Below w.heap.size w w1 := hw1 ▸ (Below.refl _ w).alloc (Nat.le_refl _) _
  have hc0 : w1.heap[w.heap.size]? = some (.cells #[.int .i64 m, .int .i64 t, .int .i64 p, .int .u8 ch.toNat, .int .i64 f] 23 (0, 0)) := hw1 ▸ heap_alloc_new w _
  have hLI := lines_calls w1 m t p f hf ch (h.below hb0) (by omega)
  have hOP : ∀ w', Below w1.heap.size w1 w' → Calls Tryd.prog 13 #[.agg #[.int .i64 m, .int .i64 t, .int .i64 p, .int .u8 ch.toNat, .int .i64 f], v] w' fun e w'' => e = .returned (.bool (opn (cellsGo (cfgOf m t p f ch) ⟨[], 0, 0⟩ [] s))) ∧ Below w'.heap.size w' w'' := fun w' hb => open_calls w' m t p f hf ch ((h.below hb0).below hb) (by omega)
  have hlast := fun ho => open_last (c := cfgOf m t p f ch) (s := s) ho
  have hfit := lines_fit (cfgOf m t p f ch) s (by omega)
  have hEV := endViews_open (cfgOf m t p f ch) s
  have hcl := cellsGo_len (cfgOf m t p f ch) s.length s ⟨[], 0, 0⟩ [] (Nat.le_refl _)
  have htx := texts_cellsGo (cfgOf m t p f ch) s.length s ⟨[], 0, 0⟩ [] (Nat.le_refl _)
  have hlm := linesGo_mem (cellsGo (cfgOf m t p f ch) ⟨[], 0, 0⟩ [] s) []
  have hln := linesGo_len (cellsGo (cfgOf m t p f ch) ⟨[], 0, 0⟩ [] s) []
  have hnel := lines_ne (cfgOf m t p f ch) s ⟨[], 0, 0⟩ [] [] rfl
  unfold formatO
  rw [hEV]
  clear hEV
  obtain ⟨c, hc⟩ : ∃ c, c = cfgOf m t p f ch := ⟨_, rfl⟩
  have hcc : c.mn = m ∧ c.pd = p ∧ c.tb = t := by rw [hc]; exact ⟨rfl, rfl, rfl⟩
  rw [← hc] at hLI hOP hlast hfit hcl htx hlm hln hnel ⊢
  obtain ⟨LL, hLL⟩ : ∃ LL, LL = linesGo [] (cellsGo c ⟨[], 0, 0⟩ [] s) := ⟨_, rfl⟩
  obtain ⟨o, ho⟩ : ∃ o, o = opn (cellsGo c ⟨[], 0, 0⟩ [] s) := ⟨_, rfl⟩
  rw [← hLL] at hLI hlast hfit hlm hln hnel ⊢
  rw [← ho] at hOP hlast ⊢
  have hL2 : LL.length ≤ 3001 ∧ ∀ l ∈ LL, l.length ≤ 3001 ∧ (texts l).length ≤ 3000 := by
    refine ⟨by omega, fun l hl => ?_⟩
    obtain ⟨_, _, a, b⟩ := hlm l hl
    simp only [List.length_nil, texts_nil] at a b htx
    omega
  have hK : FitT (if o = true then cutLast LL else LL) ∧ (if o = true then cutLast LL else LL).length = LL.length ∧ ∀ l ∈ (if o = true then cutLast LL else LL), l.length ≤ 3001 ∧ (texts l).length ≤ 3000 := by
    by_cases hot : o = true
    · rw [if_pos hot]
      have hf2 := cut_fit hfit hnel (hlast hot)
      have hp : 0 < LL.length := List.length_pos_iff.2 hnel
      refine ⟨hf2, by unfold cutLast; simp; omega, fun l hl => ?_⟩
      rcases List.mem_append.1 hl with h1 | h1
      · exact hL2.2 l (List.dropLast_subset _ h1)
      · have h1' := List.mem_singleton.1 h1
        have hm2 : LL.getLastD [] ∈ LL := by
          cases hg : LL.getLast? with
          | none => simp at hg; exact absurd hg hnel
          | some y => rw [List.getLastD_eq_getLast?, hg]; exact List.mem_of_getLast? hg
        obtain ⟨a, b⟩ := hL2.2 _ hm2
        have h3 : (texts l).length ≤ (texts (LL.getLastD [])).length := by
          rw [h1']
          generalize LL.getLastD [] = k
          by_cases hk : k = []
          · subst hk; simp
          · conv => rhs; rw [← List.dropLast_concat_getLast hk]
            simp
        refine ⟨?_, by omega⟩
        rw [h1', List.length_dropLast]; omega
    · rw [if_neg hot]; exact ⟨hfit, rfl, hL2.2⟩
  obtain ⟨KK, hKK⟩ : ∃ KK, KK = (if o = true then cutLast LL else LL) := ⟨_, rfl⟩
  rw [← hKK] at hK ⊢
  obtain ⟨hkf, hkl, hks⟩ := hK
  have hsl := spec_len (c := c) hkf (by omega) (by omega) (by omega) (by omega) hks
  have hline : ∀ w' {v' : Value}, Lz w' v' KK → ∀ {i : Nat} {l : List SC}, KK[i]? = some l → Calls Tryd.prog 17 #[.agg #[.int .i64 m, .int .i64 t, .int .i64 p, .int .u8 ch.toNat, .int .i64 f], v', .int .i64 i] w' (RdPost w' (lineO c (Wd c (KK.map view) i) (view l))) := fun w' v' h' i l hi => by rw [hc]; exact line_calls w' m t p f hf ch h' hkf hm ht hp hi
  have h32 : ∀ w', Calls Tryd.prog 12 #[.agg #[.int .i64 m, .int .i64 t, .int .i64 p, .int .u8 ch.toNat, .int .i64 f], .int .i64 32] w' fun e w'' => e = .returned (.bool (c.flag 32)) ∧ Below w'.heap.size w' w'' := fun w' => by rw [hc]; exact has_flag w' m t p f hf ch 32 (by simp)
  have hN : 1 ≤ LL.length := List.length_pos_iff.2 hnel
  have hN2 : LL.length ≤ 3001 := hL2.1
  obtain ⟨d0, d1, d2, d3, d4⟩ := conf_at hc0
  have HLI := Lib.hid hLI
  have HOP := Lib.hid hOP
  have HLAST := Lib.hid hlast
  have HKF := Lib.hid hkf
  have HKL := Lib.hid hkl
  have HKK := Lib.hid hKK
  have HSL := Lib.hid hsl
  have HLINE := Lib.hid hline
  have H32 := Lib.hid h32
  have HNEL := Lib.hid hnel
  have HB0 := Lib.hid hb0
  have HC0 := Lib.hid hc0
  have HL2 := Lib.hid hL2
  have HZ1 := Lib.hid (show w1.heap.size = w.heap.size + 1 by rw [hw1]; simp)
  obtain ⟨ao, cp, rfl⟩ := h.shape
  rw [hw1] at d0 d1 d2 d3 d4 HLI HOP HB0 HC0 HZ1
  clear hLI hOP hlast hfit hcl htx hlm hln hnel hLL ho hL2 hkf hkl hks hKK hsl hline h32 hb0 hc0 hw1 hc hcc h
  go_enter Tryd.func7, Tryd.ntmps7
  go_wp2_with fail
  refine HLI.out.mono ?_
  rintro e w2 ⟨v2, rfl, hlw, hb2⟩
  have HLW := Lib.hid hlw
  have HB2 := Lib.hid hb2
  obtain ⟨a2, p2, rfl⟩ := hlw.shape
  clear hlw hb2 HLI d0 d1 d2 d3 d4
  obtain ⟨d0, d1, d2, d3, d4⟩ := conf_at ((Tch.of_below (F := fun _ => False) HB2.out).heap HC0.out id)
  go_wp2_with fail
  refine (HOP.out w2 HB2.out).mono ?_
  rintro e w3 ⟨rfl, hb3⟩
  have HB3 := Lib.hid (HB2.out.trans (hb3.mono HB2.out.size))
  have T3 := Lib.hid (Tch.of_below (F := fun _ => False) hb3)
  have HLW3 := Lib.hid (HLW.out.kept T3.out (fun _ _ _ => id) (fun _ _ _ => id) (fun _ _ => id))
  clear hb3 HOP d0 d1 d2 d3 d4
  go_upto_if 14 with (fail)
  go_cut [7] from 12 to 61 (fun s7 wx => Lz wx (.slice a2 LL.length p2) KK ∧ Below (w.alloc (.cells #[.int .i64 m, .int .i64 t, .int .i64 p, .int .u8 ch.toNat, .int .i64 f] 23)).heap.size (w.alloc (.cells #[.int .i64 m, .int .i64 t, .int .i64 p, .int .u8 ch.toNat, .int .i64 f] 23)) wx)
  case first =>
    have hB3 := HB3.out
    cases o
    · have e : KK = LL := HKK.out.trans (if_neg (by simp))
      have HE := Lib.hid e
      clear e hB3
      go_wp2_with fail
      go_meet
      refine ⟨?_, HB3.out⟩
      rw [HE.out]; exact HLW3.out.lz
    · have e : KK = cutLast LL := HKK.out.trans (if_pos rfl)
      have h1 := HLAST.out rfl
      obtain ⟨G, cp', al, cl, e2, hG, c0, f0, hcap, hlz, tt⟩ := HLW3.out.cut HNEL.out (by omega)
      simp only [Value.slice.injEq] at e2
      obtain ⟨rfl, -, rfl⟩ := e2
      have hGn : New (w.alloc (.cells #[.int .i64 m, .int .i64 t, .int .i64 p, .int .u8 ch.toNat, .int .i64 f] 23)) G := hG
      have HE := Lib.hid e
      have HT := Lib.hid (tt.mono (G := New (w.alloc (.cells #[.int .i64 m, .int .i64 t, .int .i64 p, .int .u8 ch.toNat, .int .i64 f] 23))) (fun k hk => hk ▸ hGn))
      obtain ⟨N, hNN⟩ : ∃ N, LL.length = N + 1 := ⟨LL.length - 1, by omega⟩
      obtain ⟨K, hKK2⟩ : ∃ K, (LL.getLastD []).length = K + 2 := ⟨(LL.getLastD []).length - 2, by omega⟩
      rw [hKK2] at hcap
      rw [hNN, hKK2, show N + 1 - 1 = N by omega] at c0
      rw [hNN, show N + 1 - 1 = N by omega] at f0
      rw [hNN, hKK2, show N + 1 - 1 = N by omega, show K + 2 - 1 = K + 1 by omega] at hlz HT
      have hKb : K + 2 ≤ 3001 := by
        have hm2 : LL.getLastD [] ∈ LL := by
          cases hg : LL.getLast? with
          | none => simp at hg; exact absurd hg HNEL.out
          | some y => rw [List.getLastD_eq_getLast?, hg]; exact List.mem_of_getLast? hg
        have := (HL2.out.2 _ hm2).1
        omega
      have HLZ := Lib.hid hlz
      have hNb : N + 1 ≤ 3001 := by omega
      rw [hNN] at hN hN2 ⊢
      have HNN := Lib.hid hNN
      clear hlz tt hG e h1 hNN hKK2 hB3 hGn
      go_wp2_with fail
      rw [← HNN.out]
      go_meet
      refine ⟨?_, HB3.out.trans (HT.out.below (Nat.le_trans HB3.out.size (Nat.le_refl _)) (fun k hk h => absurd hk (Nat.not_lt.2 h)))⟩
      rw [HNN.out, HE.out]; exact HLZ.out
  case rest =>
    obtain ⟨hlz, hbw⟩ := hcut
    obtain ⟨base, rfl⟩ : ∃ base : World, base = wc := ⟨_, rfl⟩
    have HLZ := Lib.hid hlz
    have HBW := Lib.hid (HB0.out.trans (hbw.mono HB0.out.size))
    have hcb := (Tch.of_below (F := fun _ => False) hbw).heap HC0.out id
    have HCB := Lib.hid hcb
    have hkl := HKL.out
    have HKLI := Lib.hid hkl
    obtain ⟨k0, o0, e2⟩ : ∃ k0 o0, a2 = some ⟨k0, o0, none⟩ := by
      obtain ⟨ao', cp', e3, _, _, q3, q4⟩ := hlz.val
      simp only [Value.slice.injEq] at e3
      obtain ⟨rfl, _, _⟩ := e3
      obtain ⟨ad, lv, e4, _⟩ := q4 0 (by omega)
      have := q3 ad e4
      obtain ⟨k0, o0, sp⟩ := ad
      simp only at this
      subst this
      exact ⟨k0, o0, e4⟩
    subst e2
    clear hlz hbw hcb HB3 T3 HLW3 HLW HB2 HB0 HC0 hkl HLAST HNEL HL2 HKK HZ1
    go_wp2_with fail
    go_loopw [5, 33] (fun t5 t33 wr => FmRel base c (KK.map view) t5 t33 wr) (fun _ t33 _ => LL.length - (intOf t33).toNat)
    case atStart => exact ⟨0, 0, [], Nat.zero_le _, rfl, rfl, Own.nil _ _ _ _, rfl, Tch.refl _ _⟩
    case round =>
      obtain ⟨i, n, pre, hi, rfl, hgo, hown, rfl, tt⟩ := hrel
      have hi2 : i ≤ LL.length := by have := HKLI.out; simp at hi; omega
      have hpl : pre.length ≤ 9500000000000 := by
        have h1 := HSL.out
        rw [← hgo, List.length_append] at h1; omega
      have HGO := Lib.hid hgo
      clear hgo hi
      by_cases hlt : i < LL.length
      · obtain ⟨l, hl⟩ : ∃ l, KK[i]? = some l := ⟨KK[i]'(by have := HKLI.out; omega), List.getElem?_eq_getElem _⟩
        have hlzw := HLZ.out.below (New.below tt)
        have hLN := HLINE.out wr hlzw hl
        obtain ⟨d0, d1, d2, d3, d4⟩ := conf_at (tt.heap HCB.out (by have := lt_of_heap HCB.out; unfold New; omega))
        have HLN := Lib.hid hLN
        have HL := Lib.hid hl
        have HOWN := Lib.hid hown
        have TT := Lib.hid tt
        have hdr : (KK.map view).drop i = view l :: (KK.map view).drop (i + 1) := by
          have h1 : (KK.map view)[i]? = some (view l) := by rw [List.getElem?_map, hl]; rfl
          have h2 := (List.getElem?_eq_some_iff.1 h1).1
          rw [List.drop_eq_getElem_cons h2]
          congr 1
          exact (List.getElem?_eq_some_iff.1 h1).2
        have HDR := Lib.hid hdr
        obtain ⟨a5, p5, rfl⟩ := hown.shape
        clear hlzw hLN hl hown tt hdr
        go_wp2_with fail
        refine HLN.out.mono ?_
        rintro e wa ⟨vl, rfl, hrl, hba⟩
        obtain ⟨al, nl, cl, rfl⟩ := (show ∃ a n c, vl = Value.slice a n c from by obtain ⟨a, c, e, _⟩ := hrl.val; exact ⟨a, _, c, e⟩)
        obtain ⟨ll, hll⟩ : ∃ ll, ll = lineO c (Wd c (KK.map view) i) (view l) := ⟨_, rfl⟩
        rw [← hll] at hrl
        have HLLE := Lib.hid hll
        -- what is still to come
        have hgo2 : pre ++ (ll ++ ((if i + 1 = LL.length then [] else [10]) ++ ((if (view l).shut = true ∧ c.flag 32 = true then hbarL else []) ++ outF c (Wd c (KK.map view)) (KK.map view).length (i + 1) ((KK.map view).drop (i + 1))))) = specOut c (KK.map view) := by
          have := HGO.out
          rw [HDR.out, outF] at this
          rw [hll, ← this]
          have e : (KK.map view).length = LL.length := by rw [List.length_map]; exact HKLI.out
          rw [e]
        have hll2 : pre.length + ll.length ≤ 9500000000000 := by
          have h1 := HSL.out
          rw [← hgo2] at h1
          simp only [List.length_append] at h1
          omega
        have HGO2 := Lib.hid hgo2
        have ta : Tch (New base) base wa := TT.out.trans (Tch.of_below hba)
        obtain ⟨v5, wb, hrun5, ho5, ht5, -⟩ := run_append_rd (F := New base) (fun k hk => Nat.le_trans ta.size hk) (HOWN.out.kept (Tch.of_below (F := fun _ => False) hba) (fun _ _ => id)) hrl (by omega) 26
        have tb : Tch (New base) base wb := ta.trans (ht5.mono (fun g e => HOWN.out.mem g e))
        obtain ⟨a6, p6, rfl⟩ := ho5.shape
        have HRUN5 := Lib.hid hrun5
        have HO5 := Lib.hid ho5
        have TB := Lib.hid tb
        clear hll hgo2 hrl hba ta hrun5 ho5 ht5 tb HOWN TT HLN d0 d1 d2 d3 d4 HGO
        go_upto_if 46 with (at_builtin; refine wpList_append_eq rfl (.tmp 36) (.tmp 40) 26 rfl rfl rfl HRUN5.out ?_)
        go_cut [5] from 34 to 61 (fun s5 wx => ∃ n, Own (New base) wx 5 1 s5 n (bvs (pre ++ ll ++ (if i + 1 = LL.length then [] else [10]))) ∧ n ≤ 9500000000002 ∧ Tch (New base) base wx)
        case first =>
          by_cases hnl : i + 1 = LL.length
          · have hnl' : decide ((i : Int) + 1 < (LL.length : Int)) = false := decide_eq_false (by omega)
            have HNL := Lib.hid hnl
            rw [hnl']
            clear hnl hnl'
            go_wp2_with fail
            go_meet
            refine ⟨pre.length + ll.length, ?_, ?_, TB.out⟩
            · rw [if_pos HNL.out, List.append_nil]; exact HO5.out
            · omega
          · have hnl' : decide ((i : Int) + 1 < (LL.length : Int)) = true := decide_eq_true (by omega)
            have HNL := Lib.hid hnl
            obtain ⟨v7, wd, hrun7, ho7, ht7, -, -⟩ := run_append_one (F := New base) (fun k hk => Nat.le_trans TB.out.size hk) HO5.out 10 (by omega) 26
            have HRUN7 := Lib.hid (show (Builtin.append_ #[26, 26] 26 #[_, .slice (some ⟨wb.heap.size, 0, none⟩) 1 1]).run Tryd.prog (wb.alloc (.cells #[.int .u8 10] 5)) = .ok v7 wd from hrun7)
            have HO7 := Lib.hid ho7
            have T7 := Lib.hid (TB.out.trans ht7)
            rw [hnl']
            clear hnl hnl' hrun7 ho7 ht7
            go_wp2_with (at_builtin; refine wpList_append_eq rfl (.tmp 47) (.tmp 48) 26 rfl rfl rfl HRUN7.out ?_)
            go_meet
            refine ⟨pre.length + ll.length + 1, ?_, ?_, T7.out⟩
            · rw [if_neg HNL.out]
              have := HO7.out
              rw [show bvs (pre ++ ll) ++ [bv 10] = bvs (pre ++ ll ++ [10]) by rw [bvs_append (pre ++ ll) [10]]; rfl] at this
              exact this
            · omega
        case rest =>
          obtain ⟨n8, ho8, hn8, t8⟩ := hcut
          obtain ⟨wz, rfl⟩ : ∃ wz : World, wz = wc := ⟨_, rfl⟩
          obtain ⟨a8, p8, rfl⟩ := ho8.shape
          have hlzw := HLZ.out.below (New.below t8)
          obtain ⟨lv, hlv, hce⟩ := hlzw.at HL.out
          obtain ⟨al2, cl2, rfl, -⟩ := hce.val
          have hmem := List.mem_of_getElem? HL.out
          have hll5 := HKF.out.each l hmem
          have HSH := Lib.hid (shut_calls wz hce (by omega) (HKF.out.ne l hmem))
          obtain ⟨sh, hsh⟩ : ∃ sh, sh = (view l).shut := ⟨_, rfl⟩
          rw [← hsh] at HSH
          have HSHE := Lib.hid hsh
          have HO8 := Lib.hid ho8
          have T8 := Lib.hid t8
          have hh32 := H32.out wz
          obtain ⟨fl, hfl⟩ : ∃ fl, fl = c.flag 32 := ⟨_, rfl⟩
          rw [← hfl] at hh32
          have HFL := Lib.hid hfl
          have HH32 := Lib.hid hh32
          obtain ⟨d0, d1, d2, d3, d4⟩ := conf_at (t8.heap HCB.out (by have := lt_of_heap HCB.out; unfold New; omega))
          have hnext : ∀ (w9 : World) (v9 : Value) (n9 : Nat), Own (New base) w9 5 1 v9 n9 (bvs ((pre ++ ll ++ (if i + 1 = LL.length then [] else [10])) ++ (if sh = true ∧ fl = true then hbarL else []))) → Tch (New base) base w9 → FmRel base c (KK.map view) v9 (.int .i64 ((i : Int) + 1)) w9 := by
            intro w9 v9 n9 h9 t9
            refine ⟨i + 1, n9, _, ?_, by go_num, ?_, h9, ?_, t9⟩
            · have := HKLI.out; simp; omega
            · rw [← HGO2.out, HSHE.out, HFL.out]
              simp only [List.append_assoc]
            · have := h9.row.1; simpa using this.symm
          have HNEXT := Lib.hid hnext
          clear hlzw hce hsh ho8 t8 hh32 hfl hnext hmem
          cases sh
          · have HF := Lib.hid (HNEXT.out wz (.slice a8 n8 p8) n8 (by rw [if_neg (show ¬ (false = true ∧ fl = true) by simp), List.append_nil]; exact HO8.out) T8.out)
            clear HNEXT
            go_wp2_with (go_at_call 18; (with_reducible refine HSH.out.mono ?_); rintro e w' ⟨rfl, rfl⟩)
            go_roundw
            case rel => first | exact HF.out | ((repeat apply Exists.intro); exact ⟨HF.out, rfl⟩)
            case measure => simp [intOf]; omega
          · cases fl
            · go_wp2_with (go_at_call 18; (with_reducible refine HSH.out.mono ?_); rintro e w' ⟨rfl, rfl⟩)
              refine HH32.out.mono ?_
              rintro e wy ⟨rfl, hby⟩
              have HF := Lib.hid (HNEXT.out wy (.slice a8 n8 p8) n8 (by rw [if_neg (show ¬ (True ∧ false = true) by simp), List.append_nil]; exact HO8.out.kept (Tch.of_below (F := fun _ => False) hby) (fun _ _ => id)) (T8.out.trans (Tch.of_below hby)))
              clear HNEXT hby
              go_wp2_with fail
              go_roundw
              case rel => first | exact HF.out | ((repeat apply Exists.intro); exact ⟨HF.out, rfl⟩)
              case measure => simp [intOf]; omega
            · go_wp2_with (go_at_call 18; (with_reducible refine HSH.out.mono ?_); rintro e w' ⟨rfl, rfl⟩)
              refine HH32.out.mono ?_
              rintro e wy ⟨rfl, hby⟩
              obtain ⟨v9, w9, hrun9, ho9, t9⟩ := run_append_bar (T8.out.trans (Tch.of_below hby)) (HO8.out.kept (Tch.of_below (F := fun _ => False) hby) (fun _ _ => id)) (by omega) 26
              have HRUN9 := Lib.hid hrun9
              have HF := Lib.hid (HNEXT.out w9 v9 (n8 + 4) (by rw [if_pos (show True ∧ True from ⟨trivial, trivial⟩)]; exact ho9) t9)
              clear HNEXT hby hrun9 ho9 t9
              go_wp2_with (at_builtin; refine wpList_append_eq2 rfl (.tmp 59) (.const (.string ⟨#[45, 45, 45, 10]⟩)) 26 9 rfl rfl rfl HRUN9.out ?_)
              go_roundw
              case rel => first | exact HF.out | ((repeat apply Exists.intro); exact ⟨HF.out, rfl⟩)
              case measure => simp [intOf]; omega
      · have HO := Lib.hid hown
        have T := Lib.hid tt
        have hend : pre = specOut c (KK.map view) := by
          have h1 := HGO.out
          have e : (KK.map view).length = LL.length := by rw [List.length_map]; exact HKLI.out
          rw [List.drop_eq_nil_of_le (by omega), outF, List.append_nil] at h1
          exact h1
        have HE := Lib.hid hend
        obtain rfl : i = LL.length := by omega
        clear hown tt hlt hi2 hend hpl
        go_wp2_with fail
        go_ret
        refine ⟨_, rfl, ?_, HBW.out.trans ((New.below T.out).mono HBW.out.size)⟩
        rw [← HE.out]
        exact Own.rd HO.out
theorem format_calls (w : World) (m t p f : Nat) (hf : f < 64) (ch : UInt8) {v : Value} {s : List UInt8} (h : Rd w v s) (hs : s.length ≤ 3000) (hm : m ≤ 1000) (ht : t ≤ 1000) (hp : p ≤ 1000) :
    Calls Tryd.prog 7 #[.agg #[.int .i64 m, .int .i64 t, .int .i64 p, .int .u8 ch.toNat, .int .i64 f], v] w (RdPost w (formatO (cfgOf m t p f ch) s)) := format_callsW w m t p f hf ch (.inl h) hs hm ht hp
end Go.Proofs.YteildpeogbenbaaDoor
