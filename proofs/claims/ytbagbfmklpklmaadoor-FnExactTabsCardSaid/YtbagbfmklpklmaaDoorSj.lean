/- Walks: spec.Lines, and the memory of lines. -/
import Derived.Test.YtbagbfmklpklmaaDoorSi
namespace Go.Proofs.YtbagbfmklpklmaaDoor
open Go.RowKit Go.Tw Go.Sort
set_option maxRecDepth 100000

/-- Values that are the lines LL: rows of cells below Bd, texts below TB. -/
def LV (w : World) (TB Bd : Nat) : List Value → List (List SC) → Prop
  | vs, [] => vs = []
  | vs, l :: LL => ∃ lv r, vs = lv :: r ∧ Cl (fun k => k < Bd) w TB lv l ∧ LV w TB Bd r LL
theorem Cl.shape {F : Nat → Prop} {w : World} {Bd : Nat} {v : Value} {l : List SC} (h : Cl F w Bd v l) : ∃ ao cp, v = .slice ao l.length cp := by
  obtain ⟨vs, ho, _⟩ := h.val; exact ho.shape
theorem Cl.kindB {F : Nat → Prop} {w : World} {Bd : Nat} {v : Value} {l : List SC} (h : Cl F w Bd v l) {g : Nat} (hg : v.ownBlock = some g) : F g ∧ Kind w g 58 := by
  obtain ⟨vs, ho, _⟩ := h.val
  obtain ⟨cur, hh⟩ := ho.block hg
  exact ⟨ho.mem g hg, cur, _, hh⟩
theorem LV.one {w : World} {TB Bd : Nat} : ∀ {LL : List (List SC)} {vs : List Value}, LV w TB Bd vs LL → vs.length = LL.length ∧ ∀ u ∈ vs, u.oneCell' = true := by
  intro LL
  induction LL with
  | nil => intro vs h; rw [show vs = [] from h]; simp
  | cons l LL ih =>
    intro vs h
    obtain ⟨lv, r, rfl, h1, h2⟩ := h
    obtain ⟨a, b⟩ := ih h2
    refine ⟨by simp [a], fun u hu => ?_⟩
    rcases List.mem_cons.1 hu with rfl | hu
    · obtain ⟨ao, cp, rfl⟩ := h1.shape; rfl
    · exact b u hu
theorem LV.kept {w w' : World} {F : Nat → Prop} {TB Bd : Nat} (t : Tch F w w') (h8 : Spare w TB F 5) (hc : Spare w Bd F 58) : ∀ {LL : List (List SC)} {vs : List Value}, LV w TB Bd vs LL → LV w' TB Bd vs LL := by
  intro LL
  induction LL with
  | nil => intro vs h; exact h
  | cons l LL ih =>
    intro vs h
    obtain ⟨lv, r, rfl, h1, h2⟩ := h
    exact ⟨lv, r, rfl, h1.kept t h8 (fun g hg => hc g (h1.kindB hg).1 (h1.kindB hg).2), ih h2⟩
theorem LV.mono {w : World} {TB Bd TB' Bd' : Nat} (hT : TB ≤ TB') (hB : Bd ≤ Bd') : ∀ {LL : List (List SC)} {vs : List Value}, LV w TB Bd vs LL → LV w TB' Bd' vs LL := by
  intro LL
  induction LL with
  | nil => intro vs h; exact h
  | cons l LL ih =>
    intro vs h
    obtain ⟨lv, r, rfl, h1, h2⟩ := h
    exact ⟨lv, r, rfl, h1.mono (fun k _ hk => Nat.lt_of_lt_of_le hk hB) hT, ih h2⟩
theorem LV.append {w : World} {TB Bd : Nat} : ∀ {LL MM : List (List SC)} {vs us : List Value}, LV w TB Bd vs LL → LV w TB Bd us MM → LV w TB Bd (vs ++ us) (LL ++ MM) := by
  intro LL
  induction LL with
  | nil => intro MM vs us h hm; rw [show vs = [] from h]; exact hm
  | cons l LL ih =>
    intro MM vs us h hm
    obtain ⟨lv, r, rfl, h1, h2⟩ := h
    exact ⟨lv, r ++ us, rfl, h1, ih h2 hm⟩
theorem LV.get {w : World} {TB Bd : Nat} : ∀ {LL : List (List SC)} {vs : List Value}, LV w TB Bd vs LL → ∀ j (h : j < LL.length), ∃ lv, vs[j]? = some lv ∧ Cl (fun k => k < Bd) w TB lv LL[j] := by
  intro LL
  induction LL with
  | nil => intro vs _ j h; simp at h
  | cons l LL ih =>
    intro vs h j hj
    obtain ⟨lv, r, rfl, h1, h2⟩ := h
    cases j with
    | zero => exact ⟨lv, rfl, h1⟩
    | succ j =>
      simp only [List.length_cons] at hj
      obtain ⟨lv', a, b⟩ := ih h2 j (by omega)
      exact ⟨lv', a, b⟩
/-- A row of lines of one's own. -/
structure Lw (F : Nat → Prop) (w : World) (TB Bd : Nat) (v : Value) (LL : List (List SC)) : Prop where
  val : ∃ vs, Own F w 53 1 v LL.length vs ∧ LV w TB Bd vs LL
theorem Lw.shape {F : Nat → Prop} {w : World} {TB Bd : Nat} {v : Value} {LL : List (List SC)} (h : Lw F w TB Bd v LL) : ∃ ao cp, v = .slice ao LL.length cp := by
  obtain ⟨vs, ho, _⟩ := h.val; exact ho.shape
theorem Lw.kindB {F : Nat → Prop} {w : World} {TB Bd : Nat} {v : Value} {LL : List (List SC)} (h : Lw F w TB Bd v LL) {g : Nat} (hg : v.ownBlock = some g) : F g ∧ Kind w g 53 := by
  obtain ⟨vs, ho, _⟩ := h.val
  obtain ⟨cur, hh⟩ := ho.block hg
  exact ⟨ho.mem g hg, cur, _, hh⟩
theorem Lw.kept {F G : Nat → Prop} {w w' : World} {TB Bd : Nat} {v : Value} {LL : List (List SC)} (h : Lw F w TB Bd v LL) (t : Tch G w w') (h8 : Spare w TB G 5) (hc : Spare w Bd G 58) (hv : ∀ g, v.ownBlock = some g → ¬ G g) : Lw F w' TB Bd v LL := by
  obtain ⟨vs, ho, hl⟩ := h.val
  exact ⟨vs, ho.kept t hv, hl.kept t h8 hc⟩
theorem Lw.mono {F G : Nat → Prop} {w : World} {TB Bd TB' Bd' : Nat} {v : Value} {LL : List (List SC)} (h : Lw F w TB Bd v LL) (hF : ∀ k, k < w.heap.size → F k → G k) (hT : TB ≤ TB') (hB : Bd ≤ Bd') : Lw G w TB' Bd' v LL := by
  obtain ⟨vs, ho, hl⟩ := h.val
  exact ⟨vs, ho.mono hF, hl.mono hT hB⟩
theorem Lw.lz {F : Nat → Prop} {w : World} {TB Bd : Nat} {v : Value} {LL : List (List SC)} (h : Lw F w TB Bd v LL) : Lz w v LL := by
  obtain ⟨vs, ho, hl⟩ := h.val
  rcases ho.row.2 with ⟨rfl, hn⟩ | ⟨g, cap, cur, rfl, _, hg, hcp, hm, hs, ht⟩
  · have : LL = [] := List.length_eq_zero_iff.1 hn
    subst this
    exact ⟨none, 0, rfl, Nat.le_refl _, Nat.zero_le _, fun _ e => (by cases e), fun j h => (by simp at h)⟩
  · refine ⟨some ⟨g, 0, none⟩, cap, rfl, hcp, hm, fun ad e => (by cases e; rfl), fun j hj => ?_⟩
    obtain ⟨lv, a, b⟩ := hl.get j hj
    refine ⟨⟨g, 0, none⟩, lv, rfl, ?_, b.ce⟩
    rw [← ht, List.getElem?_take] at a
    split at a
    · simp only [World.cell?, hg, Nat.zero_add]; simpa using a
    · cases a
/-- A line is appended to a row of lines. -/
theorem run_append_line {F : Nat → Prop} {w : World} {TB Bd : Nat} {v lv : Value} {LL : List (List SC)} {l : List SC} (hF : ∀ k, w.heap.size ≤ k → F k) (h : Lw F w TB Bd v LL) (hx : Cl (fun k => k < Bd) w TB lv l) (hl : LL.length ≤ 1000000000) (ty : TypeId) :
    ∃ v' w', (Builtin.append_ #[51, 51] ty #[v, .slice (some ⟨w.heap.size, 0, none⟩) 1 1]).run Tryd.prog (w.alloc (.cells #[lv] 53)) = .ok v' w' ∧ Lw F w' TB Bd v' (LL ++ [l]) ∧ Tch (fun k => v.ownBlock = some k) w w' := by
  obtain ⟨vs, ho, hlv⟩ := h.val
  obtain ⟨i0, hi, hz0, hz1, hz2⟩ := info_scs
  have ta : Tch (fun _ => False) w (w.alloc (.cells #[lv] 53)) := Tch.alloc _ _ _
  have h0 := ho.kept ta (fun _ _ => id)
  have hnew := heap_alloc_new w (.cells #[lv] 53)
  obtain ⟨v', w', hr, ho', hg, hblk, _⟩ := run_append_Own (P := Tryd.prog) _ F 51 ty 53 i0 _ 1 24 Tryd.underlying51 hi hz0 hz1 hz2 rfl (by decide) v LL.length vs h0 ⟨w.heap.size, 0, none⟩ 1 1 [lv] rfl (fun j u hj => by
      match j, hj with
      | 0, hj => simp at hj; subst hj; exact cell_of_blk hnew 0) (by
      intro u hu
      simp at hu
      subst hu
      obtain ⟨ao, cp, rfl⟩ := hx.shape; rfl) (by unfold maxLen; omega) (by omega) (fun k hk => hF k (by simp at hk; omega))
  have tg : Tch (fun k => v.ownBlock = some k) (w.alloc (.cells #[lv] 53)) w' := Tch.grown hg (fun k e => e)
  have tt : Tch (fun k => v.ownBlock = some k) w w' := (ta.mono (fun _ h => h.elim)).trans tg
  have hk : ∀ g, v.ownBlock = some g → Kind w g 53 := fun g e => (h.kindB e).2
  have h8 : Spare w TB (fun k => v.ownBlock = some k) 5 := fun g _ hk2 e => absurd ((hk g e).ne hk2) (by decide)
  have hc : Spare w Bd (fun k => v.ownBlock = some k) 58 := fun g _ hk2 e => absurd ((hk g e).ne hk2) (by decide)
  refine ⟨v', w', hr, ⟨_, by simpa using ho', ?_⟩, tt⟩
  exact (hlv.kept tt h8 hc).append ⟨lv, [], rfl, hx.kept tt h8 (fun g hg => hc g (hx.kindB hg).1 (hx.kindB hg).2), rfl⟩

def LiPost (w : World) (LL : List (List SC)) (e : Ending) (w' : World) : Prop := ∃ v, e = .returned v ∧ Lw (New w) w' w'.heap.size w'.heap.size v LL ∧ Below w.heap.size w w'
/-- The loop of Lines. -/
def LiRel (w2 : World) (l : List SC) (t5 t6 t13 : Value) (wr : World) : Prop :=
  ∃ (j : Nat) (out : List (List SC)) (cur : List SC) (Bd : Nat), j ≤ l.length ∧ t13 = .int .i64 j ∧ out ++ linesGo cur (l.drop j) = linesGo [] l ∧ w2.heap.size ≤ Bd ∧ Bd ≤ wr.heap.size ∧
    Lw (New w2) wr w2.heap.size Bd t5 out ∧ Cl (fun k => New w2 k ∧ Bd ≤ k) wr w2.heap.size t6 cur ∧ Tch (New w2) w2 wr ∧ out.length ≤ j ∧ cur.length ≤ j

section
variable {w2 wr : World} {t5 t6 tv : Value} {out : List (List SC)} {cur : List SC} {Bd : Nat} {x : SC}
/-- A cell goes to the line. -/
theorem li_cell (h1 : w2.heap.size ≤ Bd) (h2 : Bd ≤ wr.heap.size) (ho : Lw (New w2) wr w2.heap.size Bd t5 out) (hc : Cl (fun k => New w2 k ∧ Bd ≤ k) wr w2.heap.size t6 cur) (t : Tch (New w2) w2 wr) (hx : Tx wr w2.heap.size tv x.text) (hl : cur.length ≤ 1000000000) (ty : TypeId) :
    ∃ v' w', (Builtin.append_ #[53, 53] ty #[t6, .slice (some ⟨wr.heap.size, 0, none⟩) 1 1]).run Tryd.prog (wr.alloc (.cells #[tv, .int .i64 x.width, .int .u8 x.fin.toNat] 58)) = .ok v' w' ∧ Lw (New w2) w' w2.heap.size Bd t5 out ∧ Cl (fun k => New w2 k ∧ Bd ≤ k) w' w2.heap.size v' (cur ++ [x]) ∧ Tch (New w2) w2 w' ∧ Bd ≤ w'.heap.size ∧
      Tch (fun k => t6.ownBlock = some k) wr w' := by
  obtain ⟨v', w', hr, hc', tt, _⟩ := run_append_cell (F := fun k => New w2 k ∧ Bd ≤ k) (fun k hk => ⟨Nat.le_trans t.size hk, by omega⟩) hc hx hl ty
  have h8 : Spare wr w2.heap.size (fun k => t6.ownBlock = some k) 5 := fun g _ hk e => absurd ((hc.kindB e).2.ne hk) (by decide)
  refine ⟨v', w', hr, ho.kept tt h8 ?_ ?_, hc', t.trans (tt.mono (fun g e => (hc.kindB e).1.1)), Nat.le_trans h2 tt.size, tt⟩
  · intro g hg hk e
    have := (hc.kindB e).1.2
    omega
  · intro g hg e
    exact absurd ((ho.kindB hg).2.ne (hc.kindB e).2) (by decide)
/-- The line goes to the lines. -/
theorem li_line (h1 : w2.heap.size ≤ Bd) (h2 : Bd ≤ wr.heap.size) (ho : Lw (New w2) wr w2.heap.size Bd t5 out) (hc : Cl (fun k => New w2 k ∧ Bd ≤ k) wr w2.heap.size t6 cur) (t : Tch (New w2) w2 wr) (hl : out.length ≤ 1000000000) (ty : TypeId) :
    ∃ v' w', (Builtin.append_ #[51, 51] ty #[t5, .slice (some ⟨wr.heap.size, 0, none⟩) 1 1]).run Tryd.prog (wr.alloc (.cells #[t6] 53)) = .ok v' w' ∧ Lw (New w2) w' w2.heap.size wr.heap.size v' (out ++ [cur]) ∧ Tch (New w2) w2 w' ∧ wr.heap.size ≤ w'.heap.size := by
  have hcl : Cl (fun k => k < wr.heap.size) wr w2.heap.size t6 cur := hc.mono (fun k hk _ => hk) (Nat.le_refl _)
  obtain ⟨v', w', hr, ho', tt⟩ := run_append_line (F := New w2) (fun k hk => Nat.le_trans t.size hk) (ho.mono (fun _ _ h => h) (Nat.le_refl _) h2) hcl hl ty
  exact ⟨v', w', hr, ho', t.trans (tt.mono (fun g e => (ho.kindB e).1)), tt.size⟩
end
end Go.Proofs.YtbagbfmklpklmaaDoor
