/- Plain law: tabs without a width pad nothing. -/
import Derived.Test.YtbagbfmklpklmaaDoorSr
import Derived.Test.YtbagbfmklpklmaaDoorPe
namespace Go.Proofs.YtbagbfmklpklmaaDoor
open Go.RowKit Go.Tw Go.Sort

section
variable {c : Cfg}
theorem cellsO_bare (h9 : c.ch = 9) (ht : c.tb = 0) (h32 : c.flag 32 = false) (f : Nat → Nat) : ∀ (l : List SC) (j : Nat) (ut : Bool), cellsO c f j ut l = texts l := by
  intro l
  induction l with
  | nil => intro j ut; rfl
  | cons x l ih =>
    intro j ut
    have hp : ∀ a b u, padB c a b u = [] := fun a b u => by unfold padB; rw [if_pos (.inl h9), if_pos ht]
    have hb : barB c j = [] := by unfold barB; rw [if_neg (fun h => by rw [h32] at h; exact absurd h.2 (by simp))]
    simp only [cellsO, hp, hb, ih, putB_nil, List.nil_append, texts_cons]
theorem lineO_bare (h9 : c.ch = 9) (ht : c.tb = 0) (h32 : c.flag 32 = false) (f : Nat → Nat) (l : Ln) : lineO c f l = texts l.cells ++ l.last := by
  have hb : barB c l.cells.length = [] := by unfold barB; rw [if_neg (fun h => by rw [h32] at h; exact absurd h.2 (by simp))]
  unfold lineO
  rw [cellsO_bare h9 ht h32, hb, List.nil_append]
theorem cells_fin (c : Cfg) : ∀ (n : Nat) (s : List UInt8) (x : SC) (pl : List UInt8), s.length ≤ n → x.fin = 0 → ∃ y l, cellsGo c x pl s = l ++ [y] ∧ y.fin = 0 ∧ ∀ z ∈ l, brk z.fin = true := by
  intro n
  induction n with
  | zero =>
    intro s x pl hs hx
    obtain rfl : s = [] := List.length_eq_zero_iff.1 (by omega)
    rw [cellsGo]
    exact ⟨_, [], rfl, hx, by simp⟩
  | succ n ih =>
    intro s x pl hs hx
    cases s with
    | nil => rw [cellsGo]; exact ⟨_, [], rfl, hx, by simp⟩
    | cons b t =>
      simp only [List.length_cons] at hs
      rw [cellsGo]
      split
      · refine ih _ _ _ ?_ hx
        have := (List.dropWhile_sublist (fun x => x != endOf c b) (l := t)).length_le
        simp only [List.length_drop]; omega
      · split
        · rename_i hb
          obtain ⟨y, l, e, hy, hz⟩ := ih t ⟨[], 0, 0⟩ [] (by omega) rfl
          refine ⟨y, _ :: l, by rw [e]; rfl, hy, fun z hz' => ?_⟩
          rcases List.mem_cons.1 hz' with rfl | h
          · exact hb
          · exact hz z h
        · exact ih _ _ _ (by omega) hx
theorem bare_lines (h9 : c.ch = 9) (ht : c.tb = 0) (h32 : c.flag 32 = false) {y : SC} (hy : y.fin = 0) (f : Nat → Nat → Nat) (n : Nat) : ∀ (l0 : List SC) (cur : List SC) (k : Nat), (∀ z ∈ l0, brk z.fin = true) → k + (linesGo cur (l0 ++ [y])).length = n → outF c f n k (endViews (linesGo cur (l0 ++ [y]))) = texts cur ++ bareO (l0 ++ [y]) := by
  have hyt : y.tabbed = false := by simp [SC.tabbed, hy]
  have hyb : bareC y = y.text := by unfold bareC; rw [hy]; simp
  intro l0
  induction l0 with
  | nil =>
    intro cur k _ hk
    have e : linesGo cur ([] ++ [y]) = [cur ++ [y]] := by simp [linesGo, hyt]
    rw [e] at hk ⊢
    simp only [List.length_cons, List.length_nil] at hk
    have hl : lineO c (f k) (viewEnd (cur ++ [y])) = texts cur ++ y.text := by
      rw [lineO_bare h9 ht h32]
      unfold viewEnd
      split
      · rename_i h
        have hyn : y.text = [] := by simpa using h.2
        rw [List.dropLast_concat, hyn, List.append_nil]
        by_cases hc : cur = []
        · subst hc; simp [view]
        · conv => rhs; rw [← List.dropLast_concat_getLast hc]
          unfold view
          rw [List.getLast?_eq_some_getLast hc]
          simp
      · rw [view_snoc]
    have hsh : (viewEnd (cur ++ [y])).shut = true ∧ c.flag 32 = true → False := fun h => by rw [h32] at h; exact absurd h.2 (by simp)
    simp only [endViews, outF, hl]
    rw [if_pos (by omega), if_neg hsh]
    simp [bareO, hyb]
  | cons x l0 ih =>
    intro cur k hb hk
    have hbx := hb x (by simp)
    have hb0 := fun z hz => hb z (List.mem_cons_of_mem _ hz)
    have ebo : bareO (x :: l0 ++ [y]) = bareC x ++ bareO (l0 ++ [y]) := by simp [bareO]
    by_cases hx : x.tabbed = true
    · have e : linesGo cur (x :: l0 ++ [y]) = linesGo (cur ++ [x]) (l0 ++ [y]) := by simp [linesGo, hx]
      rw [e] at hk ⊢
      rw [ih _ _ hb0 hk, ebo]
      have hbc : bareC x = x.text := by
        unfold bareC
        rw [if_neg (fun h => by unfold SC.tabbed at hx; rcases h with h | h <;> (rw [h] at hx; revert hx; decide)), List.append_nil]
      rw [hbc]; simp
    · have e : linesGo cur (x :: l0 ++ [y]) = (cur ++ [x]) :: linesGo [] (l0 ++ [y]) := by simp [linesGo, hx]
      have hne : linesGo [] (l0 ++ [y]) ≠ [] := linesGo_ne hyt l0 []
      have hpos : 0 < (linesGo [] (l0 ++ [y])).length := List.length_pos_iff.2 hne
      rw [e] at hk ⊢
      simp only [List.length_cons] at hk
      rw [endViews_cons _ hne, outF, lineO_bare h9 ht h32, if_neg (by omega), if_neg (fun h => by rw [h32] at h; exact absurd h.2 (by simp)), ih [] (k + 1) hb0 (by omega), ebo]
      have hbc : bareC x = x.text ++ [10] := by
        unfold bareC
        rw [if_pos]
        rcases brk_cases hbx with h | h | h | h
        · exact absurd (by unfold SC.tabbed; rw [h]; rfl) hx
        · exact absurd (by unfold SC.tabbed; rw [h]; rfl) hx
        · exact .inl h
        · exact .inr h
      rw [hbc, view_snoc]
      simp
/-- Tabs without a width pad nothing. -/
theorem format_bare (h9 : c.ch = 9) (ht : c.tb = 0) (h32 : c.flag 32 = false) (s : List UInt8) : formatO c s = bareO (cellsGo c ⟨[], 0, 0⟩ [] s) := by
  obtain ⟨y, l, e, hy, hz⟩ := cells_fin c s.length s ⟨[], 0, 0⟩ [] (Nat.le_refl _) rfl
  unfold formatO specOut
  rw [e]
  have hlen : ∀ M : List (List SC), (endViews M).length = M.length := by
    intro M
    induction M with
    | nil => rfl
    | cons a M ihM =>
      cases M with
      | nil => rfl
      | cons b M => rw [endViews_cons _ (by simp), List.length_cons, ihM]; rfl
  rw [bare_lines h9 ht h32 hy _ _ l [] 0 hz (by rw [hlen]; omega)]
  simp
end
end Go.Proofs.YtbagbfmklpklmaaDoor
