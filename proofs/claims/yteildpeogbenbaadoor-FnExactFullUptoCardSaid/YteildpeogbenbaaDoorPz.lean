/- A text that ends behind a tab; the lines that the reference formats. -/
import Derived.Test.YteildpeogbenbaaDoorPh
namespace Go.Proofs.YteildpeogbenbaaDoor
open Go.RowKit Go.Tw Go.Sort

/-- A text ends behind a tab. -/
def opn (l : List SC) : Bool := decide (1 < l.length) && ((l.getLastD default).text.isEmpty && (l.getD (l.length - 2) default).tabbed)
/-- Its lines without a cell at the end. -/
def cutLast (LL : List (List SC)) : List (List SC) := LL.dropLast ++ [(LL.getLastD []).dropLast]

theorem lines_end {y : SC} (hy : y.tabbed = false) : ∀ (l0 : List SC) (cur : List SC), ∃ init last, linesGo cur (l0 ++ [y]) = init ++ [last ++ [y]] ∧ (last = [] ↔ (if l0 = [] then cur = [] else (l0.getLastD default).tabbed = false)) := by
  intro l0
  induction l0 with
  | nil => intro cur; exact ⟨[], cur, by simp [linesGo, hy], by simp⟩
  | cons x l0 ih =>
    intro cur
    simp only [List.cons_append, linesGo]
    by_cases hx : x.tabbed = true
    · rw [if_pos hx]
      obtain ⟨init, last, h1, h2⟩ := ih (cur ++ [x])
      refine ⟨init, last, h1, ?_⟩
      rw [h2]
      cases l0 with
      | nil => simp [hx]
      | cons z l0 => simp
    · rw [if_neg hx]
      obtain ⟨init, last, h1, h2⟩ := ih []
      refine ⟨(cur ++ [x]) :: init, last, by rw [h1]; rfl, ?_⟩
      rw [h2]
      have hx' : x.tabbed = false := by simpa using hx
      cases l0 with
      | nil => simp [hx']
      | cons z l0 => simp
theorem endViews_snoc (init : List (List SC)) (l : List SC) : endViews (init ++ [l]) = init.map view ++ [viewEnd l] := by
  induction init with
  | nil => rfl
  | cons x init ih =>
    rw [List.cons_append, endViews_cons _ (by simp), ih]; rfl
/-- The lines that the reference formats. -/
theorem endViews_open (c : Cfg) (s : List UInt8) : endViews (linesGo [] (cellsGo c ⟨[], 0, 0⟩ [] s)) = (if opn (cellsGo c ⟨[], 0, 0⟩ [] s) = true then cutLast (linesGo [] (cellsGo c ⟨[], 0, 0⟩ [] s)) else linesGo [] (cellsGo c ⟨[], 0, 0⟩ [] s)).map view := by
  obtain ⟨y, l0, e, hy⟩ := cellsGo_last c s.length s ⟨[], 0, 0⟩ [] (Nat.le_refl _) rfl
  rw [e]
  have hyt : y.tabbed = false := by simp [SC.tabbed, hy]
  obtain ⟨init, last, h1, h2⟩ := lines_end hyt l0 []
  rw [h1, endViews_snoc]
  have ho : opn (l0 ++ [y]) = (!last.isEmpty && y.text.isEmpty) := by
    unfold opn
    cases hl0 : l0 with
    | nil =>
      subst hl0
      rw [if_pos rfl] at h2
      have : last = [] := h2.2 rfl
      subst this
      simp
    | cons z l1 =>
      rw [← hl0]
      have hne : l0 ≠ [] := by rw [hl0]; simp
      rw [if_neg hne] at h2
      have hlen : 0 < l0.length := List.length_pos_iff.2 hne
      have e1 : (l0 ++ [y]).getLastD default = y := by simp
      have e2 : (l0 ++ [y]).getD ((l0 ++ [y]).length - 2) default = l0.getLastD default := by
        have : (l0 ++ [y]).length - 2 = l0.length - 1 := by simp
        rw [this, List.getD_eq_getElem?_getD, List.getElem?_append_left (by omega), ← List.getLast?_eq_getElem?, List.getLastD_eq_getLast?]
      have e3 : decide (1 < (l0 ++ [y]).length) = true := by simp; omega
      rw [e1, e2, e3, Bool.true_and, Bool.and_comm]
      congr 1
      cases ht : (l0.getLastD default).tabbed
      · rw [h2.2 ht]; rfl
      · have : last ≠ [] := fun h => by have := h2.1 h; rw [ht] at this; cases this
        simpa using this
  rw [ho]
  unfold viewEnd
  by_cases hx : last ≠ [] ∧ y.text = []
  · have hp : 0 < last.length := List.length_pos_iff.2 hx.1
    rw [if_pos ⟨by simp; omega, by simpa using hx.2⟩, if_pos (by simp [hx.1, hx.2])]
    unfold cutLast
    simp
  · rw [if_neg (fun h => hx ⟨fun e => by rw [e] at h; simp at h, by simpa using h.2⟩), if_neg (fun h => hx (by simpa using h))]
    simp

end Go.Proofs.YteildpeogbenbaaDoor
