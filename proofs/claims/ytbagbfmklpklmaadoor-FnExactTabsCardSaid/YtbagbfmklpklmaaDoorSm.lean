/- Walks: spec.line. -/
import Derived.Test.YtbagbfmklpklmaaDoorSl
import Derived.Test.YtbagbfmklpklmaaDoorSg
namespace Go.Proofs.YtbagbfmklpklmaaDoor
open Go.RowKit Go.Tw Go.Sort
set_option maxRecDepth 100000

/-- The cells of a line from the j-th of N on, the last one's too. -/
def lnGo (c : Cfg) (f : Nat → Nat) (N : Nat) : Nat → Bool → List SC → List UInt8
  | _, _, [] => []
  | j, ut, x :: xs => barB c j ++ (putB c x.text (if j + 1 < N then padB c x.width.toNat (f j) (ut && x.text.isEmpty) else []) ++ lnGo c f N (j + 1) (ut && x.text.isEmpty) xs)
theorem putB_nil (c : Cfg) (t : List UInt8) : putB c t [] = t := by unfold putB; split <;> simp
theorem lnGo_eq (c : Cfg) (f : Nat → Nat) : ∀ (l : List SC) (j : Nat) (ut : Bool), l ≠ [] → lnGo c f (j + l.length) j ut l = cellsO c f j ut l.dropLast ++ (barB c (j + l.dropLast.length) ++ (l.getLast?.map (·.text)).getD []) := by
  intro l
  induction l with
  | nil => intro j ut h; exact absurd rfl h
  | cons x l ih =>
    intro j ut _
    cases l with
    | nil =>
      simp only [lnGo, List.length_cons, List.length_nil]
      rw [if_neg (by omega), putB_nil]
      simp [cellsO]
    | cons y l =>
      have ed : (x :: y :: l).dropLast = x :: (y :: l).dropLast := rfl
      rw [lnGo, if_pos (by simp only [List.length_cons]; omega), ed, cellsO, List.getLast?_cons_cons]
      have := ih (j + 1) (ut && x.text.isEmpty) (by simp)
      rw [show j + 1 + (y :: l).length = j + (x :: y :: l).length by simp only [List.length_cons]; omega] at this
      rw [this]
      simp only [List.append_assoc]
      rw [show j + 1 + (y :: l).dropLast.length = j + (x :: (y :: l).dropLast).length by rw [List.length_cons]; omega]
theorem lineO_lnGo (c : Cfg) (f : Nat → Nat) {l : List SC} (h : l ≠ []) : lineO c f (view l) = lnGo c f l.length 0 (c.flag 16) l := by
  have := lnGo_eq c f l 0 (c.flag 16) h
  rw [Nat.zero_add] at this
  rw [this, Nat.zero_add]; rfl

/-- Bounds on what a line gives. -/
structure FitT (LL : List (List SC)) : Prop extends Fit LL where
  txt : ∀ l ∈ LL, (texts l).length ≤ 1000000

theorem padB_len (c : Cfg) (tw cl : Nat) (ut : Bool) (ht : c.tb ≤ 1000) : (padB c tw cl ut).length ≤ cl + 2000 := by
  have := padB_le c tw cl ut; omega
theorem cW_le {c : Cfg} {LL : List (List SC)} (hf : Fit LL) (hm : c.mn ≤ 1000) (hp : c.pd ≤ 1000) (M : List Ln) (hM : ∀ ln ∈ M, ∃ l ∈ LL, ln = view l) (i j : Nat) : Wd c M i j ≤ 1001000 := by
  unfold Wd cW
  split
  · omega
  · refine cM_le (by omega) fun x hx => ?_
    obtain ⟨ln, hln, rfl⟩ := List.mem_map.1 hx
    have hmem : ln ∈ M := by
      unfold blockL at hln
      rcases List.mem_append.1 hln with h | h
      · have := List.mem_reverse.1 h
        have := (List.takeWhile_sublist _).subset this
        exact List.mem_of_mem_take (List.mem_reverse.1 this)
      · have hf : ∀ X : List Ln, ∀ y ∈ fwd j X, y ∈ X := by
          intro X
          induction X with
          | nil => intro y hy; simp [fwd] at hy
          | cons z X ih =>
            intro y hy
            rw [fwd] at hy
            split at hy
            · rcases List.mem_cons.1 hy with e | hy
              · simp [e]
              · split at hy
                · simp at hy
                · exact List.mem_cons_of_mem _ (ih y hy)
            · simp at hy
        exact List.mem_of_mem_drop (hf _ _ h)
    obtain ⟨l, hl, rfl⟩ := hM ln hmem
    rw [List.getD_eq_getElem?_getD]
    cases h : (view l).cells[j]? with
    | none => show (0 : Int).toNat + c.pd ≤ _; omega
    | some x =>
      have := hf.wid l hl x (List.dropLast_subset _ (List.mem_of_getElem? h))
      simp only [Option.getD_some]; omega
theorem lnGo_len {c : Cfg} {f : Nat → Nat} (hf : ∀ j, f j ≤ 1001000) (ht : c.tb ≤ 1000) (N : Nat) : ∀ (l : List SC) (j : Nat) (ut : Bool), (lnGo c f N j ut l).length ≤ (texts l).length + l.length * 1004000 := by
  intro l
  induction l with
  | nil => intro j ut; simp [lnGo]
  | cons x l ih =>
    intro j ut
    have h1 := ih (j + 1) (ut && x.text.isEmpty)
    have h2 : (barB c j).length ≤ 1 := by unfold barB; split <;> simp
    have h3 : ∀ p : List UInt8, p.length ≤ 1003000 → (putB c x.text p).length ≤ x.text.length + 1003000 := by
      intro p hp; unfold putB; split <;> simp <;> omega
    have h4 : (if j + 1 < N then padB c x.width.toNat (f j) (ut && x.text.isEmpty) else []).length ≤ 1003000 := by
      split
      · have := padB_len c x.width.toNat (f j) (ut && x.text.isEmpty) ht
        have := hf j
        omega
      · simp
    have h5 := h3 _ h4
    simp only [lnGo, List.length_append, texts_cons, List.length_cons, Nat.add_mul]
    omega

/-- The loop of line. -/
def LnRel (w1 : World) (c : Cfg) (f : Nat → Nat) (l : List SC) (t7 t8 t29 : Value) (wr : World) : Prop :=
  ∃ (j : Nat) (ut : Bool) (n : Nat) (pre : List UInt8), j ≤ l.length ∧ t29 = .int .i64 j ∧ t8 = .bool ut ∧ pre ++ lnGo c f l.length j ut (l.drop j) = lnGo c f l.length 0 (c.flag 16) l ∧ Own (New w1) wr 5 1 t7 n (bvs pre) ∧ n = pre.length ∧ Tch (New w1) w1 wr
end Go.Proofs.YtbagbfmklpklmaaDoor
