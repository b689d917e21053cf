/- Plain law: tabs without a width pad nothing. -/
import Derived.Test.YteildpeogbenbaaDoorPe
namespace Go.Proofs.YteildpeogbenbaaDoor
open Go.RowKit Go.Tw Go.Sort

section
variable {c : Cfg}
theorem putB_nil0 (t : List UInt8) : putB c t [] = t := by unfold putB; split <;> simp
theorem cellsO_bare (h9 : c.ch = 9) (ht : c.tb = 0) (h32 : c.flag 32 = false) (f : Nat → Nat) : ∀ (l : List SC) (j : Nat) (ut : Bool), cellsO c f j ut l = texts l := by
  intro l
  induction l with
  | nil => intro j ut; rfl
  | cons x l ih =>
    intro j ut
    have hp : ∀ a b u, padB c a b u = [] := fun a b u => by unfold padB; rw [if_pos (.inl h9), if_pos ht]
    have hb : barB c j = [] := by unfold barB; rw [if_neg (fun h => by rw [h32] at h; exact absurd h.2 (by simp))]
    simp only [cellsO, hp, hb, ih, putB_nil0, List.nil_append, texts_cons]
theorem lineO_bare (h9 : c.ch = 9) (ht : c.tb = 0) (h32 : c.flag 32 = false) (f : Nat → Nat) (l : Ln) : lineO c f l = texts l.cells ++ l.last := by
  have hb : barB c l.cells.length = [] := by unfold barB; rw [if_neg (fun h => by rw [h32] at h; exact absurd h.2 (by simp))]
  unfold lineO
  rw [cellsO_bare h9 ht h32, hb, List.nil_append]
theorem cells_fin (c : Cfg) : ∀ (n : Nat) (s : List UInt8) (x : SC) (pl : List UInt8), s.length ≤ n → x.fin = 0 → ∃ y l, cellsGo c x pl s = l ++ [y] ∧ y.fin = 0 ∧ ∀ z ∈ l, brk z.fin = true := by
  intro n
  induction n with
  | zero =>
    intro s x pl hs hx
    obtain rfl : s = [] := List.length_eq_zero_iff.1 (by omega)
    rw [cellsGo]
    exact ⟨_, [], rfl, hx, by simp⟩
  | succ n ih =>
    intro s x pl hs hx
    cases s with
    | nil => rw [cellsGo]; exact ⟨_, [], rfl, hx, by simp⟩
    | cons b t =>
      simp only [List.length_cons] at hs
      rw [cellsGo]
      split
      · refine ih _ _ _ ?_ hx
        have := (List.dropWhile_sublist (fun x => x != endOf c b) (l := t)).length_le
        simp only [List.length_drop]; omega
      · split
        · rename_i hb
          obtain ⟨y, l, e, hy, hz⟩ := ih t ⟨[], 0, 0⟩ [] (by omega) rfl
          refine ⟨y, _ :: l, by rw [e]; rfl, hy, fun z hz' => ?_⟩
          rcases List.mem_cons.1 hz' with rfl | h
          · exact hb
          · exact hz z h
        · exact ih _ _ _ (by omega) hx
theorem bare_lines (R : List UInt8 → List UInt8 → Prop) (hr : ∀ a, R a a) (ha : ∀ a b a' b', R a b → R a' b' → R (a ++ a') (b ++ b')) (hL : ∀ f (l : Ln), R (lineO c f l) (texts l.cells ++ l.last)) (h32 : c.flag 32 = false) {y : SC} (hy : y.fin = 0) (f : Nat → Nat → Nat) (n : Nat) : ∀ (l0 : List SC) (cur : List SC) (k : Nat), (∀ z ∈ l0, brk z.fin = true) → k + (linesGo cur (l0 ++ [y])).length = n → R (outF c f n k (endViews (linesGo cur (l0 ++ [y])))) (texts cur ++ bareO (l0 ++ [y])) := by
  have hyt : y.tabbed = false := by simp [SC.tabbed, hy]
  have hyb : bareC y = y.text := by unfold bareC; rw [hy]; simp
  intro l0
  induction l0 with
  | nil =>
    intro cur k _ hk
    have e : linesGo cur ([] ++ [y]) = [cur ++ [y]] := by simp [linesGo, hyt]
    rw [e] at hk ⊢
    simp only [List.length_cons, List.length_nil] at hk
    have hl : texts (viewEnd (cur ++ [y])).cells ++ (viewEnd (cur ++ [y])).last = texts cur ++ y.text := by
      unfold viewEnd
      split
      · rename_i h
        have hyn : y.text = [] := by simpa using h.2
        rw [List.dropLast_concat, hyn, List.append_nil]
        by_cases hc : cur = []
        · subst hc; simp [view]
        · conv => rhs; rw [← List.dropLast_concat_getLast hc]
          unfold view
          rw [List.getLast?_eq_some_getLast hc]
          simp
      · rw [view_snoc]
    have hsh : (viewEnd (cur ++ [y])).shut = true ∧ c.flag 32 = true → False := fun h => by rw [h32] at h; exact absurd h.2 (by simp)
    have h0 := hL (f k) (viewEnd (cur ++ [y]))
    rw [hl] at h0
    simp only [endViews, outF]
    rw [if_pos (by omega), if_neg hsh]
    simpa [bareO, hyb] using h0
  | cons x l0 ih =>
    intro cur k hb hk
    have hbx := hb x (by simp)
    have hb0 := fun z hz => hb z (List.mem_cons_of_mem _ hz)
    have ebo : bareO (x :: l0 ++ [y]) = bareC x ++ bareO (l0 ++ [y]) := by simp [bareO]
    by_cases hx : x.tabbed = true
    · have e : linesGo cur (x :: l0 ++ [y]) = linesGo (cur ++ [x]) (l0 ++ [y]) := by simp [linesGo, hx]
      rw [e] at hk ⊢
      have h0 := ih _ _ hb0 hk
      rw [ebo]
      have hbc : bareC x = x.text := by
        unfold bareC
        rw [if_neg (fun h => by unfold SC.tabbed at hx; rcases h with h | h <;> (rw [h] at hx; revert hx; decide)), List.append_nil]
      rw [hbc]
      simpa using h0
    · have e : linesGo cur (x :: l0 ++ [y]) = (cur ++ [x]) :: linesGo [] (l0 ++ [y]) := by simp [linesGo, hx]
      have hne : linesGo [] (l0 ++ [y]) ≠ [] := linesGo_ne hyt l0 []
      have hpos : 0 < (linesGo [] (l0 ++ [y])).length := List.length_pos_iff.2 hne
      rw [e] at hk ⊢
      simp only [List.length_cons] at hk
      rw [endViews_cons _ hne, outF, if_neg (by omega), if_neg (fun h => by rw [h32] at h; exact absurd h.2 (by simp)), ebo]
      have h0 := ih [] (k + 1) hb0 (by omega)
      have hbc : bareC x = x.text ++ [10] := by
        unfold bareC
        rw [if_pos]
        rcases brk_cases hbx with h | h | h | h
        · exact absurd (by unfold SC.tabbed; rw [h]; rfl) hx
        · exact absurd (by unfold SC.tabbed; rw [h]; rfl) hx
        · exact .inl h
        · exact .inr h
      have h1 := hL (f k) (view (cur ++ [x]))
      rw [view_snoc] at h1 ⊢
      have h2 := ha _ _ _ _ h1 (ha _ _ _ _ (hr [10]) h0)
      rw [hbc]
      simpa using h2
theorem format_rel (R : List UInt8 → List UInt8 → Prop) (hr : ∀ a, R a a) (ha : ∀ a b a' b', R a b → R a' b' → R (a ++ a') (b ++ b')) (hL : ∀ f (l : Ln), R (lineO c f l) (texts l.cells ++ l.last)) (h32 : c.flag 32 = false) (s : List UInt8) : R (formatO c s) (bareO (cellsGo c ⟨[], 0, 0⟩ [] s)) := by
  obtain ⟨y, l, e, hy, hz⟩ := cells_fin c s.length s ⟨[], 0, 0⟩ [] (Nat.le_refl _) rfl
  unfold formatO specOut
  rw [e]
  have hlen : ∀ M : List (List SC), (endViews M).length = M.length := by
    intro M
    induction M with
    | nil => rfl
    | cons a M ihM =>
      cases M with
      | nil => rfl
      | cons b M => rw [endViews_cons _ (by simp), List.length_cons, ihM]; rfl
  have := bare_lines R hr ha hL h32 hy (Wd c (endViews (linesGo [] (l ++ [y])))) (endViews (linesGo [] (l ++ [y]))).length l [] 0 hz (by rw [hlen]; omega)
  simpa using this
/-- Tabs without a width pad nothing. -/
theorem format_bare (h9 : c.ch = 9) (ht : c.tb = 0) (h32 : c.flag 32 = false) (s : List UInt8) : formatO c s = bareO (cellsGo c ⟨[], 0, 0⟩ [] s) :=
  format_rel (fun a b => a = b) (fun _ => rfl) (fun _ _ _ _ h1 h2 => by rw [h1, h2]) (fun f l => lineO_bare h9 ht h32 f l) h32 s

/-- The padding's bytes: without them the text of the cells is there. -/
theorem putB_filter (p : UInt8 → Bool) {pad : List UInt8} (h : pad.filter p = []) (t : List UInt8) : (putB c t pad).filter p = t.filter p := by
  unfold putB
  split <;> simp [h]
theorem cellsO_filter (p : UInt8 → Bool) (hp : ∀ a b u, u = true → c.flag 16 = true → (padB c a b u).filter p = []) (hp2 : ∀ a b, (padB c a b false).filter p = []) (h32 : c.flag 32 = false) (f : Nat → Nat) : ∀ (l : List SC) (j : Nat) (ut : Bool), (ut = true → c.flag 16 = true) → (cellsO c f j ut l).filter p = (texts l).filter p := by
  intro l
  induction l with
  | nil => intro j ut _; rfl
  | cons x l ih =>
    intro j ut hu
    have hb : barB c j = [] := by unfold barB; rw [if_neg (fun h => by rw [h32] at h; exact absurd h.2 (by simp))]
    have hu2 : (ut && x.text.isEmpty) = true → c.flag 16 = true := fun h => hu (by simp at h; exact h.1)
    have hpad : (padB c x.width.toNat (f j) (ut && x.text.isEmpty)).filter p = [] := by
      cases hx : (ut && x.text.isEmpty) with
      | true => exact hp _ _ _ rfl (hu2 hx)
      | false => exact hp2 _ _
    simp only [cellsO, hb, List.nil_append, List.filter_append, putB_filter p hpad, ih _ _ hu2, texts_cons]
theorem lineO_filter (p : UInt8 → Bool) (hp : ∀ a b u, u = true → c.flag 16 = true → (padB c a b u).filter p = []) (hp2 : ∀ a b, (padB c a b false).filter p = []) (h32 : c.flag 32 = false) (f : Nat → Nat) (l : Ln) : (lineO c f l).filter p = (texts l.cells ++ l.last).filter p := by
  have hb : barB c l.cells.length = [] := by unfold barB; rw [if_neg (fun h => by rw [h32] at h; exact absurd h.2 (by simp))]
  unfold lineO
  rw [hb, List.nil_append, List.filter_append, List.filter_append, cellsO_filter p hp hp2 h32 f l.cells 0 _ (fun h => h)]
theorem padB_ch (h16 : ¬ c.flag 16 = true) (a b : Nat) (u : Bool) (hu : u = true → c.flag 16 = true) : (padB c a b u).filter (· != c.ch) = [] := by
  have hu0 : u = false := by cases u; rfl; exact absurd (hu rfl) h16
  subst hu0
  unfold padB
  split
  · rename_i h
    rcases h with h | h
    · split
      · rfl
      · rw [h]; simp
    · simp at h
  · simp
theorem padB_9 (h9 : c.ch = 9) (a b : Nat) (u : Bool) : (padB c a b u).filter (· != 9) = [] := by
  unfold padB
  rw [if_pos (.inl h9)]
  split
  · rfl
  · simp
/-- Without the padding the text of all cells is there. -/
theorem format_lost (h16 : c.flag 16 = false) (h32 : c.flag 32 = false) (s : List UInt8) : (formatO c s).filter (· != c.ch) = (bareO (cellsGo c ⟨[], 0, 0⟩ [] s)).filter (· != c.ch) :=
  format_rel (fun a b => a.filter (· != c.ch) = b.filter (· != c.ch)) (fun _ => rfl) (fun _ _ _ _ h1 h2 => by simp only [List.filter_append, h1, h2])
    (fun f l => lineO_filter _ (fun a b u _ h => by rw [h16] at h; exact absurd h (by simp)) (fun a b => padB_ch (by rw [h16]; simp) a b false (by simp)) h32 f l) h32 s
theorem format_tabs (h9 : c.ch = 9) (h32 : c.flag 32 = false) (s : List UInt8) : (formatO c s).filter (· != 9) = (bareO (cellsGo c ⟨[], 0, 0⟩ [] s)).filter (· != 9) :=
  format_rel (fun a b => a.filter (· != 9) = b.filter (· != 9)) (fun _ => rfl) (fun _ _ _ _ h1 h2 => by simp only [List.filter_append, h1, h2])
    (fun f l => lineO_filter _ (fun a b u _ _ => padB_9 h9 a b u) (fun a b => padB_9 h9 a b false) h32 f l) h32 s

theorem cellsO_sub (f : Nat → Nat) : ∀ (l : List SC) (j : Nat) (ut : Bool), (texts l).Sublist (cellsO c f j ut l) := by
  intro l
  induction l with
  | nil => intro j ut; exact List.Sublist.refl _
  | cons x l ih =>
    intro j ut
    simp only [cellsO, texts_cons]
    refine List.Sublist.trans ?_ (List.sublist_append_right _ _)
    refine List.Sublist.append ?_ (ih _ _)
    unfold putB
    split
    · exact List.sublist_append_right _ _
    · exact List.sublist_append_left _ _
/-- The text of the cells is in what is written. -/
theorem format_longer (h32 : c.flag 32 = false) (s : List UInt8) : (bareO (cellsGo c ⟨[], 0, 0⟩ [] s)).length ≤ (formatO c s).length :=
  (format_rel (fun a b => b.Sublist a) (fun _ => List.Sublist.refl _) (fun _ _ _ _ h1 h2 => List.Sublist.append h1 h2)
    (fun f l => by unfold lineO; exact List.Sublist.append (cellsO_sub f _ _ _) (List.sublist_append_right _ _)) h32 s).length_le
end
end Go.Proofs.YteildpeogbenbaaDoor
