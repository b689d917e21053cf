/- Plain laws: what the reference gives, where flags do not matter; the text of the cells in it. -/
import Derived.Test.YteildpeogbenbaaDoorPg
namespace Go.Proofs.YteildpeogbenbaaDoor
open Go.RowKit Go.Tw Go.Sort

/-- Two set-ups that format alike but for what a law changes. -/
structure Alike (c d : Cfg) : Prop where
  mn : c.mn = d.mn
  tb : c.tb = d.tb
  pd : c.pd = d.pd
  ch : c.ch = d.ch

section
variable {c d : Cfg}
theorem padB_alike (h : Alike c d) (a b : Nat) (u : Bool) : padB c a b u = padB d a b u := by unfold padB; rw [h.ch, h.tb]
theorem barB_alike (h : c.flag 32 = d.flag 32) (j : Nat) : barB c j = barB d j := by unfold barB; rw [h]
theorem putB_alike (h : c.flag 4 = d.flag 4) (a b : List UInt8) : putB c a b = putB d a b := by unfold putB; rw [h]
theorem cellsO_alike (h : Alike c d) (h4 : c.flag 4 = d.flag 4) (h32 : c.flag 32 = d.flag 32) (f : Nat → Nat) : ∀ (l : List SC) (j : Nat) (ut : Bool), cellsO c f j ut l = cellsO d f j ut l := by
  intro l
  induction l with
  | nil => intro j ut; rfl
  | cons x l ih => intro j ut; simp only [cellsO, barB_alike h32, putB_alike h4, padB_alike h, ih]
theorem lineO_alike (h : Alike c d) (h4 : c.flag 4 = d.flag 4) (h16 : c.flag 16 = d.flag 16) (h32 : c.flag 32 = d.flag 32) (f : Nat → Nat) (l : Ln) : lineO c f l = lineO d f l := by
  unfold lineO
  rw [cellsO_alike h h4 h32, h16, barB_alike h32]
theorem outF_alike (h32 : c.flag 32 = d.flag 32) {f g : Nat → Nat → Nat} {n : Nat} : ∀ (M : List Ln) (k : Nat), (∀ i l, M[i]? = some l → lineO c (f (k + i)) l = lineO d (g (k + i)) l) → outF c f n k M = outF d g n k M := by
  intro M
  induction M with
  | nil => intro k _; rfl
  | cons l M ih =>
    intro k h
    simp only [outF]
    have h0 := h 0 l rfl
    rw [Nat.add_zero] at h0
    rw [h0, h32, ih (k + 1) (fun i x hx => by have := h (i + 1) x (by simpa using hx); rwa [show k + (i + 1) = k + 1 + i by omega] at this)]
/-- Lines are written alike where each line is. -/
theorem specOut_alike (h32 : c.flag 32 = d.flag 32) (M : List Ln) (h : ∀ (i : Nat) l, M[i]? = some l → lineO c (Wd c M i) l = lineO d (Wd d M i) l) : specOut c M = specOut d M := by
  unfold specOut
  exact outF_alike h32 M 0 (fun i l hl => by rw [Nat.zero_add]; exact h i l hl)
theorem cM_alike (h : Alike c d) (j : Nat) (b : List (List SC)) : cM c j b = cM d j b := by unfold cM; rw [h.mn, h.pd]
theorem Wd_alike (h : Alike c d) (h8 : c.flag 8 = d.flag 8) (M : List Ln) (i j : Nat) : Wd c M i j = Wd d M i j := by unfold Wd cW; rw [h8, cM_alike h]
theorem Wd_fun (h : Alike c d) (h8 : c.flag 8 = d.flag 8) (M : List Ln) (i : Nat) : Wd c M i = Wd d M i := funext fun j => Wd_alike h h8 M i j

/-- The cells are alike where the bytes that begin escapes, tags and entities do. -/
theorem cells_alike (n : Nat) : ∀ (s : List UInt8), s.length ≤ n → (∀ b ∈ s, endOf c b = endOf d b ∧ ∀ i w, passT c b i w = passT d b i w) → ∀ (x : SC) (pl : List UInt8), cellsGo c x pl s = cellsGo d x pl s := by
  induction n with
  | zero =>
    intro s hs _ x pl
    obtain rfl : s = [] := List.length_eq_zero_iff.1 (by omega)
    rw [cellsGo, cellsGo]
  | succ n ih =>
    intro s hs h x pl
    cases s with
    | nil => rw [cellsGo, cellsGo]
    | cons b t =>
      simp only [List.length_cons] at hs
      have hb := h b (by simp)
      have ht : ∀ z ∈ t, endOf c z = endOf d z ∧ ∀ i w, passT c z i w = passT d z i w := fun z hz => h z (List.mem_cons_of_mem _ hz)
      rw [cellsGo, cellsGo]
      rw [hb.1]
      split
      · rw [hb.2]
        have hsub : ∀ z ∈ (t.dropWhile (· != endOf d b)).drop 1, z ∈ t := fun z hz => (List.dropWhile_sublist _).subset ((List.drop_sublist _ _).subset hz)
        have hlen : ((t.dropWhile (· != endOf d b)).drop 1).length ≤ n := by
          have := (List.dropWhile_sublist (fun x => x != endOf d b) (l := t)).length_le
          simp only [List.length_drop]; omega
        exact ih _ hlen (fun z hz => ht z (hsub z hz)) _ _
      · split
        · rw [ih t (by omega) ht]
        · rw [ih t (by omega) ht]

/-- A cell's fins are bytes of the text, or 0. -/
theorem cells_fins (c : Cfg) (n : Nat) : ∀ (s : List UInt8), s.length ≤ n → ∀ (x : SC) (pl : List UInt8), ∀ z ∈ cellsGo c x pl s, z.fin = x.fin ∨ z.fin = 0 ∨ z.fin ∈ s := by
  induction n with
  | zero =>
    intro s hs x pl z hz
    obtain rfl : s = [] := List.length_eq_zero_iff.1 (by omega)
    rw [cellsGo] at hz
    simp at hz; subst hz; exact .inl rfl
  | succ n ih =>
    intro s hs x pl z hz
    cases s with
    | nil => rw [cellsGo] at hz; simp at hz; subst hz; exact .inl rfl
    | cons b t =>
      simp only [List.length_cons] at hs
      rw [cellsGo] at hz
      split at hz
      · have hlen : ((t.dropWhile (· != endOf c b)).drop 1).length ≤ n := by
          have := (List.dropWhile_sublist (fun x => x != endOf c b) (l := t)).length_le
          simp only [List.length_drop]; omega
        rcases ih _ hlen _ _ z hz with h | h | h
        · exact .inl h
        · exact .inr (.inl h)
        · exact .inr (.inr (List.mem_cons_of_mem _ ((List.dropWhile_sublist _).subset ((List.drop_sublist _ _).subset h))))
      · split at hz
        · rcases List.mem_cons.1 hz with rfl | hz
          · exact .inr (.inr (by simp))
          · rcases ih t (by omega) _ _ z hz with h | h | h
            · exact .inr (.inl h)
            · exact .inr (.inl h)
            · exact .inr (.inr (List.mem_cons_of_mem _ h))
        · rcases ih t (by omega) _ _ z hz with h | h | h
          · exact .inl h
          · exact .inr (.inl h)
          · exact .inr (.inr (List.mem_cons_of_mem _ h))

theorem view_cells_mem (l : List SC) : ∀ z ∈ (view l).cells, z ∈ l := fun _ hz => List.dropLast_subset _ hz
theorem viewEnd_cells_mem (l : List SC) : ∀ z ∈ (viewEnd l).cells, z ∈ l := fun z hz => by
  unfold viewEnd at hz
  split at hz
  · exact List.dropLast_subset _ (view_cells_mem _ z hz)
  · exact view_cells_mem _ z hz
theorem endViews_mem : ∀ (M : List (List SC)) (l : Ln), l ∈ endViews M → ∃ m ∈ M, l = view m ∨ l = viewEnd m := by
  intro M
  induction M with
  | nil => intro l hl; simp [endViews] at hl
  | cons m M ih =>
    intro l hl
    cases M with
    | nil => simp [endViews] at hl; exact ⟨m, by simp, .inr hl⟩
    | cons m2 r =>
      rw [endViews_cons _ (by simp)] at hl
      rcases List.mem_cons.1 hl with rfl | hl
      · exact ⟨m, by simp, .inl rfl⟩
      · obtain ⟨m', hm, h⟩ := ih l hl
        exact ⟨m', List.mem_cons_of_mem _ hm, h⟩
theorem linesGo_sub : ∀ (l cur : List SC) (m : List SC), m ∈ linesGo cur l → ∀ z ∈ m, z ∈ cur ∨ z ∈ l := by
  intro l
  induction l with
  | nil => intro cur m hm; simp [linesGo] at hm
  | cons x l ih =>
    intro cur m hm z hz
    simp only [linesGo] at hm
    split at hm
    · rcases ih _ _ hm z hz with h | h
      · rcases List.mem_append.1 h with h | h
        · exact .inl h
        · simp at h; subst h; exact .inr (by simp)
      · exact .inr (List.mem_cons_of_mem _ h)
    · rcases List.mem_cons.1 hm with rfl | hm
      · rcases List.mem_append.1 hz with h | h
        · exact .inl h
        · simp at h; subst h; exact .inr (by simp)
      · rcases ih _ _ hm z hz with h | h
        · simp at h
        · exact .inr (List.mem_cons_of_mem _ h)
/-- The cells of the lines that are written are cells of the text. -/
theorem lines_cells (l : List SC) : ∀ m ∈ endViews (linesGo [] l), ∀ z ∈ m.cells, z ∈ l := by
  intro m hm z hz
  obtain ⟨m', hm', h⟩ := endViews_mem _ _ hm
  have hz' : z ∈ m' := by
    rcases h with rfl | rfl
    · exact view_cells_mem _ z hz
    · exact viewEnd_cells_mem _ z hz
  rcases linesGo_sub l [] m' hm' z hz' with h | h
  · simp at h
  · exact h

theorem fwd_head {j : Nat} {l : Ln} {t : List Ln} (h : l.has j = true) : ∃ r, fwd j (l :: t) = l :: r := by
  unfold fwd; rw [if_pos h]; exact ⟨_, rfl⟩
/-- A line stands in its block. -/
theorem mem_blockL {M : List Ln} {i j : Nat} {l : Ln} (h : M[i]? = some l) (hj : j < l.cells.length) : l ∈ blockL M i j := by
  obtain ⟨hi, e⟩ := List.getElem?_eq_some_iff.1 h
  have hd : M.drop i = l :: M.drop (i + 1) := by rw [List.drop_eq_getElem_cons hi, e]
  unfold blockL
  rw [hd]
  obtain ⟨r, hr⟩ := fwd_head (t := M.drop (i + 1)) (show l.has j = true by unfold Ln.has; simpa using hj)
  rw [hr]
  simp
/-- Without vertical tabs nothing is discarded. -/
theorem Wd_noVT (h : Alike c d) {M : List Ln} {i : Nat} {l : Ln} (hl : M[i]? = some l) (hn : ∀ m ∈ M, ∀ z ∈ m.cells, z.fin ≠ 11) {j : Nat} (hj : j < l.cells.length) : Wd c M i j = Wd d M i j := by
  have hD : cD j ((blockL M i j).map (·.cells)) = false := by
    cases hc : cD j ((blockL M i j).map (·.cells)) with
    | false => rfl
    | true =>
      unfold cD at hc
      have := List.all_eq_true.1 hc l.cells (List.mem_map.2 ⟨l, mem_blockL hl hj, rfl⟩)
      have hm : l ∈ M := List.mem_of_getElem? hl
      have hz := hn l hm l.cells[j] (List.getElem_mem hj)
      simp [List.getD_eq_getElem?_getD, hj] at this
      exact absurd this.2 hz
  unfold Wd cW
  rw [hD, cM_alike h]
  simp
theorem format_noVT (h : Alike c d) (h1 : c.flag 1 = d.flag 1) (h2 : c.flag 2 = d.flag 2) (h4 : c.flag 4 = d.flag 4) (h16 : c.flag 16 = d.flag 16) (h32 : c.flag 32 = d.flag 32) (s : List UInt8) (hs : ∀ b ∈ s, b ≠ 11) : formatO c s = formatO d s := by
  have hc : cellsGo c ⟨[], 0, 0⟩ [] s = cellsGo d ⟨[], 0, 0⟩ [] s := cells_alike s.length s (Nat.le_refl _) (fun b _ => ⟨by unfold endOf; rw [h1], fun i w => by unfold passT endOf; rw [h1, h2]⟩) _ _
  unfold formatO
  rw [hc]
  have hn : ∀ m ∈ endViews (linesGo [] (cellsGo d ⟨[], 0, 0⟩ [] s)), ∀ z ∈ m.cells, z.fin ≠ 11 := by
    intro m hm z hz
    rcases cells_fins d s.length s (Nat.le_refl _) _ _ z (lines_cells _ m hm z hz) with h | h | h
    · rw [h]; decide
    · rw [h]; decide
    · exact hs _ h
  refine specOut_alike h32 _ (fun i l hl => ?_)
  rw [lineO_alike h h4 h16 h32]
  exact lineO_congr (fun j hj => Wd_noVT h hl hn hj)
/-- Where only the flags that cells are read by differ, and no byte of the text is read by them. -/
theorem format_cells (h : Alike c d) (h4 : c.flag 4 = d.flag 4) (h8 : c.flag 8 = d.flag 8) (h16 : c.flag 16 = d.flag 16) (h32 : c.flag 32 = d.flag 32) (s : List UInt8) (hs : ∀ b ∈ s, endOf c b = endOf d b ∧ ∀ i w, passT c b i w = passT d b i w) : formatO c s = formatO d s := by
  unfold formatO
  rw [cells_alike s.length s (Nat.le_refl _) hs]
  refine specOut_alike h32 _ (fun i l hl => ?_)
  rw [lineO_alike h h4 h16 h32, Wd_fun h h8]
/-- Without escapes stripping changes nothing. -/
theorem format_noEsc (h : Alike c d) (h1 : c.flag 1 = d.flag 1) (h4 : c.flag 4 = d.flag 4) (h8 : c.flag 8 = d.flag 8) (h16 : c.flag 16 = d.flag 16) (h32 : c.flag 32 = d.flag 32) (s : List UInt8) (hs : ∀ b ∈ s, b ≠ 255) : formatO c s = formatO d s :=
  format_cells h h4 h8 h16 h32 s (fun b hb => ⟨by unfold endOf; rw [h1], fun i w => by
    have he : endOf c b = endOf d b := by unfold endOf; rw [h1]
    unfold passT
    rw [he, if_neg (fun h : b = 255 ∧ c.flag 2 = true => hs b hb h.1), if_neg (fun h : b = 255 ∧ d.flag 2 = true => hs b hb h.1)]⟩)
/-- Without tags and entities filtering changes nothing. -/
theorem format_noTag (h : Alike c d) (h2 : c.flag 2 = d.flag 2) (h4 : c.flag 4 = d.flag 4) (h8 : c.flag 8 = d.flag 8) (h16 : c.flag 16 = d.flag 16) (h32 : c.flag 32 = d.flag 32) (s : List UInt8) (hs : ∀ b ∈ s, b ≠ 60 ∧ b ≠ 38) : formatO c s = formatO d s := by
  have he : ∀ b ∈ s, endOf c b = endOf d b := fun b hb => by
    unfold endOf
    rw [if_neg (fun h : b = 60 ∧ c.flag 1 = true => (hs b hb).1 h.1), if_neg (fun h : b = 38 ∧ c.flag 1 = true => (hs b hb).2 h.1), if_neg (fun h : b = 60 ∧ d.flag 1 = true => (hs b hb).1 h.1), if_neg (fun h : b = 38 ∧ d.flag 1 = true => (hs b hb).2 h.1)]
  exact format_cells h h4 h8 h16 h32 s (fun b hb => ⟨he b hb, fun i w => by unfold passT; rw [h2, he b hb]⟩)
/-- Tabs for indentation change nothing where no line begins with an empty cell. -/
theorem lineO_indent (h : Alike c d) (h4 : c.flag 4 = d.flag 4) (h32 : c.flag 32 = d.flag 32) (f : Nat → Nat) (l : Ln) (hl : ∀ x r, l.cells = x :: r → x.text ≠ []) : lineO c f l = lineO d f l := by
  unfold lineO
  rw [barB_alike h32, cellsO_alike h h4 h32]
  congr 1
  cases hc : l.cells with
  | nil => rfl
  | cons x r =>
    have hx : x.text.isEmpty = false := by
      have := hl x r hc
      cases ht : x.text with
      | nil => exact absurd ht this
      | cons _ _ => rfl
    simp only [cellsO, hx, Bool.and_false]
theorem format_indent (h : Alike c d) (h1 : c.flag 1 = d.flag 1) (h2 : c.flag 2 = d.flag 2) (h4 : c.flag 4 = d.flag 4) (h8 : c.flag 8 = d.flag 8) (h32 : c.flag 32 = d.flag 32) (s : List UInt8)
    (hb : ∀ m ∈ linesGo [] (cellsGo d ⟨[], 0, 0⟩ [] s), ¬ (1 < m.length ∧ (m.head?.map (·.text)).getD [] = [])) : formatO c s = formatO d s := by
  have hc : cellsGo c ⟨[], 0, 0⟩ [] s = cellsGo d ⟨[], 0, 0⟩ [] s := cells_alike s.length s (Nat.le_refl _) (fun b _ => ⟨by unfold endOf; rw [h1], fun i w => by unfold passT endOf; rw [h1, h2]⟩) _ _
  unfold formatO
  rw [hc]
  refine specOut_alike h32 _ (fun i l hl => ?_)
  rw [Wd_fun h h8]
  refine lineO_indent h h4 h32 _ l (fun x r hx => ?_)
  obtain ⟨m, hm, hv⟩ := endViews_mem _ _ (List.mem_of_getElem? hl)
  have hn := hb m hm
  have hm2 : ∃ y r', m = x :: y :: r' := by
    have h0 : ∀ (k : List SC), (view k).cells = x :: r → ∃ y r', k = x :: y :: r' := by
      intro k hk
      unfold view at hk
      simp only at hk
      cases k with
      | nil => simp at hk
      | cons a k =>
        cases k with
        | nil => simp at hk
        | cons b k => simp [List.dropLast_cons_cons] at hk; exact ⟨b, k, by rw [hk.1]⟩
    rcases hv with rfl | rfl
    · exact h0 m hx
    · unfold viewEnd at hx
      split at hx
      · obtain ⟨y, r', e⟩ := h0 _ hx
        cases m with
        | nil => simp at e
        | cons a m =>
          cases m with
          | nil => simp at e
          | cons b m => simp [List.dropLast_cons_cons] at e; exact ⟨b, m, by rw [e.1]⟩
      · exact h0 m hx
  obtain ⟨y, r', rfl⟩ := hm2
  intro ht
  exact hn ⟨by simp, by simpa using ht⟩
end
end Go.Proofs.YteildpeogbenbaaDoor
