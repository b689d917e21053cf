/- Plain law: vertical tabs are as good as horizontal ones where nothing is discarded. Plain laws of texts without escapes, tags and entities: their cells; what is written, line by line. Plain laws: as many lines; nothing added; greater widths; aligned to the right. Plain laws: bars; blocks; formfeeds; what is aligned stays. Plain laws: bars are all that is added; bars between the same columns stand below each other. -/
import Derived.Test.YtaagcdlghoiolaaDoorPh
import Derived.Test.YtaagcdlghoiolaaDoorPz
namespace Go.Proofs.YtaagcdlghoiolaaDoor
open Go.RowKit Go.Tw Go.Sort

def sw (a b x : UInt8) : UInt8 := if x = a then b else x
def swC (x : SC) : SC := { x with fin := sw 11 9 x.fin }
def swL (l : Ln) : Ln := { l with cells := l.cells.map swC }

section
variable {c : Cfg}
theorem endOf_tame {b : UInt8} (h1 : b ≠ 255) (h2 : b ≠ 60) (h3 : b ≠ 38) : endOf c b = 0 := by
  unfold endOf
  rw [if_neg h1, if_neg (fun h => h2 h.1), if_neg (fun h => h3 h.1)]
theorem cellsGo_sw : ∀ (s : List UInt8) (x : SC) (pl : List UInt8), (∀ b ∈ s, b ≠ 255 ∧ b ≠ 60 ∧ b ≠ 38) → x.fin = 0 → cellsGo c x pl (s.map (sw 11 9)) = (cellsGo c x pl s).map swC := by
  intro s
  induction s with
  | nil =>
    intro x pl _ hx
    rw [List.map_nil, cellsGo]
    simp [swC, hx, sw]
  | cons b t ih =>
    intro x pl hs hx
    obtain ⟨n1, n2, n3⟩ := hs b (by simp)
    have ht : ∀ z ∈ t, z ≠ 255 ∧ z ≠ 60 ∧ z ≠ 38 := fun z hz => hs z (List.mem_cons_of_mem _ hz)
    have e1 : endOf c b = 0 := endOf_tame n1 n2 n3
    by_cases h11 : b = 11
    · subst h11
      have e2 : sw 11 9 11 = 9 := rfl
      have e3 : endOf c 9 = 0 := endOf_tame (by decide) (by decide) (by decide)
      rw [List.map_cons, e2, cellsGo, cellsGo, if_neg (by rw [e3]; simp), if_pos (by decide), if_neg (by rw [e1]; simp), if_pos (by decide), List.map_cons, ih _ _ ht rfl]
      rfl
    · have e2 : sw 11 9 b = b := by unfold sw; rw [if_neg h11]
      rw [List.map_cons, e2, cellsGo, cellsGo]
      have e0 : ¬ (endOf c b ≠ 0) := by rw [e1]; simp
      by_cases hk : brk b = true
      · rw [if_neg e0, if_pos hk, if_neg e0, if_pos hk, List.map_cons, ih _ _ ht rfl]
        simp [swC, e2]
      · rw [if_neg e0, if_neg hk, if_neg e0, if_neg hk]
        exact ih _ _ ht hx
theorem tabbed_sw (x : SC) : (swC x).tabbed = x.tabbed := by
  unfold SC.tabbed swC sw
  by_cases h : x.fin = 11
  · simp [h]
  · simp [h]
theorem linesGo_sw : ∀ (l cur : List SC), linesGo (cur.map swC) (l.map swC) = (linesGo cur l).map (·.map swC) := by
  intro l
  induction l with
  | nil => intro cur; rfl
  | cons x l ih =>
    intro cur
    simp only [List.map_cons, linesGo, tabbed_sw]
    have e : cur.map swC ++ [swC x] = (cur ++ [x]).map swC := by simp
    split
    · rw [e, ih]
    · have := ih []
      rw [List.map_nil] at this
      rw [List.map_cons, this, e]
theorem view_sw (l : List SC) : view (l.map swC) = swL (view l) := by
  unfold view swL
  have h1 : (l.map swC).dropLast = l.dropLast.map swC := by rw [List.map_dropLast]
  rw [h1, List.getLast?_map]
  cases l.getLast? with
  | none => rfl
  | some y =>
    simp only [Option.map_some, Option.getD_some, swC]
    congr 1
    unfold sw
    by_cases h : y.fin = 11
    · simp [h]
    · simp [h]
theorem viewEnd_sw (l : List SC) : viewEnd (l.map swC) = swL (viewEnd l) := by
  unfold viewEnd
  have h1 : ((l.map swC).getLast?.map (·.text)) = (l.getLast?.map (·.text)) := by
    rw [List.getLast?_map]
    cases l.getLast? <;> rfl
  rw [h1, List.length_map]
  split
  · rw [← List.map_dropLast, view_sw]
  · exact view_sw l
theorem endViews_sw : ∀ M : List (List SC), endViews (M.map (·.map swC)) = (endViews M).map swL := by
  intro M
  induction M with
  | nil => rfl
  | cons l M ih =>
    cases M with
    | nil => simp [endViews, viewEnd_sw]
    | cons m r =>
      have h1 := endViews_cons l (M := m :: r) (by simp)
      have h2 := endViews_cons (l.map swC) (M := (m :: r).map (·.map swC)) (by simp)
      rw [List.map_cons, h2, h1, ih, List.map_cons, view_sw]
theorem fwd_sw (j : Nat) : ∀ M : List Ln, fwd j (M.map swL) = (fwd j M).map swL := by
  intro M
  induction M with
  | nil => rfl
  | cons l M ih =>
    have e1 : (swL l).has j = l.has j := by simp [Ln.has, swL]
    have e2 : (swL l).shut = l.shut := rfl
    simp only [List.map_cons, fwd, e1, e2]
    split
    · split
      · rfl
      · rw [ih]; rfl
    · rfl
theorem blockL_sw (M : List Ln) (i j : Nat) : blockL (M.map swL) i j = (blockL M i j).map swL := by
  unfold blockL
  have h1 : ((M.map swL).take i).reverse.takeWhile (fun l => l.has j && !l.shut) = ((M.take i).reverse.takeWhile (fun l => l.has j && !l.shut)).map swL := by
    rw [← List.map_take, ← List.map_reverse, List.takeWhile_map]
    congr 1
    congr 1
    funext l
    simp [Ln.has, swL]
  rw [h1, ← List.map_drop, fwd_sw, List.map_append, List.map_reverse]
theorem cM_sw (j : Nat) : ∀ (b : List (List SC)) (m : Nat), (b.map (·.map swC)).foldl (fun m l => max m ((l.getD j default).width.toNat + c.pd)) m = b.foldl (fun m l => max m ((l.getD j default).width.toNat + c.pd)) m := by
  intro b
  induction b with
  | nil => intro m; rfl
  | cons l b ih =>
    intro m
    have e : ((l.map swC).getD j default).width = (l.getD j default).width := by
      simp only [List.getD_eq_getElem?_getD, List.getElem?_map]
      cases l[j]? <;> rfl
    simp only [List.map_cons, List.foldl_cons, e, ih]
theorem Wd_sw (h8 : c.flag 8 = false) (M : List Ln) (i j : Nat) : Wd c (M.map swL) i j = Wd c M i j := by
  unfold Wd cW
  rw [h8, blockL_sw]
  simp only [Bool.false_eq_true, and_false, if_false]
  unfold cM
  have e : ((blockL M i j).map swL).map (·.cells) = ((blockL M i j).map (·.cells)).map (·.map swC) := by
    simp [swL, List.map_map, Function.comp_def]
  rw [e, cM_sw]
theorem cellsO_sw (f : Nat → Nat) : ∀ (l : List SC) (j : Nat) (ut : Bool), cellsO c f j ut (l.map swC) = cellsO c f j ut l := by
  intro l
  induction l with
  | nil => intro j ut; rfl
  | cons x l ih => intro j ut; simp only [List.map_cons, cellsO, ih]; rfl
theorem lineO_sw (f : Nat → Nat) (l : Ln) : lineO c f (swL l) = lineO c f l := by
  unfold lineO
  have e1 : (swL l).cells = l.cells.map swC := rfl
  have e2 : (swL l).last = l.last := rfl
  rw [e1, e2, cellsO_sw, List.length_map]
theorem outF_sw {f g : Nat → Nat → Nat} {n : Nat} (h : ∀ i, f i = g i) : ∀ (M : List Ln) (k : Nat), outF c f n k (M.map swL) = outF c g n k M := by
  intro M
  induction M with
  | nil => intro k; rfl
  | cons l M ih =>
    intro k
    have e : (swL l).shut = l.shut := rfl
    simp only [List.map_cons, outF, lineO_sw, h, ih, e]
/-- Vertical tabs are as good as horizontal ones where nothing is discarded and nothing is escaped. -/
theorem format_soft (h8 : c.flag 8 = false) (s : List UInt8) (hs : ∀ b ∈ s, b ≠ 255 ∧ b ≠ 60 ∧ b ≠ 38) : formatO c (s.map (sw 11 9)) = formatO c s := by
  unfold formatO specOut
  rw [cellsGo_sw s _ _ hs rfl]
  have h1 := linesGo_sw (cellsGo c ⟨[], 0, 0⟩ [] s) []
  rw [List.map_nil] at h1
  rw [h1, endViews_sw, List.length_map]
  exact outF_sw (fun i => funext fun j => Wd_sw h8 _ i j) _ 0
end
end Go.Proofs.YtaagcdlghoiolaaDoor

namespace Go.Proofs.YtaagcdlghoiolaaDoor
open Go.RowKit Go.Tw Go.Sort

/-- No escapes, tags and entities. -/
def Tm (s : List UInt8) : Prop := ∀ b ∈ s, b ≠ 255 ∧ b ≠ 60 ∧ b ≠ 38
/-- The cells of such a text, behind plain text pl. -/
def cellsT (pl : List UInt8) : List UInt8 → List SC
  | [] => [⟨pl, rc pl, 0⟩]
  | b :: t => if brk b = true then ⟨pl, rc pl, b⟩ :: cellsT [] t else cellsT (pl ++ [b]) t
theorem cellsGo_plain {c : Cfg} : ∀ (s pl : List UInt8), (∀ b ∈ s, endOf c b = 0) → cellsGo c ⟨[], 0, 0⟩ pl s = cellsT pl s := by
  intro s
  induction s with
  | nil => intro pl _; rw [cellsGo, cellsT]; simp
  | cons b t ih =>
    intro pl h
    have e1 : endOf c b = 0 := h b (by simp)
    have ht : ∀ b ∈ t, endOf c b = 0 := fun z hz => h z (List.mem_cons_of_mem _ hz)
    rw [cellsGo, cellsT, if_neg (by rw [e1]; simp)]
    split
    · rw [ih _ ht]; simp
    · rw [ih _ ht]
theorem cellsGo_tame {c : Cfg} (s pl : List UInt8) (h : Tm s) : cellsGo c ⟨[], 0, 0⟩ pl s = cellsT pl s :=
  cellsGo_plain s pl fun b hb => endOf_tame (h b hb).1 (h b hb).2.1 (h b hb).2.2
theorem cellsT_mem : ∀ (s pl : List UInt8), (∀ b ∈ pl, brk b = false) → ∀ z ∈ cellsT pl s, z.width = rc z.text ∧ (z.fin = 0 ∨ (z.fin ∈ s ∧ brk z.fin = true)) ∧ ∀ b ∈ z.text, (b ∈ pl ∨ b ∈ s) ∧ brk b = false := by
  intro s
  induction s with
  | nil =>
    intro pl h z hz
    simp only [cellsT, List.mem_singleton] at hz
    subst hz
    exact ⟨rfl, .inl rfl, fun b hb => ⟨.inl hb, h b hb⟩⟩
  | cons b t ih =>
    intro pl h z hz
    rw [cellsT] at hz
    split at hz
    · rename_i hb
      rcases List.mem_cons.1 hz with rfl | hz
      · exact ⟨rfl, .inr ⟨by simp, hb⟩, fun x hx => ⟨.inl hx, h x hx⟩⟩
      · obtain ⟨h1, h2, h3⟩ := ih [] (by simp) z hz
        refine ⟨h1, ?_, fun x hx => ?_⟩
        · rcases h2 with h2 | h2
          · exact .inl h2
          · exact .inr ⟨List.mem_cons_of_mem _ h2.1, h2.2⟩
        · obtain ⟨h4, h5⟩ := h3 x hx
          refine ⟨.inr ?_, h5⟩
          rcases h4 with h4 | h4
          · simp at h4
          · exact List.mem_cons_of_mem _ h4
    · rename_i hb
      have hb' : brk b = false := by simpa using hb
      obtain ⟨h1, h2, h3⟩ := ih (pl ++ [b]) (by
        intro x hx
        rcases List.mem_append.1 hx with hx | hx
        · exact h x hx
        · simp at hx; subst hx; exact hb') z hz
      refine ⟨h1, ?_, fun x hx => ?_⟩
      · rcases h2 with h2 | h2
        · exact .inl h2
        · exact .inr ⟨List.mem_cons_of_mem _ h2.1, h2.2⟩
      · obtain ⟨h4, h5⟩ := h3 x hx
        refine ⟨?_, h5⟩
        rcases h4 with h4 | h4
        · rcases List.mem_append.1 h4 with h4 | h4
          · exact .inl h4
          · simp at h4; subst h4; exact .inr (by simp)
        · exact .inr (List.mem_cons_of_mem _ h4)

/-- A text in lines. -/
def splitG (cur : List UInt8) : List UInt8 → List (List UInt8)
  | [] => [cur]
  | b :: t => if b = 10 then cur :: splitG [] t else splitG (cur ++ [b]) t
theorem splitG_len (cur s : List UInt8) : (splitG cur s).length = (s.filter (· == 10)).length + 1 := by
  induction s generalizing cur with
  | nil => rfl
  | cons b t ih =>
    rw [splitG]
    split
    · rename_i h; subst h; simp [ih]
    · rename_i h; simp [ih, h]
theorem splitG_no (a : List UInt8) : ∀ (cur r : List UInt8), (∀ b ∈ a, b ≠ 10) → splitG cur (a ++ 10 :: r) = (cur ++ a) :: splitG [] r := by
  induction a with
  | nil => intro cur r _; simp [splitG]
  | cons b a ih =>
    intro cur r h
    have h0 : b ≠ 10 := h b (by simp)
    rw [List.cons_append, splitG, if_neg h0, ih _ _ (fun x hx => h x (List.mem_cons_of_mem _ hx))]
    simp
theorem splitG_end (a : List UInt8) : ∀ (cur : List UInt8), (∀ b ∈ a, b ≠ 10) → splitG cur a = [cur ++ a] := by
  induction a with
  | nil => intro cur _; simp [splitG]
  | cons b a ih =>
    intro cur h
    have h0 : b ≠ 10 := h b (by simp)
    rw [splitG, if_neg h0, ih _ (fun x hx => h x (List.mem_cons_of_mem _ hx))]
    simp

/-- The lines as they are written. -/
def linesO (c : Cfg) (f : Nat → Nat → Nat) : Nat → List Ln → List (List UInt8)
  | _, [] => []
  | k, l :: M => lineO c (f k) l :: linesO c f (k + 1) M
section
variable {c d : Cfg}
theorem linesO_len (f : Nat → Nat → Nat) : ∀ (M : List Ln) (k : Nat), (linesO c f k M).length = M.length := by
  intro M
  induction M with
  | nil => intro k; rfl
  | cons l M ih => intro k; simp [linesO, ih]
theorem linesO_get (f : Nat → Nat → Nat) : ∀ (M : List Ln) (k i : Nat), (linesO c f k M)[i]? = (M[i]?).map (lineO c (f (k + i))) := by
  intro M
  induction M with
  | nil => intro k i; rfl
  | cons l M ih =>
    intro k i
    cases i with
    | zero => rfl
    | succ i => rw [linesO, List.getElem?_cons_succ, ih, List.getElem?_cons_succ, show k + 1 + i = k + (i + 1) by omega]
theorem split_outF (f : Nat → Nat → Nat) (n : Nat) : ∀ (M : List Ln) (k : Nat), k + M.length = n → M ≠ [] → (c.flag 32 = true → ∀ l ∈ M, l.shut = false) → (∀ l ∈ M, ∀ g, ∀ b ∈ lineO c g l, b ≠ 10) → splitG [] (outF c f n k M) = linesO c f k M := by
  intro M
  induction M with
  | nil => intro k _ h; exact absurd rfl h
  | cons l M ih =>
    intro k hk _ hs hl
    have hs0 : ¬ (l.shut = true ∧ c.flag 32 = true) := fun h => by have := hs h.2 l (by simp); rw [h.1] at this; cases this
    have hl0 := hl l (by simp) (f k)
    simp only [List.length_cons] at hk
    rw [outF, if_neg hs0, linesO, List.nil_append]
    cases M with
    | nil =>
      rw [if_pos (by simpa using hk)]
      simp only [outF, linesO, List.append_nil]
      rw [splitG_end _ _ hl0, List.nil_append]
    | cons m M =>
      rw [if_neg (by simp only [List.length_cons] at hk; omega), List.singleton_append, splitG_no _ _ _ hl0, List.nil_append]
      rw [ih (k + 1) (by omega) (by simp) (fun h x hx => hs h x (List.mem_cons_of_mem _ hx)) (fun x hx => hl x (List.mem_cons_of_mem _ hx))]

theorem mem_padB {a b : Nat} {u : Bool} {x : UInt8} (h : x ∈ padB c a b u) : x = c.ch ∨ (x = 9 ∧ u = true) := by
  unfold padB at h
  split at h
  · rename_i h9
    split at h
    · simp at h
    · have := (List.mem_replicate.1 h).2
      rcases h9 with h9 | h9
      · exact .inl (by rw [this, h9])
      · exact .inr ⟨this, h9⟩
  · exact .inl (List.mem_replicate.1 h).2
theorem mem_cellsO (f : Nat → Nat) {b : UInt8} : ∀ (l : List SC) (j : Nat) (ut : Bool), b ∈ cellsO c f j ut l → (∃ x ∈ l, b ∈ x.text) ∨ (b = 124 ∧ c.flag 32 = true) ∨ b = c.ch ∨ (b = 9 ∧ ut = true) := by
  intro l
  induction l with
  | nil => intro j ut h; simp [cellsO] at h
  | cons x l ih =>
    intro j ut h
    rw [cellsO] at h
    rcases List.mem_append.1 h with h | h
    · unfold barB at h
      split at h
      · rename_i hb; simp at h; exact .inr (.inl ⟨h, hb.2⟩)
      · simp at h
    · rcases List.mem_append.1 h with h | h
      · have h2 : b ∈ x.text ∨ b ∈ padB c x.width.toNat (f j) (ut && x.text.isEmpty) := by
          unfold putB at h
          split at h
          · exact (List.mem_append.1 h).symm
          · exact List.mem_append.1 h
        rcases h2 with h2 | h2
        · exact .inl ⟨x, by simp, h2⟩
        · rcases mem_padB h2 with h2 | h2
          · exact .inr (.inr (.inl h2))
          · exact .inr (.inr (.inr ⟨h2.1, by simpa using (Bool.and_eq_true _ _ ▸ h2.2 : ut = true ∧ _).1⟩))
      · rcases ih _ _ h with ⟨y, hy, h⟩ | h | h | h
        · exact .inl ⟨y, List.mem_cons_of_mem _ hy, h⟩
        · exact .inr (.inl h)
        · exact .inr (.inr (.inl h))
        · refine .inr (.inr (.inr ⟨h.1, ?_⟩))
          have := h.2
          simp at this
          exact this.1
theorem mem_lineO (f : Nat → Nat) {b : UInt8} {l : Ln} (h : b ∈ lineO c f l) : (∃ x ∈ l.cells, b ∈ x.text) ∨ b ∈ l.last ∨ (b = 124 ∧ c.flag 32 = true) ∨ b = c.ch ∨ (b = 9 ∧ c.flag 16 = true) := by
  unfold lineO at h
  rcases List.mem_append.1 h with h | h
  · rcases mem_cellsO f _ _ _ h with h | h | h | h
    · exact .inl h
    · exact .inr (.inr (.inl h))
    · exact .inr (.inr (.inr (.inl h)))
    · exact .inr (.inr (.inr (.inr h)))
  · rcases List.mem_append.1 h with h | h
    · unfold barB at h
      split at h
      · rename_i hb; simp at h; exact .inr (.inr (.inl ⟨h, hb.2⟩))
      · simp at h
    · exact .inr (.inl h)

/-- The lines of such a text, where it does not end behind a tab. -/
def linesT (s : List UInt8) : List (List SC) := linesGo [] (cellsT [] s)
theorem views_tame {s : List UInt8} (h : Tm s) (ho : opn (cellsGo c ⟨[], 0, 0⟩ [] s) = false) : endViews (linesGo [] (cellsGo c ⟨[], 0, 0⟩ [] s)) = (linesT s).map view := by
  rw [endViews_open, if_neg (by rw [ho]; simp), cellsGo_tame s [] h]
  rfl
theorem linesT_ne (s : List UInt8) (h : Tm s) : linesT s ≠ [] := by
  have := lines_ne (⟨0, 0, 0, 0, 0, 0⟩ : Cfg) s ⟨[], 0, 0⟩ [] [] rfl
  rwa [cellsGo_tame s [] h] at this
theorem linesT_cell {s : List UInt8} {m : List SC} (hm : m ∈ linesT s) {z : SC} (hz : z ∈ m) : z.width = rc z.text ∧ (z.fin = 0 ∨ (z.fin ∈ s ∧ brk z.fin = true)) ∧ ∀ b ∈ z.text, b ∈ s ∧ brk b = false := by
  rcases linesGo_sub _ _ m hm z hz with h | h
  · simp at h
  · obtain ⟨h1, h2, h3⟩ := cellsT_mem s [] (by simp) z h
    exact ⟨h1, h2, fun b hb => ⟨by rcases (h3 b hb).1 with h | h; simp at h; exact h, (h3 b hb).2⟩⟩
theorem view_text {s : List UInt8} {l : Ln} (hl : l ∈ (linesT s).map view) : (∀ x ∈ l.cells, x.width = rc x.text ∧ ∀ b ∈ x.text, b ∈ s ∧ brk b = false) ∧ ∀ b ∈ l.last, b ∈ s ∧ brk b = false := by
  obtain ⟨m, hm, rfl⟩ := List.mem_map.1 hl
  refine ⟨fun x hx => ?_, fun b hb => ?_⟩
  · have := linesT_cell hm (view_cells_mem m x hx)
    exact ⟨this.1, this.2.2⟩
  · unfold view at hb
    simp only at hb
    cases hg : m.getLast? with
    | none => rw [hg] at hb; simp at hb
    | some y =>
      rw [hg] at hb
      exact (linesT_cell hm (List.mem_of_getLast? hg)).2.2 b (by simpa using hb)
/-- No line ends by a formfeed. -/
def noShut (s : List UInt8) : Prop := ∀ z ∈ cellsT [] s, z.fin ≠ 12
theorem view_shut {s : List UInt8} (h : noShut s) {l : Ln} (hl : l ∈ (linesT s).map view) : l.shut = false := by
  obtain ⟨m, hm, rfl⟩ := List.mem_map.1 hl
  unfold view
  simp only
  cases hg : m.getLast? with
  | none => rfl
  | some y =>
    have hy : y ∈ cellsT [] s := by
      rcases linesGo_sub _ _ m hm y (List.mem_of_getLast? hg) with h | h
      · simp at h
      · exact h
    have := h y hy
    simpa using this
theorem lineO_no {s : List UInt8} (k : UInt8) (hk : c.ch ≠ k) (h9 : k ≠ 9) (h124 : c.flag 32 = true → k ≠ 124) (hs : k ∉ s ∨ brk k = true) : ∀ l ∈ (linesT s).map view, ∀ g, ∀ b ∈ lineO c g l, b ≠ k := by
  rintro l hl g b hb rfl
  obtain ⟨h1, h2⟩ := view_text hl
  have key : b ∈ s ∧ brk b = false → False := fun h => by
    rcases hs with hs | hs
    · exact hs h.1
    · rw [h.2] at hs; cases hs
  rcases mem_lineO g hb with ⟨x, hx, h⟩ | h | h | h | h
  · exact key ((h1 x hx).2 b h)
  · exact key (h2 b h)
  · exact h124 h.2 h.1
  · exact hk h.symm
  · exact h9 h.1
/-- What is written of such a text, in lines. -/
theorem split_format {s : List UInt8} (h : Tm s) (ho : opn (cellsGo c ⟨[], 0, 0⟩ [] s) = false) (hch : c.ch ≠ 10) (hs : c.flag 32 = true → noShut s) :
    splitG [] (formatO c s) = linesO c (Wd c ((linesT s).map view)) 0 ((linesT s).map view) := by
  unfold formatO specOut
  rw [views_tame h ho]
  exact split_outF _ _ _ _ (by simp) (by simpa using linesT_ne s h) (fun h l hl => view_shut (hs h) hl) (lineO_no 10 hch (by decide) (fun _ => by decide) (.inr rfl))
end
end Go.Proofs.YtaagcdlghoiolaaDoor

namespace Go.Proofs.YtaagcdlghoiolaaDoor
open Go.RowKit Go.Tw Go.Sort

section
variable {c d : Cfg}
theorem padB_none (p : UInt8 → Bool) (h : p c.ch = false) (h16 : c.flag 16 = false) (a b : Nat) (u : Bool) (hu : u = true → c.flag 16 = true) : (padB c a b u).filter p = [] := by
  rw [List.filter_eq_nil_iff]
  intro x hx
  rcases mem_padB hx with rfl | ⟨_, h1⟩
  · rw [h]; simp
  · have := hu h1; rw [h16] at this; cases this
theorem lineO_texts (p : UInt8 → Bool) (h : p c.ch = false) (h16 : c.flag 16 = false) (h32 : c.flag 32 = false) (f : Nat → Nat) (l : Ln) : (lineO c f l).filter p = (texts l.cells ++ l.last).filter p :=
  lineO_filter p (fun a b u _ h' => padB_none p h h16 a b u (fun _ => h')) (fun a b => padB_none p h h16 a b false (fun h => by cases h)) h32 f l

theorem bare_many : ∀ (s pl : List UInt8), pl.filter (· == 10) = [] → ((bareO (cellsT pl s)).filter (· == 10)).length = (s.filter (· == 10)).length + (s.filter (· == 12)).length := by
  intro s
  induction s with
  | nil => intro pl h; simp [cellsT, bareO, bareC, h]
  | cons b t ih =>
    intro pl h
    rw [cellsT]
    split
    · rename_i hb
      have e : bareO (⟨pl, rc pl, b⟩ :: cellsT [] t) = bareC ⟨pl, rc pl, b⟩ ++ bareO (cellsT [] t) := by simp [bareO]
      rw [e, List.filter_append, List.length_append, ih [] rfl]
      rcases brk_cases hb with rfl | rfl | rfl | rfl <;> simp [bareC, h] <;> omega
    · rename_i hb
      have hn := not_brk hb
      have hb10 : (b == 10) = false := by simpa using hn.2.2.1
      have hb12 : (b == 12) = false := by simpa using hn.2.2.2
      rw [ih _ (by rw [List.filter_append, h]; simp [hn.2.2.1])]
      simp [hb10, hb12]
/-- There are as many newlines as line breaks. -/
theorem format_many (hch : c.ch ≠ 10) (h16 : c.flag 16 = false) (h32 : c.flag 32 = false) {s : List UInt8} (h : Tm s) : ((formatO c s).filter (· == 10)).length = (s.filter (· == 10)).length + (s.filter (· == 12)).length := by
  have h1 := format_rel (fun a b => (a.filter (· == 10)).length = (b.filter (· == 10)).length) (fun _ => rfl) (fun _ _ _ _ h1 h2 => by simp only [List.filter_append, List.length_append, h1, h2])
    (fun f l => by rw [lineO_texts (c := c) (· == 10) (by simpa using hch) h16 h32 f l]) h32 s
  rw [h1, cellsGo_tame s [] h]
  exact bare_many s [] rfl

theorem flat_out (h32 : c.flag 32 = false) (f : Nat → Nat → Nat) : ∀ (s pl : List UInt8) (k n : Nat), (∀ b ∈ s, b ≠ 9 ∧ b ≠ 11) → k + (cellsT pl s).length = n → outF c f n k ((cellsT pl s).map fun x => ⟨[], x.text, x.fin == 12⟩) = pl ++ s.map (sw 12 10) := by
  have hL : ∀ g (t : List UInt8) (u : Bool), lineO c g ⟨[], t, u⟩ = t := fun g t u => by simp [lineO, cellsO, barB]
  have hne : ∀ (s pl : List UInt8), 0 < (cellsT pl s).length := by
    intro s
    induction s with
    | nil => intro pl; simp [cellsT]
    | cons b t ih => intro pl; rw [cellsT]; split; simp; exact ih _
  intro s
  induction s with
  | nil =>
    intro pl k n _ hk
    have hk' : k + 1 = n := by simpa [cellsT] using hk
    simp [cellsT, outF, hL, hk']
  | cons b t ih =>
    intro pl k n hs hk
    have ht : ∀ b ∈ t, b ≠ 9 ∧ b ≠ 11 := fun z hz => hs z (List.mem_cons_of_mem _ hz)
    rw [cellsT] at hk ⊢
    by_cases hb : brk b = true
    · rw [if_pos hb] at hk ⊢
      simp only [List.length_cons] at hk
      have h0 := hne t []
      rw [List.map_cons, outF, hL, if_neg (by omega), if_neg (by rw [h32]; simp), ih [] (k + 1) n ht (by omega)]
      have hsw : sw 12 10 b = 10 := by
        rcases brk_cases hb with rfl | rfl | rfl | rfl
        · exact absurd rfl (hs 9 (by simp)).1
        · exact absurd rfl (hs 11 (by simp)).2
        · rfl
        · rfl
      simp [hsw]
    · rw [if_neg hb] at hk ⊢
      rw [ih _ k n ht hk]
      have hsw : sw 12 10 b = b := by unfold sw; rw [if_neg (not_brk hb).2.2.2]
      simp [hsw]
theorem lines_flat : ∀ l : List SC, (∀ x ∈ l, x.tabbed = false) → linesGo [] l = l.map fun x => [x] := by
  intro l
  induction l with
  | nil => intro _; rfl
  | cons x l ih =>
    intro h
    simp only [linesGo, List.map_cons]
    rw [if_neg (by rw [h x (by simp)]; simp), ih (fun z hz => h z (List.mem_cons_of_mem _ hz))]
    rfl
theorem endViews_flat : ∀ l : List SC, endViews (l.map fun x => [x]) = l.map fun x => ⟨[], x.text, x.fin == 12⟩ := by
  intro l
  induction l with
  | nil => rfl
  | cons x l ih =>
    cases l with
    | nil => simp [endViews, viewEnd, view]
    | cons y l =>
      rw [List.map_cons, endViews_cons _ (by simp), ih]
      simp [view]
/-- A text without tabs, escapes, tags and entities stays, formfeeds becoming newlines. -/
theorem format_flat (h32 : c.flag 32 = false) {s : List UInt8} (h : Tm s) (hs : ∀ b ∈ s, b ≠ 9 ∧ b ≠ 11) : formatO c s = s.map (sw 12 10) := by
  unfold formatO specOut
  rw [cellsGo_tame s [] h, lines_flat, endViews_flat]
  · have := flat_out h32 (Wd c ((cellsT [] s).map fun x => ⟨[], x.text, x.fin == 12⟩)) s [] 0 ((cellsT [] s).map fun x => (⟨[], x.text, x.fin == 12⟩ : Ln)).length hs (by simp)
    simpa using this
  · intro x hx
    have h1 := (cellsT_mem s [] (by simp) x hx).2.1
    unfold SC.tabbed
    rcases h1 with h1 | h1
    · rw [h1]; rfl
    · have h2 := hs _ h1.1
      simp [h2.1, h2.2]

theorem putB_len (t pad : List UInt8) : (putB c t pad).length = t.length + pad.length := by
  unfold putB; split <;> simp <;> omega
theorem padB_plain (h9 : c.ch ≠ 9) (a b : Nat) : padB c a b false = List.replicate (b - a) c.ch := by
  unfold padB; rw [if_neg (by simp [h9])]
theorem cellsO_longer (h9 : c.ch ≠ 9) (hch : d.ch = c.ch) (h32 : c.flag 32 = d.flag 32) {f g : Nat → Nat} (hfg : ∀ j, f j ≤ g j) : ∀ (l : List SC) (j : Nat), (cellsO c f j false l).length ≤ (cellsO d g j false l).length := by
  intro l
  induction l with
  | nil => intro j; simp [cellsO]
  | cons x l ih =>
    intro j
    have hb : barB c j = barB d j := barB_alike h32 j
    have h1 := hfg j
    have h2 := ih (j + 1)
    simp only [cellsO, Bool.false_and, List.length_append, putB_len, hb, padB_plain h9, padB_plain (c := d) (by rw [hch]; exact h9), List.length_replicate]
    omega
theorem lineO_longer (h9 : c.ch ≠ 9) (hch : d.ch = c.ch) (h16 : c.flag 16 = false) (h16' : d.flag 16 = false) (h32 : c.flag 32 = d.flag 32) {f g : Nat → Nat} (hfg : ∀ j, f j ≤ g j) (l : Ln) : (lineO c f l).length ≤ (lineO d g l).length := by
  have h1 := cellsO_longer h9 hch h32 hfg l.cells 0
  unfold lineO
  rw [h16, h16', barB_alike h32]
  simp only [List.length_append]
  omega
theorem cMm_le (hm : c.mn ≤ d.mn) (hp : c.pd ≤ d.pd) (j : Nat) : ∀ (b : List (List SC)), cM c j b ≤ cM d j b := by
  have : ∀ (b : List (List SC)) (m n : Nat), m ≤ n → b.foldl (fun m l => max m ((l.getD j default).width.toNat + c.pd)) m ≤ b.foldl (fun m l => max m ((l.getD j default).width.toNat + d.pd)) n := by
    intro b
    induction b with
    | nil => intro m n h; exact h
    | cons l b ih => intro m n h; simp only [List.foldl_cons]; exact ih _ _ (by omega)
  exact fun b => this b _ _ hm
theorem Wd_le (hm : c.mn ≤ d.mn) (hp : c.pd ≤ d.pd) (h8 : c.flag 8 = d.flag 8) (M : List Ln) (i j : Nat) : Wd c M i j ≤ Wd d M i j := by
  unfold Wd cW
  rw [h8]
  split
  · exact Nat.le_refl _
  · exact cMm_le hm hp j _
/-- With a greater width or more padding no line is shorter. -/
theorem lines_longer (hm : c.mn ≤ d.mn) (hp : c.pd ≤ d.pd) (h9 : c.ch ≠ 9) (hch : d.ch = c.ch) (h8 : c.flag 8 = d.flag 8) (h16 : c.flag 16 = false) (h16' : d.flag 16 = false) (h32 : c.flag 32 = d.flag 32) (M : List Ln) {i : Nat} {x y : List UInt8}
    (hx : (linesO c (Wd c M) 0 M)[i]? = some x) (hy : (linesO d (Wd d M) 0 M)[i]? = some y) : x.length ≤ y.length := by
  rw [linesO_get, Nat.zero_add] at hx hy
  cases hl : M[i]? with
  | none => rw [hl] at hx; simp at hx
  | some l =>
    rw [hl] at hx hy
    simp only [Option.map_some, Option.some.injEq] at hx hy
    subst hx hy
    exact lineO_longer h9 hch h16 h16' h32 (fun j => Wd_le hm hp h8 M i j) l

theorem cellsO_same (h9 : c.ch ≠ 9) (h : Alike c d) (h32 : c.flag 32 = d.flag 32) (f : Nat → Nat) : ∀ (l : List SC) (j : Nat), (cellsO c f j false l).length = (cellsO d f j false l).length := fun l j =>
  Nat.le_antisymm (cellsO_longer h9 h.ch.symm h32 (fun _ => Nat.le_refl _) l j) (cellsO_longer (by rw [← h.ch]; exact h9) h.ch h32.symm (fun _ => Nat.le_refl _) l j)
/-- Aligned to the right each line is as long as to the left, with the same text. -/
theorem lines_right (h : Alike c d) (h9 : c.ch ≠ 9) (h8 : c.flag 8 = d.flag 8) (h16 : c.flag 16 = false) (h16' : d.flag 16 = false) (h32 : c.flag 32 = false) (h32' : d.flag 32 = false) (M : List Ln) {i : Nat} {x y : List UInt8}
    (hx : (linesO c (Wd c M) 0 M)[i]? = some x) (hy : (linesO d (Wd d M) 0 M)[i]? = some y) : x.length = y.length ∧ x.filter (· != c.ch) = y.filter (· != c.ch) := by
  rw [linesO_get, Nat.zero_add] at hx hy
  cases hl : M[i]? with
  | none => rw [hl] at hx; simp at hx
  | some l =>
    rw [hl] at hx hy
    simp only [Option.map_some, Option.some.injEq] at hx hy
    subst hx hy
    rw [Wd_fun h h8]
    refine ⟨?_, ?_⟩
    · unfold lineO
      rw [h16, h16', barB_alike (h32.trans h32'.symm)]
      simp only [List.length_append]
      rw [cellsO_same h9 h (h32.trans h32'.symm)]
    · rw [lineO_texts _ (by simp) h16 h32, lineO_texts _ (by rw [h.ch]; simp) h16' h32']
end
end Go.Proofs.YtaagcdlghoiolaaDoor

namespace Go.Proofs.YtaagcdlghoiolaaDoor
open Go.RowKit Go.Tw Go.Sort

section
variable {c d : Cfg}
/-- Where a text is cut behind a line break: the lines ahead, the line that it ends, the lines behind. -/
theorem lines_cut : ∀ (a pl : List UInt8) (cur : List SC), ∃ (init : List (List SC)) (l0 : List SC) (t : List UInt8) (n : Nat), linesGo cur (cellsT pl a) = init ++ [l0 ++ [⟨t, n, 0⟩]] ∧
    ∀ k : UInt8, (k = 10 ∨ k = 12) → ∀ r, linesGo cur (cellsT pl (a ++ k :: r)) = (init ++ [l0 ++ [⟨t, n, k⟩]]) ++ linesGo [] (cellsT [] r) := by
  intro a
  induction a with
  | nil =>
    intro pl cur
    refine ⟨[], cur, pl, rc pl, rfl, fun k hk r => ?_⟩
    have hb : brk k = true := by rcases hk with rfl | rfl <;> rfl
    have ht : ¬ (⟨pl, (rc pl : Nat), k⟩ : SC).tabbed = true := by rcases hk with rfl | rfl <;> simp [SC.tabbed]
    rw [List.nil_append, cellsT, if_pos hb]
    simp only [linesGo, List.nil_append, List.singleton_append]
    rw [if_neg ht]
  | cons b a ih =>
    intro pl cur
    by_cases hb : brk b = true
    · by_cases ht : (⟨pl, (rc pl : Nat), b⟩ : SC).tabbed = true
      · obtain ⟨init, l0, t, n, h1, h2⟩ := ih [] (cur ++ [⟨pl, rc pl, b⟩])
        refine ⟨init, l0, t, n, ?_, fun k hk r => ?_⟩
        · rw [cellsT, if_pos hb]
          simp only [linesGo]
          rw [if_pos ht]; exact h1
        · rw [List.cons_append, cellsT, if_pos hb]
          simp only [linesGo]
          rw [if_pos ht]; exact h2 k hk r
      · obtain ⟨init, l0, t, n, h1, h2⟩ := ih [] []
        refine ⟨(cur ++ [⟨pl, rc pl, b⟩]) :: init, l0, t, n, ?_, fun k hk r => ?_⟩
        · rw [cellsT, if_pos hb]
          simp only [linesGo]
          rw [if_neg ht, h1]; rfl
        · rw [List.cons_append, cellsT, if_pos hb]
          simp only [linesGo]
          rw [if_neg ht, h2 k hk r]; rfl
    · obtain ⟨init, l0, t, n, h1, h2⟩ := ih (pl ++ [b]) cur
      refine ⟨init, l0, t, n, ?_, fun k hk r => ?_⟩
      · rw [cellsT, if_neg hb]; exact h1
      · rw [List.cons_append, cellsT, if_neg hb]; exact h2 k hk r
theorem endViews_append (X : List (List SC)) {Y : List (List SC)} (h : Y ≠ []) : endViews (X ++ Y) = X.map view ++ endViews Y := by
  induction X with
  | nil => rfl
  | cons x X ih => rw [List.cons_append, endViews_cons _ (by simp [h]), ih]; rfl
theorem view_mk (l0 : List SC) (t : List UInt8) (n : Int) (k : UInt8) : view (l0 ++ [⟨t, n, k⟩]) = ⟨l0, t, k == 12⟩ := view_snoc _ _
/-- The lines of a text that goes on behind a line break. -/
theorem views_cut (a : List UInt8) : ∃ (A : List Ln) (l0 : List SC) (t : List UInt8), ∀ k : UInt8, (k = 10 ∨ k = 12) → ∀ r, Tm r → endViews (linesGo [] (cellsT [] (a ++ k :: r))) = (A ++ [⟨l0, t, k == 12⟩]) ++ endViews (linesT r) := by
  obtain ⟨init, l0, t, n, _, h2⟩ := lines_cut a [] []
  refine ⟨init.map view, l0, t, fun k hk r hr => ?_⟩
  rw [h2 k hk r, endViews_append (Y := linesGo [] (cellsT [] r)) _ (linesT_ne r hr), List.map_append, List.map_singleton, view_mk]
  rfl
theorem views_nil : endViews (linesT []) = [lineZ] := by simp [linesT, cellsT, linesGo, SC.tabbed, endViews, viewEnd, view, lineZ]
theorem format_views {s : List UInt8} (h : Tm s) : formatO c s = specOut c (endViews (linesGo [] (cellsT [] s))) := by
  unfold formatO
  rw [cellsGo_tame s [] h]
theorem Tm.append {a b : List UInt8} (ha : Tm a) (hb : Tm b) : Tm (a ++ b) := fun x hx => by
  rcases List.mem_append.1 hx with h | h
  · exact ha x h
  · exact hb x h
theorem Tm.left {a b : List UInt8} (h : Tm (a ++ b)) : Tm a := fun x hx => h x (List.mem_append_left _ hx)
theorem Tm.cons {a : List UInt8} (k : UInt8) (hk : k ≠ 255 ∧ k ≠ 60 ∧ k ≠ 38) (h : Tm a) : Tm (k :: a) := fun x hx => by
  rcases List.mem_cons.1 hx with rfl | h'
  · exact hk
  · exact h x h'
theorem Tm.nil : Tm [] := fun x hx => by simp at hx
/-- A formfeed ends all columns, like a flush. -/
theorem format_feeds (h32 : c.flag 32 = false) {a b : List UInt8} (ha : Tm a) (hb : Tm b) : formatO c (a ++ 12 :: b) = formatO c (a ++ [10]) ++ formatO c b := by
  obtain ⟨A, l0, t, h⟩ := views_cut a
  rw [format_views (ha.append (hb.cons 12 (by decide))), format_views (ha.append (Tm.nil.cons 10 (by decide))), format_views hb, h 12 (.inr rfl) b hb, h 10 (.inl rfl) [] Tm.nil, views_nil]
  rw [spec_split (.inl rfl) (endViews_ne (linesT_ne b hb)), if_neg (by rw [h32]; simp), List.append_nil]
  rfl
theorem spec_line (h32 : c.flag 32 = false) (A : List Ln) (e : Ln) (he : e.cells = []) : specOut c ((A ++ [e]) ++ [lineZ]) = specOut c (A ++ [lineZ]) ++ (e.last ++ [10]) := by
  have hZ : ∀ (f : Nat → Nat → Nat) (n : Nat) (X : List Ln), X.length + 1 = n → outF c f n 0 (X ++ [lineZ]) = outF c f n 0 X := by
    intro f n X hn
    rw [outF_snoc, lineO_Z, if_pos hn, if_neg (by simp [lineZ])]
    simp
  have hE : ∀ g : Nat → Nat, lineO c g e = e.last := by
    intro g
    unfold lineO barB
    rw [he]
    simp [cellsO]
  unfold specOut
  rw [hZ _ _ _ (by simp), hZ _ _ _ (by simp), outF_snoc, hE, if_neg (by simp), if_neg (by rw [h32]; simp), List.append_nil]
  congr 1
  rw [outF_n (n' := (A ++ [lineZ]).length) A 0 (by simp) (by simp)]
  refine outF_congr A 0 fun i x hx j hj => ?_
  have hi := (List.getElem?_eq_some_iff.1 hx).1
  unfold Wd
  rw [Nat.zero_add, List.append_assoc, blockL_in (r := [e] ++ [lineZ]) (by intro l hl; simp at hl; subst hl; simp [Ln.has, he]) (by omega), blockL_in (r := [lineZ]) (by intro l hl; simp at hl; subst hl; simp [Ln.has, lineZ]) (by omega)]
/-- Lines apart from each other by a line without tabs are aligned apart. -/
theorem format_blocks (h32 : c.flag 32 = false) {a b : List UInt8} (ha : Tm a) (hb : Tm b) : formatO c ((a ++ [10]) ++ ([120, 10] ++ b)) = (formatO c (a ++ [10]) ++ [120, 10]) ++ formatO c b := by
  obtain ⟨A, l0, t, h⟩ := views_cut a
  have hb2 : Tm ([120] ++ 10 :: b) := (hb.cons 10 (by decide)).cons 120 (by decide)
  have e1 : (a ++ [10]) ++ ([120, 10] ++ b) = a ++ 10 :: ([120] ++ 10 :: b) := by simp
  have ex : endViews (linesT ([120] ++ 10 :: b)) = [⟨[], [120], false⟩] ++ endViews (linesT b) := by
    have hn : brk 120 = false := rfl
    have hk : brk 10 = true := rfl
    have : linesT ([120] ++ 10 :: b) = [⟨[120], rc [120], 10⟩] :: linesT b := by
      unfold linesT
      rw [List.singleton_append, cellsT, if_neg (by rw [hn]; simp), cellsT, if_pos hk]
      simp only [linesGo, List.nil_append]
      rw [if_neg (by simp [SC.tabbed])]
    rw [this, endViews_cons _ (linesT_ne b hb)]
    rfl
  rw [e1, format_views (ha.append (hb2.cons 10 (by decide))), format_views (ha.append (Tm.nil.cons 10 (by decide))), format_views hb, h 10 (.inl rfl) _ hb2, h 10 (.inl rfl) [] Tm.nil, views_nil, ex]
  rw [← List.append_assoc, spec_split (.inr rfl) (endViews_ne (linesT_ne b hb)), if_neg (by simp), List.append_nil, spec_line h32 _ _ rfl]
  rfl

/-- What is aligned stays when it is aligned again. -/
theorem format_stays (h16 : c.flag 16 = false) (h32 : c.flag 32 = false) {s : List UInt8} (h : Tm s) (ho : opn (cellsGo c ⟨[], 0, 0⟩ [] s) = false)
    (hch : c.ch ≠ 9 ∧ c.ch ≠ 10 ∧ c.ch ≠ 11 ∧ c.ch ≠ 12 ∧ c.ch ≠ 255 ∧ c.ch ≠ 60 ∧ c.ch ≠ 38) : Tm (formatO c s) ∧ (∀ b ∈ formatO c s, b ≠ 9 ∧ b ≠ 11 ∧ b ≠ 12) := by
  have hf : formatO c s = outF c (Wd c ((linesT s).map view)) ((linesT s).map view).length 0 ((linesT s).map view) := by unfold formatO specOut; rw [views_tame h ho]
  have key : ∀ (M : List Ln) (f : Nat → Nat → Nat) (n k : Nat) (p : UInt8), p ≠ 10 → (∀ l ∈ M, ∀ g, ∀ b ∈ lineO c g l, b ≠ p) → ∀ b ∈ outF c f n k M, b ≠ p := by
    intro M
    induction M with
    | nil => intro f n k p _ _ b hb; simp [outF] at hb
    | cons l M ih =>
      intro f n k p hp hl b hb
      have hs0 : ¬ (l.shut = true ∧ c.flag 32 = true) := fun h => by rw [h32] at h; exact absurd h.2 (by simp)
      rw [outF, if_neg hs0, List.nil_append] at hb
      rcases List.mem_append.1 hb with hb | hb
      · exact hl l (by simp) _ b hb
      · rcases List.mem_append.1 hb with hb | hb
        · split at hb
          · simp at hb
          · simp at hb; subst hb; exact hp.symm
        · exact ih f n (k + 1) p hp (fun x hx => hl x (List.mem_cons_of_mem _ hx)) b hb
  have no : ∀ p : UInt8, p ≠ 10 → c.ch ≠ p → (p ∉ s ∨ brk p = true) → ∀ b ∈ formatO c s, b ≠ p := by
    intro p hp hc hsp b hb
    rw [hf] at hb
    refine key _ _ _ _ p hp ?_ b hb
    intro l hl g x hx hxp
    subst hxp
    obtain ⟨h1, h2⟩ := view_text hl
    have kk : x ∈ s ∧ brk x = false → False := fun h => by
      rcases hsp with hs | hs
      · exact hs h.1
      · rw [h.2] at hs; cases hs
    rcases mem_lineO g hx with ⟨y, hy, h⟩ | h | h | h | h
    · exact kk ((h1 y hy).2 x h)
    · exact kk (h2 x h)
    · rw [h32] at h; exact absurd h.2 (by simp)
    · exact hc h.symm
    · rw [h16] at h; exact absurd h.2 (by simp)
  obtain ⟨c9, c10, c11, c12, c255, c60, c38⟩ := hch
  refine ⟨fun b hb => ⟨no 255 (by decide) c255 (.inl fun h' => (h 255 h').1 rfl) b hb, no 60 (by decide) c60 (.inl fun h' => (h 60 h').2.1 rfl) b hb, no 38 (by decide) c38 (.inl fun h' => (h 38 h').2.2 rfl) b hb⟩,
    fun b hb => ⟨no 9 (by decide) c9 (.inr rfl) b hb, no 11 (by decide) c11 (.inr rfl) b hb, no 12 (by decide) c12 (.inr rfl) b hb⟩⟩
theorem map_same {l : List UInt8} (h : ∀ b ∈ l, b ≠ 12) : l.map (sw 12 10) = l := by
  induction l with
  | nil => rfl
  | cons b l ih =>
    have h0 : sw 12 10 b = b := by unfold sw; rw [if_neg (h b (by simp))]
    rw [List.map_cons, h0, ih fun x hx => h x (List.mem_cons_of_mem _ hx)]
theorem format_again (h16 : c.flag 16 = false) (h32 : c.flag 32 = false) {s : List UInt8} (h : Tm s) (ho : opn (cellsGo c ⟨[], 0, 0⟩ [] s) = false)
    (hch : c.ch ≠ 9 ∧ c.ch ≠ 10 ∧ c.ch ≠ 11 ∧ c.ch ≠ 12 ∧ c.ch ≠ 255 ∧ c.ch ≠ 60 ∧ c.ch ≠ 38) : formatO c (formatO c s) = formatO c s := by
  obtain ⟨h1, h2⟩ := format_stays h16 h32 h ho hch
  rw [format_flat h32 h1 (fun b hb => ⟨(h2 b hb).1, (h2 b hb).2.1⟩), map_same fun b hb => (h2 b hb).2.2]
end
end Go.Proofs.YtaagcdlghoiolaaDoor

namespace Go.Proofs.YtaagcdlghoiolaaDoor
open Go.RowKit Go.Tw Go.Sort

theorem contB_ascii {x : UInt8} (h : x.toNat < 128) : contB x = false := by
  unfold contB
  simp
  omega
theorem rc_ap (a b : List UInt8) (h : ∀ x, b.head? = some x → x.toNat < 128) : rc (a ++ b) = rc a + rc b := by
  cases b with
  | nil => simp
  | cons x b => exact rc_append (contB_ascii (h x rfl)) a b
theorem rc_ascii (x : UInt8) (hx : x.toNat < 128) (b : List UInt8) : rc (x :: b) = 1 + rc b := rc_cons (.inl hx) b
theorem rc_pad (x : UInt8) (hx : x.toNat < 128) (n : Nat) (b : List UInt8) : rc (List.replicate n x ++ b) = n + rc b := by
  induction n with
  | zero => simp
  | succ n ih => rw [List.replicate_succ, List.cons_append, rc_ascii x hx, ih]; omega
section
variable {c d : Cfg}
/-- A byte that is not in the text, and ends nothing, is not in its cells. -/
theorem cells_bytes (c : Cfg) (p : UInt8) (hp : p ≠ 255 ∧ p ≠ 62 ∧ p ≠ 59) (n : Nat) : ∀ (s : List UInt8), s.length ≤ n → (∀ b ∈ s, b ≠ p) → ∀ (x : SC) (pl : List UInt8), (∀ b ∈ x.text, b ≠ p) → (∀ b ∈ pl, b ≠ p) → ∀ z ∈ cellsGo c x pl s, ∀ b ∈ z.text, b ≠ p := by
  have hnil : ∀ (x : SC) (pl : List UInt8), (∀ b ∈ x.text, b ≠ p) → (∀ b ∈ pl, b ≠ p) → ∀ z ∈ cellsGo c x pl [], ∀ b ∈ z.text, b ≠ p := by
    intro x pl hx hpl z hz b hb
    rw [cellsGo] at hz
    simp only [List.mem_singleton] at hz
    subst hz
    rcases List.mem_append.1 hb with h | h
    · exact hx b h
    · exact hpl b h
  induction n with
  | zero =>
    intro s hs _
    obtain rfl : s = [] := List.length_eq_zero_iff.1 (by omega)
    exact hnil
  | succ n ih =>
    intro s hs hp0
    cases s with
    | nil => exact hnil
    | cons b t =>
      simp only [List.length_cons] at hs
      have hb0 : b ≠ p := hp0 b (by simp)
      have ht : ∀ x ∈ t, x ≠ p := fun x hx => hp0 x (List.mem_cons_of_mem _ hx)
      intro x pl hx hpl z hz
      rw [cellsGo] at hz
      split at hz
      · rename_i he
        have hlen := (List.dropWhile_sublist (fun x => x != endOf c b) (l := t)).length_le
        refine ih _ (by simp only [List.length_drop]; omega) (fun y hy => ht y ((List.dropWhile_sublist _).subset (List.mem_of_mem_drop hy))) _ _ ?_ (by simp) z hz
        intro y hy
        have hin : ∀ y ∈ t.takeWhile (· != endOf c b), y ≠ p := fun y hy => ht y ((List.takeWhile_sublist _).subset hy)
        have hend : endOf c b ≠ p := by
          unfold endOf at he ⊢
          split
          · exact hp.1.symm
          · split
            · exact hp.2.1.symm
            · split
              · exact hp.2.2.symm
              · rename_i h1 h2 h3; rw [if_neg h1, if_neg h2, if_neg h3] at he; exact absurd rfl he
        rcases List.mem_append.1 hy with h | h
        · rcases List.mem_append.1 h with h | h
          · exact hx y h
          · exact hpl y h
        · unfold passT at h
          split at h
          · exact hin y h
          · rcases List.mem_cons.1 h with rfl | h
            · exact hb0
            · rcases List.mem_append.1 h with h | h
              · exact hin y h
              · split at h
                · simp at h; subst h; exact hend
                · simp at h
      · split at hz
        · rcases List.mem_cons.1 hz with rfl | hz
          · intro y hy
            rcases List.mem_append.1 hy with h | h
            · exact hx y h
            · exact hpl y h
          · exact ih t (by omega) ht ⟨[], 0, 0⟩ [] (by simp) (by simp) z hz
        · refine ih t (by omega) ht x (pl ++ [b]) hx (fun y hy => ?_) z hz
          rcases List.mem_append.1 hy with h | h
          · exact hpl y h
          · simp at h; subst h; exact hb0
theorem view_parts (m : List SC) : ((view m).last = [] ∨ ∃ z ∈ m, (view m).last = z.text) ∧ ((view m).shut = true → ∃ z ∈ m, z.fin = 12) := by
  unfold view
  simp only
  cases hg : m.getLast? with
  | none => exact ⟨.inl rfl, fun h => by simp at h⟩
  | some y =>
    have hy := List.mem_of_getLast? hg
    refine ⟨.inr ⟨y, hy, rfl⟩, fun h => ⟨y, hy, by simpa using h⟩⟩
theorem lines_parts (L : List SC) {l : Ln} (hl : l ∈ endViews (linesGo [] L)) : (∀ x ∈ l.cells, x ∈ L) ∧ (l.last = [] ∨ ∃ z ∈ L, l.last = z.text) ∧ (l.shut = true → ∃ z ∈ L, z.fin = 12) := by
  obtain ⟨m, hm, h⟩ := endViews_mem _ _ hl
  have hsub : ∀ z ∈ m, z ∈ L := fun z hz => by
    rcases linesGo_sub L [] m hm z hz with h | h
    · simp at h
    · exact h
  refine ⟨lines_cells L l hl, ?_⟩
  have key : ∀ m', (∀ z ∈ m', z ∈ L) → l = view m' → (l.last = [] ∨ ∃ z ∈ L, l.last = z.text) ∧ (l.shut = true → ∃ z ∈ L, z.fin = 12) := by
    rintro m' hs rfl
    obtain ⟨h1, h2⟩ := view_parts m'
    refine ⟨?_, fun h => ?_⟩
    · rcases h1 with h1 | ⟨z, hz, h1⟩
      · exact .inl h1
      · exact .inr ⟨z, hs z hz, h1⟩
    · obtain ⟨z, hz, h⟩ := h2 h
      exact ⟨z, hs z hz, h⟩
  rcases h with h | h
  · exact key m hsub h
  · unfold viewEnd at h
    split at h
    · exact key _ (fun z hz => hsub z (List.dropLast_subset _ hz)) h
    · exact key m hsub h

theorem filter_all {p : UInt8} {l : List UInt8} (h : ∀ b ∈ l, b ≠ p) : l.filter (· != p) = l := by
  rw [List.filter_eq_self]
  intro b hb
  simpa using h b hb
theorem cellsO_nobar (h : Alike c d) (h4 : c.flag 4 = d.flag 4) (h32 : d.flag 32 = false) (hch : c.ch ≠ 124) (f : Nat → Nat) : ∀ (l : List SC) (j : Nat) (ut : Bool), (∀ x ∈ l, ∀ b ∈ x.text, b ≠ 124) → (cellsO c f j ut l).filter (· != 124) = cellsO d f j ut l := by
  intro l
  induction l with
  | nil => intro j ut _; rfl
  | cons x l ih =>
    intro j ut hl
    have hb : (barB c j).filter (· != 124) = [] := by unfold barB; split <;> rfl
    have hb2 : barB d j = [] := by unfold barB; rw [if_neg (fun h => by rw [h32] at h; exact absurd h.2 (by simp))]
    have hp : ∀ u, (putB c x.text (padB c x.width.toNat (f j) u)).filter (· != 124) = putB d x.text (padB d x.width.toNat (f j) u) := by
      intro u
      rw [filter_all, putB_alike h4, padB_alike h]
      intro b hb
      have h2 : b ∈ x.text ∨ b ∈ padB c x.width.toNat (f j) u := by
        unfold putB at hb
        split at hb
        · exact (List.mem_append.1 hb).symm
        · exact List.mem_append.1 hb
      rcases h2 with h2 | h2
      · exact hl x (by simp) b h2
      · rcases mem_padB h2 with rfl | ⟨rfl, _⟩
        · exact hch
        · decide
    simp only [cellsO, List.filter_append, hb, hb2, hp, List.nil_append, ih (j + 1) _ (fun y hy => hl y (List.mem_cons_of_mem _ hy))]
theorem outF_nobar (h : Alike c d) (h4 : c.flag 4 = d.flag 4) (h16 : c.flag 16 = d.flag 16) (h32 : d.flag 32 = false) (hch : c.ch ≠ 124) (f : Nat → Nat → Nat) (n : Nat) : ∀ (M : List Ln) (k : Nat), (∀ l ∈ M, (∀ x ∈ l.cells, ∀ b ∈ x.text, b ≠ 124) ∧ (∀ b ∈ l.last, b ≠ 124) ∧ l.shut = false) → (outF c f n k M).filter (· != 124) = outF d f n k M := by
  intro M
  induction M with
  | nil => intro k _; rfl
  | cons l M ih =>
    intro k hl
    obtain ⟨h1, h2, h3⟩ := hl l (by simp)
    have hb : (barB c l.cells.length).filter (· != 124) = [] := by unfold barB; split <;> rfl
    have hb2 : barB d l.cells.length = [] := by unfold barB; rw [if_neg (fun h => by rw [h32] at h; exact absurd h.2 (by simp))]
    have hn : (if k + 1 = n then ([] : List UInt8) else [10]).filter (· != 124) = if k + 1 = n then [] else [10] := by split <;> rfl
    have e1 : (lineO c (f k) l).filter (· != 124) = lineO d (f k) l := by
      unfold lineO
      rw [List.filter_append, List.filter_append, cellsO_nobar h h4 h32 hch _ _ _ _ h1, hb, hb2, filter_all h2, h16]
    simp only [outF, h3, Bool.false_eq_true, false_and, if_false, List.nil_append, List.filter_append, e1, hn, ih (k + 1) (fun x hx => hl x (List.mem_cons_of_mem _ hx))]
/-- Bars are all that is added. -/
theorem format_nobar (h : Alike c d) (h1 : c.flag 1 = d.flag 1) (h2 : c.flag 2 = d.flag 2) (h4 : c.flag 4 = d.flag 4) (h8 : c.flag 8 = d.flag 8) (h16 : c.flag 16 = d.flag 16) (h32 : d.flag 32 = false) (hch : c.ch ≠ 124) (s : List UInt8) (hs : ∀ b ∈ s, b ≠ 124)
    (hf : ∀ z ∈ cellsGo d ⟨[], 0, 0⟩ [] s, z.fin ≠ 12) : (formatO c s).filter (· != 124) = formatO d s := by
  have he : ∀ b : UInt8, endOf c b = endOf d b := fun b => by unfold endOf; rw [h1]
  have hc : cellsGo c ⟨[], 0, 0⟩ [] s = cellsGo d ⟨[], 0, 0⟩ [] s := cells_alike s.length s (Nat.le_refl _) (fun b _ => ⟨he b, fun i w => by unfold passT; rw [h2, he]⟩) _ _
  unfold formatO specOut
  rw [hc, outF_nobar h h4 h16 h32 hch]
  · rw [show Wd c (endViews (linesGo [] (cellsGo d ⟨[], 0, 0⟩ [] s))) = Wd d (endViews (linesGo [] (cellsGo d ⟨[], 0, 0⟩ [] s))) from funext fun i => Wd_fun h h8 _ i]
  · intro l hl
    obtain ⟨p1, p2, p3⟩ := lines_parts _ hl
    have ht : ∀ z ∈ cellsGo d ⟨[], 0, 0⟩ [] s, ∀ b ∈ z.text, b ≠ 124 := cells_bytes d 124 (by decide) s.length s (Nat.le_refl _) hs _ _ (by simp) (by simp)
    refine ⟨fun x hx => ht x (p1 x hx), ?_, ?_⟩
    · rcases p2 with p2 | ⟨z, hz, p2⟩
      · rw [p2]; simp
      · rw [p2]; exact ht z hz
    · cases hsh : l.shut with
      | false => rfl
      | true => obtain ⟨z, hz, h⟩ := p3 hsh; exact absurd h (hf z hz)

/-- How many characters there are ahead of each bar. -/
def barsG (pre : List UInt8) : List UInt8 → List Nat
  | [] => []
  | b :: t => if b = 124 then rc pre :: barsG (pre ++ [b]) t else barsG (pre ++ [b]) t
theorem barsG_append (a b : List UInt8) : ∀ pre, barsG pre (a ++ b) = barsG pre a ++ barsG (pre ++ a) b := by
  induction a with
  | nil => intro pre; simp [barsG]
  | cons x a ih =>
    intro pre
    simp only [List.cons_append, barsG, ih, List.append_assoc, List.nil_append]
    split <;> rfl
theorem barsG_none (a : List UInt8) : ∀ pre, (∀ b ∈ a, b ≠ 124) → barsG pre a = [] := by
  induction a with
  | nil => intro pre _; rfl
  | cons x a ih =>
    intro pre h
    rw [barsG, if_neg (h x (by simp)), ih _ (fun b hb => h b (List.mem_cons_of_mem _ hb))]
def posB (f : Nat → Nat) : Nat → Nat → List SC → List Nat
  | _, p, [] => [p]
  | j, p, _ :: l => p :: posB f (j + 1) (p + 1 + f j) l
theorem posB_len (f : Nat → Nat) : ∀ (l : List SC) (j p : Nat), (posB f j p l).length = l.length + 1 := by
  intro l
  induction l with
  | nil => intro j p; rfl
  | cons x l ih => intro j p; simp [posB, ih]
theorem posB_agree {f g : Nat → Nat} : ∀ (i : Nat) (l m : List SC) (j p a b : Nat), (posB f j p l)[i]? = some a → (posB g j p m)[i]? = some b → (∀ k, j ≤ k → k < j + i → f k = g k) → a = b := by
  intro i
  induction i with
  | zero =>
    intro l m j p a b ha hb _
    cases l <;> cases m <;> simp [posB] at ha hb <;> omega
  | succ i ih =>
    intro l m j p a b ha hb h
    cases l with
    | nil => simp [posB] at ha
    | cons x l =>
      cases m with
      | nil => simp [posB] at hb
      | cons y m =>
        simp only [posB, List.getElem?_cons_succ] at ha hb
        rw [← h j (Nat.le_refl _) (by omega)] at hb
        exact ih l m (j + 1) _ a b ha hb (fun k h1 h2 => h k (by omega) (by omega))
theorem rc_put (h9 : c.ch ≠ 9) (hch : c.ch.toNat < 128) (t : List UInt8) {W : Nat} (hw : rc t ≤ W) : rc (putB c t (padB c (rc t) W false)) = W := by
  rw [padB_plain h9]
  unfold putB
  split
  · rw [rc_pad _ hch]; omega
  · have h0 := rc_pad c.ch hch (W - rc t) []
    rw [List.append_nil, rc_nil] at h0
    rw [rc_ap _ _ (fun x hx => ?_), h0]
    · omega
    · have := List.mem_of_head? hx
      rw [(List.mem_replicate.1 this).2]; exact hch
theorem put_nobar (hch : c.ch ≠ 124) (h9 : c.ch ≠ 9) {t : List UInt8} (ht : ∀ b ∈ t, b ≠ 124) (a b : Nat) : ∀ x ∈ putB c t (padB c a b false), x ≠ 124 := by
  intro x hx
  rw [padB_plain h9] at hx
  have : x ∈ t ∨ x ∈ List.replicate (b - a) c.ch := by
    unfold putB at hx
    split at hx
    · exact (List.mem_append.1 hx).symm
    · exact List.mem_append.1 hx
  rcases this with h | h
  · exact ht x h
  · rw [(List.mem_replicate.1 h).2]; exact hch
theorem bars_cells (h9 : c.ch ≠ 9) (hch : c.ch.toNat < 128) (hc2 : c.ch ≠ 124) (h32 : c.flag 32 = true) (f : Nat → Nat) {last : List UInt8} (hlast : ∀ b ∈ last, b ≠ 124) : ∀ (l : List SC) (j : Nat) (pre : List UInt8), 0 < j → (∀ i, i < l.length → (l.getD i default).width.toNat ≤ f (j + i)) →
    (∀ x ∈ l, x.width = rc x.text ∧ ∀ b ∈ x.text, b ≠ 124) → barsG pre (cellsO c f j false l ++ (barB c (j + l.length) ++ last)) = posB f j (rc pre) l := by
  intro l
  induction l with
  | nil =>
    intro j pre hj _ _
    have hb : barB c j = [124] := by unfold barB; rw [if_pos ⟨hj, h32⟩]
    simp only [cellsO, List.nil_append, List.length_nil, Nat.add_zero, hb, List.singleton_append, barsG, if_true, posB]
    rw [barsG_none _ _ hlast]
  | cons x l ih =>
    intro j pre hj hw hx
    have hb : barB c j = [124] := by unfold barB; rw [if_pos ⟨hj, h32⟩]
    obtain ⟨hx1, hx2⟩ := hx x (by simp)
    have h0 := hw 0 (by simp)
    simp only [List.getD_cons_zero, Nat.add_zero, hx1, Int.toNat_natCast] at h0
    have e1 : j + (x :: l).length = (j + 1) + l.length := by simp; omega
    simp only [cellsO, hb, Bool.false_and, List.cons_append, List.nil_append, barsG, if_true, posB, List.append_assoc, e1, hx1, Int.toNat_natCast]
    rw [barsG_append, barsG_none _ _ (put_nobar hc2 h9 hx2 _ _), List.nil_append, ih (j + 1) _ (by omega) (fun i hi => by have := hw (i + 1) (by simp; omega); simpa [Nat.add_assoc, Nat.add_comm 1] using this) (fun y hy => hx y (List.mem_cons_of_mem _ hy))]
    have e2 : rc ((pre ++ [124]) ++ putB c x.text (padB c (rc x.text) (f j) false)) = rc pre + 1 + f j := by
      rw [List.append_assoc, List.singleton_append, rc_ap _ _ (fun y hy => by simp at hy; subst hy; decide), rc_ascii 124 (by decide), rc_put h9 hch _ h0]
      omega
    simp only [List.append_assoc] at e2 ⊢
    rw [e2]
theorem bars_line (h9 : c.ch ≠ 9) (hch : c.ch.toNat < 128) (hc2 : c.ch ≠ 124) (h32 : c.flag 32 = true) (h16 : c.flag 16 = false) (f : Nat → Nat) (l : Ln) (hw : ∀ i, i < l.cells.length → (l.cells.getD i default).width.toNat ≤ f i) (hx : ∀ x ∈ l.cells, x.width = rc x.text ∧ ∀ b ∈ x.text, b ≠ 124) (hlast : ∀ b ∈ l.last, b ≠ 124) :
    barsG [] (lineO c f l) = if l.cells = [] then [] else posB f 1 (f 0) l.cells.tail := by
  unfold lineO
  rw [h16]
  obtain ⟨cells, last, sh⟩ := l
  simp only at *
  cases cells with
  | nil =>
    have hb : barB c 0 = [] := by unfold barB; rw [if_neg (fun h => absurd h.1 (by omega))]
    simp only [cellsO, List.length_nil, hb, List.nil_append, if_true]
    exact barsG_none _ _ hlast
  | cons x l =>
    obtain ⟨hx1, hx2⟩ := hx x (by simp)
    have h0 := hw 0 (by simp)
    simp only [List.getD_cons_zero, hx1, Int.toNat_natCast] at h0
    have hb : barB c 0 = [] := by unfold barB; rw [if_neg (fun h => absurd h.1 (by omega))]
    have e1 : (x :: l).length = 1 + l.length := by simp; omega
    simp only [cellsO, hb, Bool.false_and, List.nil_append, List.append_assoc, e1, hx1, Int.toNat_natCast, Nat.zero_add, reduceCtorEq, if_false, List.tail_cons]
    rw [barsG_append, barsG_none _ _ (put_nobar hc2 h9 hx2 _ _), List.nil_append, List.nil_append, bars_cells h9 hch hc2 h32 f hlast l 1 _ (by omega) (fun i hi => by have := hw (i + 1) (by simp; omega); simpa [Nat.add_comm 1] using this) (fun y hy => hx y (List.mem_cons_of_mem _ hy)), rc_put h9 hch _ h0]
theorem cM_ge (j : Nat) (l : List SC) : ∀ (b : List (List SC)) (m : Nat), (m ≤ b.foldl (fun m l => max m ((l.getD j default).width.toNat + c.pd)) m) ∧ (l ∈ b → (l.getD j default).width.toNat ≤ b.foldl (fun m l => max m ((l.getD j default).width.toNat + c.pd)) m) := by
  intro b
  induction b with
  | nil => intro m; exact ⟨Nat.le_refl _, fun h => by simp at h⟩
  | cons x b ih =>
    intro m
    simp only [List.foldl_cons]
    obtain ⟨h1, h2⟩ := ih (max m ((x.getD j default).width.toNat + c.pd))
    refine ⟨by omega, fun h => ?_⟩
    rcases List.mem_cons.1 h with rfl | h
    · omega
    · exact h2 h
theorem Wd_ge {M : List Ln} {i j : Nat} {l : Ln} (hl : M[i]? = some l) (hj : j < l.cells.length) : (l.cells.getD j default).width.toNat ≤ Wd c M i j := by
  have hm : l.cells ∈ (blockL M i j).map (·.cells) := List.mem_map.2 ⟨l, mem_blockL hl hj, rfl⟩
  unfold Wd cW
  split
  · rename_i h
    have := List.all_eq_true.1 h.1 _ hm
    simp only [Bool.and_eq_true, beq_iff_eq] at this
    rw [this.1]; simp
  · exact (cM_ge j l.cells _ _).2 hm
theorem blockL_next {M : List Ln} {i j : Nat} {l m : Ln} (hl : M[i]? = some l) (hm : M[i + 1]? = some m) (h1 : l.has j = true) (hs : l.shut = false) : blockL M i j = blockL M (i + 1) j := by
  have hi := (List.getElem?_eq_some_iff.1 hl).1
  have e1 : M.drop i = l :: M.drop (i + 1) := by
    have := List.drop_eq_getElem_cons hi
    rw [(List.getElem?_eq_some_iff.1 hl).2] at this
    exact this
  have e2 : M.take (i + 1) = M.take i ++ [l] := by
    rw [List.take_add_one, hl]; rfl
  have _ := hm
  unfold blockL
  rw [e1, e2, List.reverse_append, List.reverse_singleton, List.singleton_append, List.takeWhile_cons, if_pos (by simp [h1, hs]), List.reverse_cons, fwd, if_pos h1, if_neg (by rw [hs]; simp), List.append_assoc, List.singleton_append]
/-- Bars of lines that follow each other. -/
theorem bars_agree (h9 : c.ch ≠ 9) (hch : c.ch.toNat < 128) (hc2 : c.ch ≠ 124) (h32 : c.flag 32 = true) (h16 : c.flag 16 = false) {M : List Ln} (hM : ∀ l ∈ M, (∀ x ∈ l.cells, x.width = rc x.text ∧ ∀ b ∈ x.text, b ≠ 124) ∧ (∀ b ∈ l.last, b ≠ 124) ∧ l.shut = false) {i : Nat} {x : List UInt8} (hx : (linesO c (Wd c M) 0 M)[i]? = some x) :
    (∃ l, M[i]? = some l ∧ (barsG [] x).length = l.cells.length) ∧ ∀ (y : List UInt8), (linesO c (Wd c M) 0 M)[i + 1]? = some y → ∀ (j a b : Nat), (barsG [] x)[j]? = some a → (barsG [] y)[j]? = some b → a = b := by
  have key : ∀ {i : Nat} {x : List UInt8}, (linesO c (Wd c M) 0 M)[i]? = some x → ∃ l, M[i]? = some l ∧ barsG [] x = if l.cells = [] then [] else posB (Wd c M i) 1 (Wd c M i 0) l.cells.tail := by
    intro i x hx
    rw [linesO_get, Nat.zero_add] at hx
    cases hl : M[i]? with
    | none => rw [hl] at hx; simp at hx
    | some l =>
      rw [hl] at hx
      simp only [Option.map_some, Option.some.injEq] at hx
      subst hx
      obtain ⟨k1, k2, _⟩ := hM l (List.mem_of_getElem? hl)
      exact ⟨l, rfl, bars_line h9 hch hc2 h32 h16 _ l (fun j hj => Wd_ge hl hj) k1 k2⟩
  have hlen : ∀ (l : Ln) (f : Nat → Nat), (if l.cells = [] then [] else posB f 1 (f 0) l.cells.tail).length = l.cells.length := by
    intro l f
    split
    · rename_i h; rw [h]; rfl
    · rename_i h
      rw [posB_len, List.length_tail]
      have := List.length_pos_iff.2 h
      omega
  obtain ⟨l, hl, e⟩ := key hx
  refine ⟨⟨l, hl, by rw [e]; exact hlen l _⟩, ?_⟩
  intro y hy j a b ha hb
  obtain ⟨m, hm, e2⟩ := key hy
  rw [e] at ha
  rw [e2] at hb
  have h1 := (List.getElem?_eq_some_iff.1 ha).1
  have h2 := (List.getElem?_eq_some_iff.1 hb).1
  rw [hlen] at h1 h2
  have hW : ∀ k, k ≤ j → Wd c M i k = Wd c M (i + 1) k := by
    intro k hk
    unfold Wd
    rw [blockL_next hl hm (by unfold Ln.has; simp; omega) (hM l (List.mem_of_getElem? hl)).2.2]
  rw [if_neg (by intro h; rw [h] at h1; simp at h1)] at ha
  rw [if_neg (by intro h; rw [h] at h2; simp at h2), ← hW 0 (by omega)] at hb
  cases j with
  | zero => exact posB_agree 0 _ _ 1 _ a b ha hb (fun k h1 h2 => hW k (by omega))
  | succ j => exact posB_agree (j + 1) _ _ 1 _ a b ha hb (fun k h3 h4 => hW k (by omega))
end
end Go.Proofs.YtaagcdlghoiolaaDoor
