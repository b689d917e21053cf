/- Plain law: how long what is written of a small text is. -/
import Derived.Test.YtaagcdlghoiolaaDoorPj
namespace Go.Proofs.YtaagcdlghoiolaaDoor
open Go.RowKit Go.Tw Go.Sort

section
variable {c : Cfg}
theorem cellsT_sum : ∀ (s pl : List UInt8), (texts (cellsT pl s)).length + (cellsT pl s).length = pl.length + s.length + 1 := by
  intro s
  induction s with
  | nil => intro pl; simp [cellsT]
  | cons b t ih =>
    intro pl
    rw [cellsT]
    split
    · have := ih []
      simp only [texts_cons, List.length_append, List.length_cons, List.length_nil] at this ⊢
      omega
    · have := ih (pl ++ [b])
      simp only [List.length_append, List.length_cons, List.length_nil] at this ⊢
      omega
def lsum (LL : List (List SC)) : Nat := (LL.map fun m => (texts m).length + m.length).sum
theorem lines_sum : ∀ (l cur : List SC), lsum (linesGo cur l) ≤ (texts cur).length + cur.length + (texts l).length + l.length := by
  intro l
  induction l with
  | nil => intro cur; simp [linesGo, lsum]
  | cons x l ih =>
    intro cur
    simp only [linesGo]
    split
    · have := ih (cur ++ [x])
      simp only [texts_append, texts_cons, texts_nil, List.length_append, List.length_cons, List.length_nil] at this ⊢
      omega
    · have := ih []
      simp only [lsum, List.map_cons, List.sum_cons, texts_append, texts_cons, texts_nil, List.length_append, List.length_cons, List.length_nil] at this ⊢
      omega
theorem sum_parts (a b : Ln → Nat) (W : Nat) : ∀ M : List Ln, (M.map fun l => a l + b l * W + 1).sum = (M.map a).sum + (M.map b).sum * W + M.length := by
  intro M
  induction M with
  | nil => simp
  | cons l M ih =>
    simp only [List.map_cons, List.sum_cons, List.length_cons, ih, Nat.add_mul]
    omega
theorem sum_mem {a : Ln → Nat} : ∀ {M : List Ln} {l : Ln}, l ∈ M → a l ≤ (M.map a).sum := by
  intro M
  induction M with
  | nil => intro l h; simp at h
  | cons x M ih =>
    intro l h
    simp only [List.map_cons, List.sum_cons]
    rcases List.mem_cons.1 h with rfl | h
    · omega
    · have := ih h; omega
theorem text_mem {x : SC} : ∀ {l : List SC}, x ∈ l → x.text.length ≤ (texts l).length := by
  intro l
  induction l with
  | nil => intro h; simp at h
  | cons y l ih =>
    intro h
    simp only [texts_cons, List.length_append]
    rcases List.mem_cons.1 h with rfl | h
    · omega
    · have := ih h; omega
theorem cellsO_len (h9 : c.ch ≠ 9) (h32 : c.flag 32 = false) (f : Nat → Nat) (W : Nat) (hf : ∀ j, f j ≤ W) : ∀ (l : List SC) (j : Nat), (cellsO c f j false l).length ≤ (texts l).length + l.length * W := by
  intro l
  induction l with
  | nil => intro j; simp [cellsO]
  | cons x l ih =>
    intro j
    have hb : barB c j = [] := by unfold barB; rw [if_neg (fun h => by rw [h32] at h; exact absurd h.2 (by simp))]
    have h1 := ih (j + 1)
    have h2 := hf j
    simp only [cellsO, Bool.false_and, hb, List.nil_append, List.length_append, putB_len, padB_plain h9, List.length_replicate, texts_cons, List.length_cons, Nat.add_mul]
    omega
theorem outF_lenW (h9 : c.ch ≠ 9) (h16 : c.flag 16 = false) (h32 : c.flag 32 = false) (f : Nat → Nat → Nat) (n W : Nat) (hf : ∀ k j, f k j ≤ W) : ∀ (M : List Ln) (k : Nat), (outF c f n k M).length ≤ (M.map fun l => ((texts l.cells).length + l.last.length) + l.cells.length * W + 1).sum := by
  intro M
  induction M with
  | nil => intro k; simp [outF]
  | cons l M ih =>
    intro k
    have hb : barB c l.cells.length = [] := by unfold barB; rw [if_neg (fun h => by rw [h32] at h; exact absurd h.2 (by simp))]
    have h1 := ih (k + 1)
    have h2 := cellsO_len h9 h32 (f k) W (hf k) l.cells 0
    have h3 : (if k + 1 = n then ([] : List UInt8) else [10]).length ≤ 1 := by split <;> simp
    have hs0 : ¬ (l.shut = true ∧ c.flag 32 = true) := fun h => by rw [h32] at h; exact absurd h.2 (by simp)
    rw [outF, if_neg hs0]
    unfold lineO
    rw [h16, hb]
    simp only [List.nil_append, List.length_append, List.map_cons, List.sum_cons]
    omega
theorem cM_bound (W : Nat) (hm : c.mn ≤ W) (j : Nat) : ∀ (b : List (List SC)), (∀ l ∈ b, (l.getD j default).width.toNat + c.pd ≤ W) → cM c j b ≤ W := by
  have : ∀ (b : List (List SC)) (m : Nat), m ≤ W → (∀ l ∈ b, (l.getD j default).width.toNat + c.pd ≤ W) → b.foldl (fun m l => max m ((l.getD j default).width.toNat + c.pd)) m ≤ W := by
    intro b
    induction b with
    | nil => intro m h _; exact h
    | cons l b ih =>
      intro m h hl
      simp only [List.foldl_cons]
      have := hl l (by simp)
      exact ih _ (by omega) (fun x hx => hl x (List.mem_cons_of_mem _ hx))
  exact fun b h => this b _ hm h
theorem fwd_sub (j : Nat) : ∀ (M : List Ln) (l : Ln), l ∈ fwd j M → l ∈ M := by
  intro M
  induction M with
  | nil => intro l h; simp [fwd] at h
  | cons m M ih =>
    intro l h
    rw [fwd] at h
    split at h
    · rcases List.mem_cons.1 h with rfl | h
      · simp
      · split at h
        · simp at h
        · exact List.mem_cons_of_mem _ (ih l h)
    · simp at h
theorem blockL_sub {M : List Ln} {i j : Nat} {l : Ln} (h : l ∈ blockL M i j) : l ∈ M := by
  unfold blockL at h
  rcases List.mem_append.1 h with h | h
  · exact List.mem_of_mem_take (List.mem_reverse.1 ((List.takeWhile_sublist _).subset (List.mem_reverse.1 h)))
  · exact List.mem_of_mem_drop (fwd_sub j _ l h)
theorem mul_bound (a b : Nat) (h : a + b ≤ 3060) : a * b ≤ 2340900 := by
  have h1 : a ≤ 1530 ∨ b ≤ 1530 := by omega
  have key : ∀ x y : Nat, x ≤ 1530 → x + y ≤ 3060 → x * y ≤ 2340900 := by
    intro x y hx hy
    obtain ⟨d, hd⟩ : ∃ d, x + d = 1530 := ⟨1530 - x, by omega⟩
    have h2 : x * y ≤ x * (1530 + d) := Nat.mul_le_mul_left x (by omega)
    obtain rfl : d = 1530 - x := by omega
    have h3 : x * (1530 + (1530 - x)) ≤ 2340900 := by
      have e : ∀ z : Fin 1531, z.val * (1530 + (1530 - z.val)) ≤ 2340900 := by decide +kernel
      exact e ⟨x, by omega⟩
    omega
  rcases h1 with h1 | h1
  · exact key a b h1 h
  · rw [Nat.mul_comm]; exact key b a h1 (by omega)
/-- What is written of a small text is not too long. -/
theorem format_len (h9 : c.ch ≠ 9) (h16 : c.flag 16 = false) (h32 : c.flag 32 = false) (hm : c.mn ≤ 60) (hp : c.pd ≤ 60) {s : List UInt8} (h : Tm s) (ho : opn (cellsGo c ⟨[], 0, 0⟩ [] s) = false) (hs : s.length ≤ 3000) : (formatO c s).length ≤ 2350000 := by
  unfold formatO specOut
  rw [views_tame h ho]
  obtain ⟨M, hM⟩ : ∃ M, M = (linesT s).map view := ⟨_, rfl⟩
  rw [← hM]
  obtain ⟨tx, htx⟩ : ∃ t, t = (M.map fun l => (texts l.cells).length + l.last.length).sum := ⟨_, rfl⟩
  obtain ⟨cc, hcc⟩ : ∃ t, t = (M.map fun l => l.cells.length).sum := ⟨_, rfl⟩
  have hsum : tx + cc + M.length ≤ s.length + 1 := by
    have h1 := lines_sum (cellsT [] s) []
    have h2 := cellsT_sum s []
    simp only [texts_nil, List.length_nil] at h1 h2
    have h3 : ∀ LL : List (List SC), (∀ m ∈ LL, m ≠ []) → ((LL.map view).map fun l => (texts l.cells).length + l.last.length).sum + ((LL.map view).map fun l => l.cells.length).sum + (LL.map view).length = lsum LL := by
      intro LL
      induction LL with
      | nil => intro _; rfl
      | cons m LL ih =>
        intro hne
        have h4 := ih (fun x hx => hne x (List.mem_cons_of_mem _ hx))
        have hm0 := hne m (by simp)
        have h5 : (texts (view m).cells).length + (view m).last.length = (texts m).length ∧ (view m).cells.length + 1 = m.length := by
          obtain ⟨y, hy⟩ : ∃ y, m = m.dropLast ++ [y] := ⟨_, (List.dropLast_concat_getLast hm0).symm⟩
          rw [hy, view_snoc]
          simp
        simp only [lsum, List.map_cons, List.sum_cons, List.length_cons] at h4 ⊢
        omega
    have hne : ∀ m ∈ linesT s, m ≠ [] := by
      have : ∀ (l cur : List SC), ∀ m ∈ linesGo cur l, m ≠ [] := by
        intro l
        induction l with
        | nil => intro cur m hm; simp [linesGo] at hm
        | cons x l ih =>
          intro cur m hm
          simp only [linesGo] at hm
          split at hm
          · exact ih _ m hm
          · rcases List.mem_cons.1 hm with rfl | hm
            · simp
            · exact ih _ m hm
      exact this _ _
    have h6 := h3 (linesT s) hne
    rw [← hM, ← htx, ← hcc] at h6
    have h7 : lsum (linesT s) ≤ (texts (cellsT [] s)).length + (cellsT [] s).length := by unfold linesT; omega
    omega
  have hM1 : 1 ≤ M.length := by
    rw [hM, List.length_map]
    exact List.length_pos_iff.2 (linesT_ne s h)
  have hW : ∀ k j, Wd c M k j ≤ tx + 60 := by
    intro k j
    unfold Wd cW
    split
    · omega
    · refine cM_bound (tx + 60) (by omega) j _ fun l hl => ?_
      obtain ⟨m, hm', rfl⟩ := List.mem_map.1 hl
      have hmM := blockL_sub hm'
      have hx : (m.cells.getD j default).width.toNat ≤ tx := by
        rw [List.getD_eq_getElem?_getD]
        cases hg : m.cells[j]? with
        | none => exact Nat.zero_le _
        | some x =>
          have hxm := List.mem_of_getElem? hg
          have h1 := ((view_text (hM ▸ hmM)).1 x hxm).1
          have h2 := text_mem hxm
          have h3 := rc_le x.text
          have h4 : (texts m.cells).length + m.last.length ≤ tx := by rw [htx]; exact sum_mem (a := fun l => (texts l.cells).length + l.last.length) hmM
          simp only [Option.getD_some, h1, Int.toNat_natCast]
          omega
      omega
  have h1 := outF_lenW h9 h16 h32 (Wd c M) M.length (tx + 60) hW M 0
  rw [sum_parts (fun l => (texts l.cells).length + l.last.length) (fun l => l.cells.length), ← htx, ← hcc] at h1
  have h2 := mul_bound cc (tx + 60) (by omega)
  omega
end
end Go.Proofs.YtaagcdlghoiolaaDoor
