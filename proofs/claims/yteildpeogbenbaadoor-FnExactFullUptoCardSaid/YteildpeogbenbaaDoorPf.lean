/- A text's cells and lines by the reference; blocks. -/
import Derived.Test.YteildpeogbenbaaDoorPc
namespace Go.Proofs.YteildpeogbenbaaDoor
open Go.RowKit Go.Tw Go.Sort

/-- What the reference writes of lines. -/
def specOut (c : Cfg) (M : List Ln) : List UInt8 := outF c (Wd c M) M.length 0 M
def lineZ : Ln := ⟨[], [], false⟩

section
variable {c : Cfg}
theorem outF_n {f : Nat → Nat → Nat} {n n' : Nat} : ∀ (M : List Ln) (k : Nat), k + M.length < n → k + M.length < n' → outF c f n k M = outF c f n' k M := by
  intro M
  induction M with
  | nil => intro k _ _; rfl
  | cons l M ih =>
    intro k h1 h2
    simp only [List.length_cons] at h1 h2
    simp only [outF]
    have a1 : ¬ k + 1 = n := by omega
    have a2 : ¬ k + 1 = n' := by omega
    rw [if_neg a1, if_neg a2, ih (k + 1) (by omega) (by omega)]
theorem lineO_Z (f : Nat → Nat) : lineO c f lineZ = [] := by simp [lineO, lineZ, cellsO, barB]

theorem outF_snoc (f : Nat → Nat → Nat) (n : Nat) (A : List Ln) (e : Ln) : outF c f n 0 (A ++ [e]) = outF c f n 0 A ++ (lineO c (f A.length) e ++ ((if A.length + 1 = n then [] else [10]) ++ (if e.shut = true ∧ c.flag 32 = true then hbarL else []))) := by
  rw [outF_append, Nat.zero_add]
  simp only [outF, List.append_nil]
theorem spec_split {A B : List Ln} {e : Ln} (he : Ends e) (hB : B ≠ []) :
    specOut c ((A ++ [e]) ++ B) = (specOut c ((A ++ [{ e with shut := false }]) ++ [lineZ]) ++ (if e.shut = true ∧ c.flag 32 = true then hbarL else [])) ++ specOut c B := by
  have hb : 0 < B.length := by cases B with | nil => exact absurd rfl hB | cons => simp
  obtain ⟨e0, he0⟩ : ∃ e0 : Ln, e0 = { e with shut := false } := ⟨_, rfl⟩
  have hsh : e0.shut = false := by rw [he0]
  have hcl : e.cells = e0.cells := by rw [he0]
  have hla : e.last = e0.last := by rw [he0]
  rw [← he0]
  clear he0
  have w1 : ∀ i j, i ≤ A.length → Wd c ((A ++ [e]) ++ B) i j = Wd c ((A ++ [e0]) ++ [lineZ]) i j := by
    intro i j hi
    unfold Wd
    rw [blockL_left he hi, blockL_mark hcl hi, blockL_in (r := [lineZ]) (by intro l hl; simp at hl; subst hl; simp [Ln.has, lineZ]) (by simp; omega)]
  have e1 : outF c (Wd c ((A ++ [e]) ++ B)) ((A ++ [e]) ++ B).length (0 + (A ++ [e]).length) B = specOut c B := by
    have hl : ((A ++ [e]) ++ B).length = B.length + (A ++ [e]).length := by rw [List.length_append]; omega
    rw [hl, outF_shift]
    unfold specOut
    refine outF_congr _ _ fun i x hx j hj => ?_
    unfold Wd
    rw [Nat.zero_add, Nat.add_comm i, blockL_right he]
  have n1 : A.length + 1 < ((A ++ [e]) ++ B).length := by simp; omega
  have n2 : A.length + 1 < ((A ++ [e0]) ++ [lineZ]).length := by simp
  have hL : specOut c ((A ++ [e]) ++ B) = outF c (Wd c ((A ++ [e]) ++ B)) ((A ++ [e]) ++ B).length 0 (A ++ [e]) ++ specOut c B := by
    rw [← e1]
    unfold specOut
    exact outF_append (A ++ [e]) B 0
  have hR : specOut c ((A ++ [e0]) ++ [lineZ]) = outF c (Wd c ((A ++ [e0]) ++ [lineZ])) ((A ++ [e0]) ++ [lineZ]).length 0 (A ++ [e0]) := by
    unfold specOut
    rw [outF_snoc _ _ (A ++ [e0]) lineZ, lineO_Z]
    rw [if_pos (by simp), if_neg (by simp [lineZ])]
    simp
  rw [hL, hR]
  congr 1
  rw [outF_snoc, outF_snoc]
  have a1 : ¬ A.length + 1 = ((A ++ [e]) ++ B).length := by omega
  have a2 : ¬ A.length + 1 = ((A ++ [e0]) ++ [lineZ]).length := by omega
  have a3 : ¬ (e0.shut = true ∧ c.flag 32 = true) := fun h => by rw [hsh] at h; exact absurd h.1 (by simp)
  rw [if_neg a1, if_neg a2, if_neg a3, List.append_nil]
  rw [outF_n (n' := ((A ++ [e0]) ++ [lineZ]).length) A 0 (by omega) (by omega)]
  rw [outF_congr (g := Wd c ((A ++ [e0]) ++ [lineZ])) A 0 (fun i x hx j hj => by
    have := (List.getElem?_eq_some_iff.1 hx).1
    exact w1 _ _ (by omega))]
  have h1 : lineO c (Wd c ((A ++ [e]) ++ B) A.length) e = lineO c (Wd c ((A ++ [e0]) ++ [lineZ]) A.length) e0 := by
    rw [lineO_congr (g := Wd c ((A ++ [e0]) ++ [lineZ]) A.length) (fun j hj => w1 _ _ (Nat.le_refl _))]
    unfold lineO
    rw [hcl, hla]
  rw [h1]
  simp only [List.append_assoc]

/-- How an escaped text, a tag or an entity ends; 0: none begins. -/
def endOf (c : Cfg) (b : UInt8) : UInt8 := if b = 255 then 255 else if b = 60 ∧ c.flag 1 = true then 62 else if b = 38 ∧ c.flag 1 = true then 59 else 0
def brk (b : UInt8) : Bool := decide (9 ≤ b) && decide (b ≤ 12)
/-- How it is passed on; i: what is within. -/
def passT (c : Cfg) (b : UInt8) (i : List UInt8) (whole : Bool) : List UInt8 :=
  if b = 255 ∧ c.flag 2 = true then i else b :: (i ++ (if whole = true then [endOf c b] else []))
def passW (b : UInt8) (i : List UInt8) : Nat := if b = 60 then 0 else if b = 38 then 1 else rc i

/-- The cells of what is left, behind a cell x so far and plain text pl. -/
def cellsGo (c : Cfg) (x : SC) (pl : List UInt8) : List UInt8 → List SC
  | [] => [⟨x.text ++ pl, x.width + rc pl, x.fin⟩]
  | b :: t =>
    if endOf c b ≠ 0 then
      cellsGo c ⟨x.text ++ pl ++ passT c b (t.takeWhile (· != endOf c b)) (!(t.dropWhile (· != endOf c b)).isEmpty), x.width + rc pl + passW b (t.takeWhile (· != endOf c b)), x.fin⟩ [] ((t.dropWhile (· != endOf c b)).drop 1)
    else if brk b = true then ⟨x.text ++ pl, x.width + rc pl, b⟩ :: cellsGo c ⟨[], 0, 0⟩ [] t
    else cellsGo c x (pl ++ [b]) t
termination_by s => s.length
decreasing_by
  · have := (List.dropWhile_sublist (fun x => x != endOf c b) (l := t)).length_le
    simp only [List.length_drop, List.length_cons]; omega
  · simp
  · simp

/-- Cells in lines, cur behind which they stand. -/
def linesGo : List SC → List SC → List (List SC)
  | _, [] => []
  | cur, x :: xs => if x.tabbed = true then linesGo (cur ++ [x]) xs else (cur ++ [x]) :: linesGo [] xs
/-- A last line that has no text behind its last tab has no cell there. -/
def viewEnd (l : List SC) : Ln := if 1 < l.length ∧ (l.getLast?.map (·.text)).getD [] = [] then view l.dropLast else view l
def endViews : List (List SC) → List Ln
  | [] => []
  | [l] => [viewEnd l]
  | l :: m :: r => view l :: endViews (m :: r)
/-- What the reference gives of a text. -/
def formatO (c : Cfg) (s : List UInt8) : List UInt8 := specOut c (endViews (linesGo [] (cellsGo c ⟨[], 0, 0⟩ [] s)))

theorem endViews_cons (l : List SC) {M : List (List SC)} (h : M ≠ []) : endViews (l :: M) = view l :: endViews M := by
  cases M with
  | nil => exact absurd rfl h
  | cons m r => rfl
theorem endViews_ne {M : List (List SC)} (h : M ≠ []) : endViews M ≠ [] := by
  match M with
  | [] => exact absurd rfl h
  | [l] => simp [endViews]
  | l :: m :: r => simp [endViews]
theorem cellsGo_last (c : Cfg) : ∀ (n : Nat) (s : List UInt8) (x : SC) (pl : List UInt8), s.length ≤ n → x.fin = 0 → ∃ y l, cellsGo c x pl s = l ++ [y] ∧ y.fin = 0 := by
  intro n
  induction n with
  | zero =>
    intro s x pl hs hx
    obtain rfl : s = [] := List.length_eq_zero_iff.1 (by omega)
    rw [cellsGo]
    exact ⟨_, [], rfl, hx⟩
  | succ n ih =>
    intro s x pl hs hx
    cases s with
    | nil => rw [cellsGo]; exact ⟨_, [], rfl, hx⟩
    | cons b t =>
      simp only [List.length_cons] at hs
      rw [cellsGo]
      split
      · refine ih _ _ _ ?_ hx
        have := (List.dropWhile_sublist (fun x => x != endOf c b) (l := t)).length_le
        simp only [List.length_drop]; omega
      · split
        · obtain ⟨y, l, e, hy⟩ := ih t ⟨[], 0, 0⟩ [] (by omega) rfl
          exact ⟨y, _ :: l, by rw [e]; rfl, hy⟩
        · exact ih _ _ _ (by omega) hx
theorem linesGo_ne {y : SC} (hy : y.tabbed = false) : ∀ (l : List SC) (cur : List SC), linesGo cur (l ++ [y]) ≠ [] := by
  intro l
  induction l with
  | nil => intro cur; simp [linesGo, hy]
  | cons x l ih =>
    intro cur
    simp only [List.cons_append, linesGo]
    split
    · exact ih _
    · simp
theorem lines_ne (c : Cfg) (s : List UInt8) (x : SC) (pl : List UInt8) (cur : List SC) (hx : x.fin = 0) : linesGo cur (cellsGo c x pl s) ≠ [] := by
  obtain ⟨y, l, e, hy⟩ := cellsGo_last c s.length s x pl (Nat.le_refl _) hx
  rw [e]
  exact linesGo_ne (by simp [SC.tabbed, hy]) l cur
end
end Go.Proofs.YteildpeogbenbaaDoor

namespace Go.Proofs.YteildpeogbenbaaDoor
open Go.RowKit Go.Tw Go.Sort

theorem back_eq {M : List Ln} {p : Ln → Bool} {a i : Nat} (ha : a ≤ i) (_ : i ≤ M.length) (h : ∀ k l, M[k]? = some l → a ≤ k → k < i → p l = true) (hs : a = 0 ∨ ∃ l, M[a - 1]? = some l ∧ p l = false) :
    ((M.take i).reverse.takeWhile p).reverse = seg M a i := by
  have e1 : M.take i = M.take a ++ seg M a i := by
    unfold seg
    have := (List.take_append_drop a (M.take i)).symm
    rwa [List.take_take, Nat.min_eq_left ha] at this
  have hall : ∀ x ∈ (seg M a i).reverse, p x = true := by
    intro x hx
    obtain ⟨k, h1, h2, h3⟩ := mem_seg (List.mem_reverse.1 hx)
    exact h k x h3 h1 h2
  rw [e1, List.reverse_append]
  rcases hs with rfl | ⟨l, hl, hp⟩
  · rw [List.take_zero, List.reverse_nil, List.append_nil, tw_all _ hall, List.reverse_reverse]
  · by_cases h0 : a = 0
    · subst h0
      rw [List.take_zero, List.reverse_nil, List.append_nil, tw_all _ hall, List.reverse_reverse]
    · obtain ⟨b, rfl⟩ : ∃ b, a = b + 1 := ⟨a - 1, by omega⟩
      rw [Nat.add_sub_cancel] at hl
      have e2 : M.take (b + 1) = M.take b ++ [l] := by rw [List.take_add_one, hl]; rfl
      rw [e2, List.reverse_append, List.reverse_singleton, List.singleton_append, tw_stop hp, tw_all _ hall, List.reverse_reverse]
theorem fwd_eq {M : List Ln} {j b : Nat} (hb : b < M.length) (hs : (∃ l, M[b]? = some l ∧ l.shut = true) ∨ b + 1 = M.length ∨ ∃ l, M[b + 1]? = some l ∧ l.has j = false) :
    ∀ (n i : Nat), b - i ≤ n → i ≤ b → (∀ k l, M[k]? = some l → i ≤ k → k ≤ b → l.has j = true) → (∀ k l, M[k]? = some l → i ≤ k → k < b → l.shut = false) → fwd j (M.drop i) = seg M i (b + 1) := by
  intro n
  induction n with
  | zero =>
    intro i hn hib h0 h1
    obtain rfl : i = b := by omega
    obtain ⟨l, hl⟩ : ∃ l, M[i]? = some l := ⟨M[i], List.getElem?_eq_getElem hb⟩
    have hd : M.drop i = l :: M.drop (i + 1) := by
      rw [List.drop_eq_getElem_cons hb]
      congr 1
      rw [List.getElem?_eq_getElem hb] at hl
      exact Option.some.inj hl
    rw [seg_one hl, hd, fwd, if_pos (h0 i l hl (Nat.le_refl _) (Nat.le_refl _))]
    congr 1
    split
    · rfl
    · rename_i hns
      rcases hs with ⟨l', hl', hsh⟩ | hs | ⟨l', hl', hh⟩
      · rw [hl] at hl'; cases hl'; exact absurd hsh hns
      · rw [List.drop_eq_nil_of_le (by omega)]; rfl
      · have hlt := (List.getElem?_eq_some_iff.1 hl').1
        have he : M[i + 1] = l' := (List.getElem?_eq_some_iff.1 hl').2
        rw [List.drop_eq_getElem_cons hlt, fwd, he, if_neg (by rw [hh]; simp)]
  | succ n ih =>
    intro i hn hib h0 h1
    by_cases hi : i = b
    · exact (by
        subst hi
        obtain ⟨l, hl⟩ : ∃ l, M[i]? = some l := ⟨M[i], List.getElem?_eq_getElem hb⟩
        have hd : M.drop i = l :: M.drop (i + 1) := by
          rw [List.drop_eq_getElem_cons hb]
          congr 1
          rw [List.getElem?_eq_getElem hb] at hl
          exact Option.some.inj hl
        rw [seg_one hl, hd, fwd, if_pos (h0 i l hl (Nat.le_refl _) (Nat.le_refl _))]
        congr 1
        split
        · rfl
        · rename_i hns
          rcases hs with ⟨l', hl', hsh⟩ | hs | ⟨l', hl', hh⟩
          · rw [hl] at hl'; cases hl'; exact absurd hsh hns
          · rw [List.drop_eq_nil_of_le (by omega)]; rfl
          · have hlt := (List.getElem?_eq_some_iff.1 hl').1
            have he : M[i + 1] = l' := (List.getElem?_eq_some_iff.1 hl').2
            rw [List.drop_eq_getElem_cons hlt, fwd, he, if_neg (by rw [hh]; simp)])
    · have hlt : i < M.length := by omega
      obtain ⟨l, hl⟩ : ∃ l, M[i]? = some l := ⟨M[i], List.getElem?_eq_getElem hlt⟩
      have hd : M.drop i = l :: M.drop (i + 1) := by
        rw [List.drop_eq_getElem_cons hlt]
        congr 1
        rw [List.getElem?_eq_getElem hlt] at hl
        exact Option.some.inj hl
      rw [seg_cons hl (by omega) (by omega), hd, fwd, if_pos (h0 i l hl (Nat.le_refl _) hib), if_neg (by rw [h1 i l hl (Nat.le_refl _) (by omega)]; simp)]
      rw [ih (i + 1) (by omega) (by omega) (fun k l hk h2 h3 => h0 k l hk (by omega) h3) (fun k l hk h2 h3 => h1 k l hk (by omega) h3)]
theorem blockL_eq {M : List Ln} {j i a b : Nat} (ha : a ≤ i) (hib : i ≤ b) (hb : b < M.length) (h0 : ∀ k l, M[k]? = some l → a ≤ k → k ≤ b → l.has j = true) (h1 : ∀ k l, M[k]? = some l → a ≤ k → k < b → l.shut = false)
    (hs : a = 0 ∨ ∃ l, M[a - 1]? = some l ∧ (l.has j && !l.shut) = false) (he : (∃ l, M[b]? = some l ∧ l.shut = true) ∨ b + 1 = M.length ∨ ∃ l, M[b + 1]? = some l ∧ l.has j = false) : blockL M i j = seg M a (b + 1) := by
  unfold blockL
  rw [back_eq ha (by omega) (fun k l hk h2 h3 => by rw [h0 k l hk h2 (by omega), h1 k l hk h2 (by omega)]; rfl) hs,
    fwd_eq hb he (b - i) i (Nat.le_refl _) hib (fun k l hk h2 h3 => h0 k l hk (by omega) h3) (fun k l hk h2 h3 => h1 k l hk (by omega) h3)]
  exact (seg_split (by omega) (by omega) (by omega)).symm

theorem cM_snoc (c : Cfg) (j : Nat) (b : List (List SC)) (l : List SC) : cM c j (b ++ [l]) = max (cM c j b) ((l.getD j default).width.toNat + c.pd) := by simp [cM]
theorem cD_snoc (j : Nat) (b : List (List SC)) (l : List SC) : cD j (b ++ [l]) = (cD j b && ((l.getD j default).width == 0 && (l.getD j default).fin == 11)) := by simp [cD]
end Go.Proofs.YteildpeogbenbaaDoor
