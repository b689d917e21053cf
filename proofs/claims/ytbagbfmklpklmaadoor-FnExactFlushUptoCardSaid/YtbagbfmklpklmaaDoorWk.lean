/- What format writes: plain notions. -/
import Derived.Test.YtbagbfmklpklmaaDoorWj
namespace Go.Proofs.YtbagbfmklpklmaaDoor
open Go.RowKit Go.Tw Go.Sort

/-- A line has a cell of a column. -/
def has (col : Nat) (l : List PC) : Bool := decide (col + 1 < l.length)
/-- The lines from a up to b. -/
def seg {α : Type} (ls : List α) (a b : Nat) : List α := (ls.take b).drop a
def SZ (ls : List (List PC)) : Nat := (ls.map sizeOfCells).sum
@[simp] theorem SZ_append (a b : List (List PC)) : SZ (a ++ b) = SZ a + SZ b := by simp [SZ]
@[simp] theorem SZ_nil : SZ [] = 0 := rfl
@[simp] theorem SZ_cons (a : List PC) (b : List (List PC)) : SZ (a :: b) = sizeOfCells a + SZ b := by simp [SZ]

theorem seg_len {α : Type} {ls : List α} {a b : Nat} (hb : b ≤ ls.length) : (seg ls a b).length = b - a := by simp [seg]; omega
theorem seg_self {α : Type} (ls : List α) (a : Nat) : seg ls a a = [] := by simp [seg]
theorem seg_split {α : Type} {ls : List α} {a k b : Nat} (h1 : a ≤ k) (h2 : k ≤ b) (hb : b ≤ ls.length) : seg ls a b = seg ls a k ++ seg ls k b := by
  unfold seg
  have e1 : ls.take b = ls.take k ++ (ls.take b).drop k := by
    have := (List.take_append_drop k (ls.take b)).symm
    rwa [List.take_take, Nat.min_eq_left h2] at this
  conv => lhs; rw [e1]
  rw [List.drop_append_of_le_length (by simp; omega)]
theorem seg_one {α : Type} {ls : List α} {k : Nat} {l : α} (h : ls[k]? = some l) : seg ls k (k + 1) = [l] := by
  have hk := (List.getElem?_eq_some_iff.1 h).1
  unfold seg
  rw [List.take_add_one, h, List.drop_append_of_le_length (by simp; omega)]
  simp
theorem seg_cons {α : Type} {ls : List α} {k b : Nat} {l : α} (h : ls[k]? = some l) (hk : k < b) (hb : b ≤ ls.length) : seg ls k b = l :: seg ls (k + 1) b := by
  rw [seg_split (k := k + 1) (by omega) hk hb, seg_one h]; rfl
theorem seg_snoc {α : Type} {ls : List α} {a k : Nat} {l : α} (h : ls[k]? = some l) (hk : a ≤ k) : seg ls a (k + 1) = seg ls a k ++ [l] := by
  have := (List.getElem?_eq_some_iff.1 h).1
  rw [seg_split (k := k) hk (by omega) (by omega), seg_one h]
theorem seg_get {α : Type} {ls : List α} {a b i : Nat} (h : a + i < b) : (seg ls a b)[i]? = ls[a + i]? := by
  simp [seg, h]
theorem mem_seg {α : Type} {ls : List α} {a b : Nat} {l : α} (h : l ∈ seg ls a b) : ∃ i, a ≤ i ∧ i < b ∧ ls[i]? = some l := by
  obtain ⟨i, hi⟩ := List.mem_iff_getElem?.1 h
  have hl := (List.getElem?_eq_some_iff.1 hi).1
  have : a + i < b := by simp [seg] at hl; omega
  rw [seg_get this] at hi
  exact ⟨a + i, by omega, this, hi⟩
theorem mem_seg_of {α : Type} {ls : List α} {a b i : Nat} {l : α} (h : ls[i]? = some l) (h1 : a ≤ i) (h2 : i < b) : l ∈ seg ls a b := by
  refine List.mem_iff_getElem?.2 ⟨i - a, ?_⟩
  rw [seg_get (by omega), show a + (i - a) = i by omega]; exact h

theorem snocInd {α : Type} {P : List α → Prop} (h0 : P []) (h1 : ∀ b x, P b → P (b ++ [x])) (l : List α) : P l := by
  have : ∀ m : List α, P m.reverse := by
    intro m
    induction m with
    | nil => simpa using h0
    | cons x m ih => rw [List.reverse_cons]; exact h1 _ _ ih
  simpa using this l.reverse

def colM (c : Cfg) (col : Nat) (blk : List (List PC)) : Nat := blk.foldl (fun m l => max m ((l.getD col default).width.toNat + c.pd)) c.mn
def colD (col : Nat) (blk : List (List PC)) : Bool := blk.all fun l => !(decide (0 < (l.getD col default).width) || (l.getD col default).htab)
/-- The width of a column's block. -/
def colW (c : Cfg) (col : Nat) (blk : List (List PC)) : Nat := if colD col blk = true ∧ c.flag 8 = true then 0 else colM c col blk

/-- What format writes of lines, k the first one's number, at most d columns more. -/
def fmtL (c : Cfg) (buf : List UInt8) (n : Nat) : Nat → List Nat → Nat → Nat → List (List PC) → List UInt8
  | 0, _, _, _, _ => []
  | _ + 1, _, _, _, [] => []
  | d + 1, ws, k, pos, l :: rest =>
    if has ws.length l = true then
      fmtL c buf n d (ws ++ [colW c ws.length (l :: rest.takeWhile (has ws.length))]) k pos (l :: rest.takeWhile (has ws.length)) ++
      fmtL c buf n (d + 1) ws (k + (l :: rest.takeWhile (has ws.length)).length) (pos + SZ (l :: rest.takeWhile (has ws.length))) (rest.dropWhile (has ws.length))
    else linesOut c ws buf n k pos [l] ++ fmtL c buf n (d + 1) ws (k + 1) (pos + sizeOfCells l) rest
termination_by d _ _ _ ls => (d, ls.length)
decreasing_by
  all_goals simp_wf
  · exact Prod.Lex.left _ _ (by omega)
  · refine Prod.Lex.right _ ?_
    have := (List.dropWhile_sublist (has ws.length) (l := rest)).length_le
    omega
  · exact Prod.Lex.right _ (by omega)

variable {c : Cfg} {buf : List UInt8} {n d : Nat} {ws : List Nat}
@[simp] theorem fmtL_nil (k pos : Nat) : fmtL c buf n (d + 1) ws k pos [] = [] := by rw [fmtL]
theorem fmtL_no {l : List PC} {rest : List (List PC)} (k pos : Nat) (h : has ws.length l = false) : fmtL c buf n (d + 1) ws k pos (l :: rest) = linesOut c ws buf n k pos [l] ++ fmtL c buf n (d + 1) ws (k + 1) (pos + sizeOfCells l) rest := by
  rw [fmtL, if_neg (by rw [h]; simp)]
/-- A block. -/
theorem fmtL_blk {l : List PC} {b r : List (List PC)} (k pos : Nat) (hb : ∀ x ∈ l :: b, has ws.length x = true) (hr : ∀ x, r.head? = some x → has ws.length x = false) :
    fmtL c buf n (d + 1) ws k pos (l :: b ++ r) = fmtL c buf n d (ws ++ [colW c ws.length (l :: b)]) k pos (l :: b) ++ fmtL c buf n (d + 1) ws (k + (l :: b).length) (pos + SZ (l :: b)) r := by
  have e1 : (b ++ r).takeWhile (has ws.length) = b := by
    rw [List.takeWhile_append_of_pos (fun x hx => hb x (by simp [hx]))]
    cases r with
    | nil => simp
    | cons y r => rw [List.takeWhile_cons_of_neg (by rw [hr y rfl]; simp)]; simp
  have e2 : (b ++ r).dropWhile (has ws.length) = r := by
    rw [List.dropWhile_append_of_pos (fun x hx => hb x (by simp [hx]))]
    cases r with
    | nil => simp
    | cons y r => rw [List.dropWhile_cons_of_neg (by rw [hr y rfl]; simp)]
  rw [List.cons_append, fmtL, if_pos (hb l (by simp)), e1, e2]

theorem colM_snoc (col : Nat) (b : List (List PC)) (l : List PC) : colM c col (b ++ [l]) = max (colM c col b) ((l.getD col default).width.toNat + c.pd) := by simp [colM]
theorem colD_snoc (col : Nat) (b : List (List PC)) (l : List PC) : colD col (b ++ [l]) = (colD col b && !(decide (0 < (l.getD col default).width) || (l.getD col default).htab)) := by simp [colD]
theorem colM_le (col : Nat) (M : Nat) (hM : c.mn ≤ M) : ∀ (b : List (List PC)), (∀ l ∈ b, (l.getD col default).width.toNat + c.pd ≤ M) → colM c col b ≤ M := by
  refine snocInd (P := fun b => (∀ l ∈ b, (l.getD col default).width.toNat + c.pd ≤ M) → colM c col b ≤ M) ?_ ?_
  · intro _; simpa [colM] using hM
  · intro b l ih h
    rw [colM_snoc]
    have h1 := ih (fun x hx => h x (by simp [hx]))
    have h2 := h l (by simp)
    omega
theorem le_colM (col : Nat) : ∀ (b : List (List PC)) (l : List PC), l ∈ b → (l.getD col default).width.toNat + c.pd ≤ colM c col b := by
  refine snocInd (P := fun b => ∀ (l : List PC), l ∈ b → (l.getD col default).width.toNat + c.pd ≤ colM c col b) ?_ ?_
  · intro l h; simp at h
  · intro b x ih l h
    rw [colM_snoc]
    rcases List.mem_append.1 h with h | h
    · have := ih l h; omega
    · simp at h; subst h; omega
theorem colW_le (col : Nat) (M : Nat) (b : List (List PC)) (hM : c.mn ≤ M) (h : ∀ l ∈ b, (l.getD col default).width.toNat + c.pd ≤ M) : colW c col b ≤ M := by
  unfold colW
  split
  · omega
  · exact colM_le col M hM b h
theorem le_colW (col : Nat) (b : List (List PC)) (l : List PC) (h : l ∈ b) : (l.getD col default).width ≤ colW c col b := by
  unfold colW
  split
  · rename_i h0
    have := List.all_eq_true.1 h0.1 l h
    simp only [Bool.not_eq_true', Bool.or_eq_false_iff, decide_eq_false_iff_not] at this
    omega
  · have := le_colM (c := c) col b l h
    omega
end Go.Proofs.YtbagbfmklpklmaaDoor
