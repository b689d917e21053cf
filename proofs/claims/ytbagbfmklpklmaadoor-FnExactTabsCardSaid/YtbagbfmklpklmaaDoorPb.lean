/- Plain notions of what the reference gives: cells, lines, columns' widths; and that format writes the same. -/
import Derived.Test.YtbagbfmklpklmaaDoorWp
namespace Go.Proofs.YtbagbfmklpklmaaDoor
open Go.RowKit Go.Tw Go.Sort

/-- A cell of the reference. -/
structure SC where
  text : List UInt8
  width : Int
  fin : UInt8
  deriving Inhabited
/-- A line: its cells that a tab ends and that stand in columns, the text behind them, whether it ends all columns. -/
structure Ln where
  cells : List SC
  last : List UInt8
  shut : Bool
  deriving Inhabited
def SC.tabbed (x : SC) : Bool := x.fin == 9 || x.fin == 11
def view (l : List SC) : Ln := ⟨l.dropLast, (l.getLast?.map (·.text)).getD [], (l.getLast?.map (·.fin)).getD 0 == 12⟩
def Ln.has (j : Nat) (l : Ln) : Bool := decide (j < l.cells.length)
/-- The lines of a column's block from a line on. -/
def fwd (j : Nat) : List Ln → List Ln
  | [] => []
  | l :: t => if l.has j = true then l :: (if l.shut = true then [] else fwd j t) else []
/-- The block of a column around a line. -/
def blockL (M : List Ln) (i j : Nat) : List Ln := ((M.take i).reverse.takeWhile (fun l => l.has j && !l.shut)).reverse ++ fwd j (M.drop i)
def cM (c : Cfg) (j : Nat) (b : List (List SC)) : Nat := b.foldl (fun m l => max m ((l.getD j default).width.toNat + c.pd)) c.mn
def cD (j : Nat) (b : List (List SC)) : Bool := b.all fun l => (l.getD j default).width == 0 && (l.getD j default).fin == 11
/-- The width of a block's column. -/
def cW (c : Cfg) (j : Nat) (b : List (List SC)) : Nat := if cD j b = true ∧ c.flag 8 = true then 0 else cM c j b
def Wd (c : Cfg) (M : List Ln) (i j : Nat) : Nat := cW c j ((blockL M i j).map (·.cells))

def barB (c : Cfg) (j : Nat) : List UInt8 := if 0 < j ∧ c.flag 32 = true then [124] else []
/-- A cell's text and its padding. -/
def putB (c : Cfg) (text pad : List UInt8) : List UInt8 := if c.flag 4 = true then pad ++ text else text ++ pad
def cellsO (c : Cfg) (f : Nat → Nat) : Nat → Bool → List SC → List UInt8
  | _, _, [] => []
  | j, ut, x :: xs => barB c j ++ (putB c x.text (padB c x.width.toNat (f j) (ut && x.text.isEmpty)) ++ cellsO c f (j + 1) (ut && x.text.isEmpty) xs)
def lineO (c : Cfg) (f : Nat → Nat) (l : Ln) : List UInt8 := cellsO c f 0 (c.flag 16) l.cells ++ (barB c l.cells.length ++ l.last)
/-- Lines, the k-th and on, of n; a line below one that ends all columns, if bars are asked for. -/
def outF (c : Cfg) (f : Nat → Nat → Nat) (n : Nat) : Nat → List Ln → List UInt8
  | _, [] => []
  | k, l :: M => lineO c (f k) l ++ ((if k + 1 = n then [] else [10]) ++ ((if l.shut = true ∧ c.flag 32 = true then hbarL else []) ++ outF c f n (k + 1) M))

section
variable {c : Cfg}
theorem cellsO_congr {f g : Nat → Nat} : ∀ (xs : List SC) (j : Nat) (ut : Bool), (∀ i, i < xs.length → f (j + i) = g (j + i)) → cellsO c f j ut xs = cellsO c g j ut xs := by
  intro xs
  induction xs with
  | nil => intro j ut _; rfl
  | cons x xs ih =>
    intro j ut h
    have h0 := h 0 (by simp)
    simp only [cellsO]
    rw [Nat.add_zero] at h0
    rw [h0, ih (j + 1) _ (fun i hi => by have := h (i + 1) (by simp; omega); rw [show j + 1 + i = j + (i + 1) by omega]; exact this)]
theorem lineO_congr {f g : Nat → Nat} {l : Ln} (h : ∀ i, i < l.cells.length → f i = g i) : lineO c f l = lineO c g l := by
  unfold lineO
  rw [cellsO_congr (g := g) l.cells 0 _ (fun i hi => by rw [Nat.zero_add]; exact h i hi)]
theorem outF_congr {f g : Nat → Nat → Nat} {n : Nat} : ∀ (M : List Ln) (k : Nat), (∀ i l, M[i]? = some l → ∀ j, j < l.cells.length → f (k + i) j = g (k + i) j) → outF c f n k M = outF c g n k M := by
  intro M
  induction M with
  | nil => intro k _; rfl
  | cons l M ih =>
    intro k h
    simp only [outF]
    rw [lineO_congr (fun j hj => by have := h 0 l rfl j hj; simpa using this), ih (k + 1) (fun i x hx j hj => by have := h (i + 1) x (by simpa using hx) j hj; rw [show k + 1 + i = k + (i + 1) by omega]; exact this)]
theorem outF_append {f : Nat → Nat → Nat} {n : Nat} (A B : List Ln) : ∀ (k : Nat), outF c f n k (A ++ B) = outF c f n k A ++ outF c f n (k + A.length) B := by
  induction A with
  | nil => intro k; rfl
  | cons l A ih =>
    intro k
    simp only [List.cons_append, outF, List.append_assoc, ih, List.length_cons]
    rw [show k + 1 + A.length = k + (A.length + 1) by omega]
/-- Only the place in the whole counts. -/
theorem outF_shift {f : Nat → Nat → Nat} {n d : Nat} : ∀ (M : List Ln) (k : Nat), outF c f (n + d) (k + d) M = outF c (fun i j => f (i + d) j) n k M := by
  intro M
  induction M with
  | nil => intro k; rfl
  | cons l M ih =>
    intro k
    simp only [outF]
    rw [show k + d + 1 = (k + 1) + d by omega, ih]
    by_cases h : k + 1 = n
    · rw [if_pos h, if_pos (by omega)]
    · rw [if_neg h, if_neg (by omega)]

theorem tw_stop {α : Type} {p : α → Bool} {y : α} (hy : p y = false) (Z : List α) : ∀ X : List α, (X ++ y :: Z).takeWhile p = X.takeWhile p := by
  intro X
  induction X with
  | nil => simp [hy]
  | cons x X ih => simp only [List.cons_append, List.takeWhile_cons, ih]
theorem tw_all {α : Type} {p : α → Bool} : ∀ X : List α, (∀ x ∈ X, p x = true) → X.takeWhile p = X := by
  intro X
  induction X with
  | nil => intro _; rfl
  | cons x X ih => intro h; rw [List.takeWhile_cons, if_pos (h x (by simp)), ih (fun y hy => h y (by simp [hy]))]
theorem fwd_stop {j : Nat} {r : List Ln} (hr : ∀ l, r.head? = some l → l.has j = false) : ∀ X : List Ln, fwd j (X ++ r) = fwd j X := by
  intro X
  induction X with
  | nil =>
    cases r with
    | nil => rfl
    | cons l r => simp [fwd, hr l rfl]
  | cons x X ih => simp only [List.cons_append, fwd, ih]
theorem fwd_all {j : Nat} : ∀ X : List Ln, (∀ x ∈ X, x.has j = true ∧ x.shut = false) → fwd j X = X := by
  intro X
  induction X with
  | nil => intro _; rfl
  | cons x X ih =>
    intro h
    have h0 := h x (by simp)
    simp [fwd, h0.1, h0.2, ih (fun y hy => h y (by simp [hy]))]
theorem has_mono {l : Ln} {i j : Nat} (h : i ≤ j) (hj : l.has j = true) : l.has i = true := by
  unfold Ln.has at *; simp at *; omega
theorem has_mono' {l : Ln} {i j : Nat} (h : i ≤ j) (hj : l.has i = false) : l.has j = false := by
  unfold Ln.has at *; simp at *; omega

/-- A line that ends what stands ahead of it. -/
def Ends (e : Ln) : Prop := e.shut = true ∨ e.cells = []
theorem blockL_left {A B : List Ln} {e : Ln} (he : Ends e) {i j : Nat} (hi : i ≤ A.length) : blockL ((A ++ [e]) ++ B) i j = blockL (A ++ [e]) i j := by
  have hf : ∀ X : List Ln, fwd j ((X ++ [e]) ++ B) = fwd j (X ++ [e]) := by
    intro X
    induction X with
    | nil =>
      rcases he with h | h
      · simp [fwd, h]
      · simp [fwd, Ln.has, h]
    | cons x X ih => simp only [List.cons_append, fwd]; simp only [List.append_assoc, List.cons_append, List.nil_append] at ih; simp [ih]
  unfold blockL
  rw [List.take_append_of_le_length (by simp; omega), List.drop_append_of_le_length (by simp; omega), List.drop_append_of_le_length (by omega), hf]
theorem blockL_right {A B : List Ln} {e : Ln} (he : Ends e) (i j : Nat) : blockL ((A ++ [e]) ++ B) ((A ++ [e]).length + i) j = blockL B i j := by
  unfold blockL
  have hd : ((A ++ [e]) ++ B).drop ((A ++ [e]).length + i) = B.drop i := by rw [← List.drop_drop, List.drop_left]
  have ht : ((A ++ [e]) ++ B).take ((A ++ [e]).length + i) = (A ++ [e]) ++ B.take i := List.take_length_add_append _
  rw [hd, ht, List.reverse_append, List.reverse_append, List.reverse_singleton, List.singleton_append]
  rw [tw_stop (by rcases he with h | h <;> simp [Ln.has, h])]

/-- The last line's mark counts for no width. -/
theorem blockL_mark {A : List Ln} {e e' : Ln} (hc : e.cells = e'.cells) {i j : Nat} (hi : i ≤ A.length) : (blockL (A ++ [e]) i j).map (·.cells) = (blockL (A ++ [e']) i j).map (·.cells) := by
  have hf : ∀ X : List Ln, (fwd j (X ++ [e])).map (·.cells) = (fwd j (X ++ [e'])).map (·.cells) := by
    intro X
    induction X with
    | nil =>
      simp only [List.nil_append, fwd, Ln.has, hc, ite_self]
      split <;> simp [hc]
    | cons x X ih =>
      simp only [List.cons_append, fwd]
      split
      · split
        · rfl
        · rw [List.map_cons, List.map_cons, ih]
      · rfl
  unfold blockL
  rw [List.map_append, List.map_append, List.take_append_of_le_length hi, List.take_append_of_le_length hi, List.drop_append_of_le_length hi, List.drop_append_of_le_length hi, hf]

/-- Within lines of one block: the column's own block. -/
theorem blockL_own {X r : List Ln} {i j : Nat} (hX : ∀ x ∈ X, x.has j = true ∧ x.shut = false) (hr : ∀ l, r.head? = some l → l.has j = false) (hi : i ≤ X.length) : blockL (X ++ r) i j = X := by
  unfold blockL
  rw [List.take_append_of_le_length hi, List.drop_append_of_le_length hi, fwd_stop hr, tw_all, List.reverse_reverse, fwd_all]
  · exact List.take_append_drop i X
  · intro x hx; exact hX x (List.mem_of_mem_drop hx)
  · intro x hx
    have := hX x (List.mem_of_mem_take (List.mem_reverse.1 hx))
    simp [this.1, this.2]
theorem blockL_in {X r : List Ln} {i j : Nat} (hr : ∀ l, r.head? = some l → l.has j = false) (hi : i ≤ X.length) : blockL (X ++ r) i j = blockL X i j := by
  unfold blockL
  rw [List.take_append_of_le_length hi, List.drop_append_of_le_length hi, fwd_stop hr]
theorem blockL_behind {X r : List Ln} {i j : Nat} {l : Ln} (hl : r[i]? = some l) (hj : l.has j = true) (hr : ∀ l, r.head? = some l → l.has j = false) : blockL (X ++ r) (X.length + i) j = blockL r i j := by
  unfold blockL
  have hd : (X ++ r).drop (X.length + i) = r.drop i := by rw [← List.drop_drop, List.drop_left]
  have ht : (X ++ r).take (X.length + i) = X ++ r.take i := List.take_length_add_append _
  rw [hd, ht]
  cases r with
  | nil => simp at hl
  | cons y r =>
    have hy := hr y rfl
    cases i with
    | zero => simp at hl; subst hl; rw [hj] at hy; cases hy
    | succ i =>
      rw [List.take_succ_cons, List.reverse_append, List.reverse_cons, List.append_assoc, List.singleton_append]
      rw [tw_stop (by simp [hy]), tw_stop (by simp [hy])]
/-- A line without the column ahead. -/
theorem blockL_tail {m : Ln} {r : List Ln} {i j : Nat} (hm : m.has j = false) : blockL (m :: r) (i + 1) j = blockL r i j := by
  unfold blockL
  rw [List.take_succ_cons, List.reverse_cons, List.drop_succ_cons, tw_stop (by simp [hm])]
end
end Go.Proofs.YtbagbfmklpklmaaDoor
