/- Lines, blocks, widths; format writes the lines with the widths of their blocks. -/
import Derived.Test.YteildpeogbenbaaDoorWp
namespace Go.Proofs.YteildpeogbenbaaDoor
open Go.RowKit Go.Tw Go.Sort

/-- A cell of the reference. -/
structure SC where
  text : List UInt8
  width : Int
  fin : UInt8
  deriving Inhabited
/-- A line: its cells that a tab ends and that stand in columns, the text behind them, whether it ends all columns. -/
structure Ln where
  cells : List SC
  last : List UInt8
  shut : Bool
  deriving Inhabited
def SC.tabbed (x : SC) : Bool := x.fin == 9 || x.fin == 11
def view (l : List SC) : Ln := ⟨l.dropLast, (l.getLast?.map (·.text)).getD [], (l.getLast?.map (·.fin)).getD 0 == 12⟩
def Ln.has (j : Nat) (l : Ln) : Bool := decide (j < l.cells.length)
/-- The lines of a column's block from a line on. -/
def fwd (j : Nat) : List Ln → List Ln
  | [] => []
  | l :: t => if l.has j = true then l :: (if l.shut = true then [] else fwd j t) else []
/-- The block of a column around a line. -/
def blockL (M : List Ln) (i j : Nat) : List Ln := ((M.take i).reverse.takeWhile (fun l => l.has j && !l.shut)).reverse ++ fwd j (M.drop i)
def cM (c : Cfg) (j : Nat) (b : List (List SC)) : Nat := b.foldl (fun m l => max m ((l.getD j default).width.toNat + c.pd)) c.mn
def cD (j : Nat) (b : List (List SC)) : Bool := b.all fun l => (l.getD j default).width == 0 && (l.getD j default).fin == 11
/-- The width of a block's column. -/
def cW (c : Cfg) (j : Nat) (b : List (List SC)) : Nat := if cD j b = true ∧ c.flag 8 = true then 0 else cM c j b
def Wd (c : Cfg) (M : List Ln) (i j : Nat) : Nat := cW c j ((blockL M i j).map (·.cells))

def barB (c : Cfg) (j : Nat) : List UInt8 := if 0 < j ∧ c.flag 32 = true then [124] else []
/-- A cell's text and its padding. -/
def putB (c : Cfg) (text pad : List UInt8) : List UInt8 := if c.flag 4 = true then pad ++ text else text ++ pad
def cellsO (c : Cfg) (f : Nat → Nat) : Nat → Bool → List SC → List UInt8
  | _, _, [] => []
  | j, ut, x :: xs => barB c j ++ (putB c x.text (padB c x.width.toNat (f j) (ut && x.text.isEmpty)) ++ cellsO c f (j + 1) (ut && x.text.isEmpty) xs)
def lineO (c : Cfg) (f : Nat → Nat) (l : Ln) : List UInt8 := cellsO c f 0 (c.flag 16) l.cells ++ (barB c l.cells.length ++ l.last)
/-- Lines, the k-th and on, of n; a line below one that ends all columns, if bars are asked for. -/
def outF (c : Cfg) (f : Nat → Nat → Nat) (n : Nat) : Nat → List Ln → List UInt8
  | _, [] => []
  | k, l :: M => lineO c (f k) l ++ ((if k + 1 = n then [] else [10]) ++ ((if l.shut = true ∧ c.flag 32 = true then hbarL else []) ++ outF c f n (k + 1) M))

section
variable {c : Cfg}
theorem cellsO_congr {f g : Nat → Nat} : ∀ (xs : List SC) (j : Nat) (ut : Bool), (∀ i, i < xs.length → f (j + i) = g (j + i)) → cellsO c f j ut xs = cellsO c g j ut xs := by
  intro xs
  induction xs with
  | nil => intro j ut _; rfl
  | cons x xs ih =>
    intro j ut h
    have h0 := h 0 (by simp)
    simp only [cellsO]
    rw [Nat.add_zero] at h0
    rw [h0, ih (j + 1) _ (fun i hi => by have := h (i + 1) (by simp; omega); rw [show j + 1 + i = j + (i + 1) by omega]; exact this)]
theorem lineO_congr {f g : Nat → Nat} {l : Ln} (h : ∀ i, i < l.cells.length → f i = g i) : lineO c f l = lineO c g l := by
  unfold lineO
  rw [cellsO_congr (g := g) l.cells 0 _ (fun i hi => by rw [Nat.zero_add]; exact h i hi)]
theorem outF_congr {f g : Nat → Nat → Nat} {n : Nat} : ∀ (M : List Ln) (k : Nat), (∀ i l, M[i]? = some l → ∀ j, j < l.cells.length → f (k + i) j = g (k + i) j) → outF c f n k M = outF c g n k M := by
  intro M
  induction M with
  | nil => intro k _; rfl
  | cons l M ih =>
    intro k h
    simp only [outF]
    rw [lineO_congr (fun j hj => by have := h 0 l rfl j hj; simpa using this), ih (k + 1) (fun i x hx j hj => by have := h (i + 1) x (by simpa using hx) j hj; rw [show k + 1 + i = k + (i + 1) by omega]; exact this)]
theorem outF_append {f : Nat → Nat → Nat} {n : Nat} (A B : List Ln) : ∀ (k : Nat), outF c f n k (A ++ B) = outF c f n k A ++ outF c f n (k + A.length) B := by
  induction A with
  | nil => intro k; rfl
  | cons l A ih =>
    intro k
    simp only [List.cons_append, outF, List.append_assoc, ih, List.length_cons]
    rw [show k + 1 + A.length = k + (A.length + 1) by omega]
/-- Only the place in the whole counts. -/
theorem outF_shift {f : Nat → Nat → Nat} {n d : Nat} : ∀ (M : List Ln) (k : Nat), outF c f (n + d) (k + d) M = outF c (fun i j => f (i + d) j) n k M := by
  intro M
  induction M with
  | nil => intro k; rfl
  | cons l M ih =>
    intro k
    simp only [outF]
    rw [show k + d + 1 = (k + 1) + d by omega, ih]
    by_cases h : k + 1 = n
    · rw [if_pos h, if_pos (by omega)]
    · rw [if_neg h, if_neg (by omega)]

theorem tw_stop {α : Type} {p : α → Bool} {y : α} (hy : p y = false) (Z : List α) : ∀ X : List α, (X ++ y :: Z).takeWhile p = X.takeWhile p := by
  intro X
  induction X with
  | nil => simp [hy]
  | cons x X ih => simp only [List.cons_append, List.takeWhile_cons, ih]
theorem tw_all {α : Type} {p : α → Bool} : ∀ X : List α, (∀ x ∈ X, p x = true) → X.takeWhile p = X := by
  intro X
  induction X with
  | nil => intro _; rfl
  | cons x X ih => intro h; rw [List.takeWhile_cons, if_pos (h x (by simp)), ih (fun y hy => h y (by simp [hy]))]
theorem fwd_stop {j : Nat} {r : List Ln} (hr : ∀ l, r.head? = some l → l.has j = false) : ∀ X : List Ln, fwd j (X ++ r) = fwd j X := by
  intro X
  induction X with
  | nil =>
    cases r with
    | nil => rfl
    | cons l r => simp [fwd, hr l rfl]
  | cons x X ih => simp only [List.cons_append, fwd, ih]
theorem fwd_all {j : Nat} : ∀ X : List Ln, (∀ x ∈ X, x.has j = true ∧ x.shut = false) → fwd j X = X := by
  intro X
  induction X with
  | nil => intro _; rfl
  | cons x X ih =>
    intro h
    have h0 := h x (by simp)
    simp [fwd, h0.1, h0.2, ih (fun y hy => h y (by simp [hy]))]
theorem has_mono {l : Ln} {i j : Nat} (h : i ≤ j) (hj : l.has j = true) : l.has i = true := by
  unfold Ln.has at *; simp at *; omega
theorem has_mono' {l : Ln} {i j : Nat} (h : i ≤ j) (hj : l.has i = false) : l.has j = false := by
  unfold Ln.has at *; simp at *; omega

/-- A line that ends what stands ahead of it. -/
def Ends (e : Ln) : Prop := e.shut = true ∨ e.cells = []
theorem blockL_left {A B : List Ln} {e : Ln} (he : Ends e) {i j : Nat} (hi : i ≤ A.length) : blockL ((A ++ [e]) ++ B) i j = blockL (A ++ [e]) i j := by
  have hf : ∀ X : List Ln, fwd j ((X ++ [e]) ++ B) = fwd j (X ++ [e]) := by
    intro X
    induction X with
    | nil =>
      rcases he with h | h
      · simp [fwd, h]
      · simp [fwd, Ln.has, h]
    | cons x X ih => simp only [List.cons_append, fwd]; simp only [List.append_assoc, List.cons_append, List.nil_append] at ih; simp [ih]
  unfold blockL
  rw [List.take_append_of_le_length (by simp; omega), List.drop_append_of_le_length (by simp; omega), List.drop_append_of_le_length (by omega), hf]
theorem blockL_right {A B : List Ln} {e : Ln} (he : Ends e) (i j : Nat) : blockL ((A ++ [e]) ++ B) ((A ++ [e]).length + i) j = blockL B i j := by
  unfold blockL
  have hd : ((A ++ [e]) ++ B).drop ((A ++ [e]).length + i) = B.drop i := by rw [← List.drop_drop, List.drop_left]
  have ht : ((A ++ [e]) ++ B).take ((A ++ [e]).length + i) = (A ++ [e]) ++ B.take i := List.take_length_add_append _
  rw [hd, ht, List.reverse_append, List.reverse_append, List.reverse_singleton, List.singleton_append]
  rw [tw_stop (by rcases he with h | h <;> simp [Ln.has, h])]

/-- The last line's mark counts for no width. -/
theorem blockL_mark {A : List Ln} {e e' : Ln} (hc : e.cells = e'.cells) {i j : Nat} (hi : i ≤ A.length) : (blockL (A ++ [e]) i j).map (·.cells) = (blockL (A ++ [e']) i j).map (·.cells) := by
  have hf : ∀ X : List Ln, (fwd j (X ++ [e])).map (·.cells) = (fwd j (X ++ [e'])).map (·.cells) := by
    intro X
    induction X with
    | nil =>
      simp only [List.nil_append, fwd, Ln.has, hc, ite_self]
      split <;> simp [hc]
    | cons x X ih =>
      simp only [List.cons_append, fwd]
      split
      · split
        · rfl
        · rw [List.map_cons, List.map_cons, ih]
      · rfl
  unfold blockL
  rw [List.map_append, List.map_append, List.take_append_of_le_length hi, List.take_append_of_le_length hi, List.drop_append_of_le_length hi, List.drop_append_of_le_length hi, hf]

/-- Within lines of one block: the column's own block. -/
theorem blockL_own {X r : List Ln} {i j : Nat} (hX : ∀ x ∈ X, x.has j = true ∧ x.shut = false) (hr : ∀ l, r.head? = some l → l.has j = false) (hi : i ≤ X.length) : blockL (X ++ r) i j = X := by
  unfold blockL
  rw [List.take_append_of_le_length hi, List.drop_append_of_le_length hi, fwd_stop hr, tw_all, List.reverse_reverse, fwd_all]
  · exact List.take_append_drop i X
  · intro x hx; exact hX x (List.mem_of_mem_drop hx)
  · intro x hx
    have := hX x (List.mem_of_mem_take (List.mem_reverse.1 hx))
    simp [this.1, this.2]
theorem blockL_in {X r : List Ln} {i j : Nat} (hr : ∀ l, r.head? = some l → l.has j = false) (hi : i ≤ X.length) : blockL (X ++ r) i j = blockL X i j := by
  unfold blockL
  rw [List.take_append_of_le_length hi, List.drop_append_of_le_length hi, fwd_stop hr]
theorem blockL_behind {X r : List Ln} {i j : Nat} {l : Ln} (hl : r[i]? = some l) (hj : l.has j = true) (hr : ∀ l, r.head? = some l → l.has j = false) : blockL (X ++ r) (X.length + i) j = blockL r i j := by
  unfold blockL
  have hd : (X ++ r).drop (X.length + i) = r.drop i := by rw [← List.drop_drop, List.drop_left]
  have ht : (X ++ r).take (X.length + i) = X ++ r.take i := List.take_length_add_append _
  rw [hd, ht]
  cases r with
  | nil => simp at hl
  | cons y r =>
    have hy := hr y rfl
    cases i with
    | zero => simp at hl; subst hl; rw [hj] at hy; cases hy
    | succ i =>
      rw [List.take_succ_cons, List.reverse_append, List.reverse_cons, List.append_assoc, List.singleton_append]
      rw [tw_stop (by simp [hy]), tw_stop (by simp [hy])]
/-- A line without the column ahead. -/
theorem blockL_tail {m : Ln} {r : List Ln} {i j : Nat} (hm : m.has j = false) : blockL (m :: r) (i + 1) j = blockL r i j := by
  unfold blockL
  rw [List.take_succ_cons, List.reverse_cons, List.drop_succ_cons, tw_stop (by simp [hm])]
end
end Go.Proofs.YteildpeogbenbaaDoor

namespace Go.Proofs.YteildpeogbenbaaDoor
open Go.RowKit Go.Tw Go.Sort

def toPC (x : SC) : PC := ⟨x.text.length, x.width, x.fin == 9⟩
def texts (l : List SC) : List UInt8 := (l.map (·.text)).flatten
def allTexts (LL : List (List SC)) : List UInt8 := (LL.map texts).flatten
def view0 (l : List SC) : Ln := { view l with shut := false }
def pcL (LL : List (List SC)) : List (List PC) := LL.map (·.map toPC)
/-- A cell in a column. -/
def SC.ok (x : SC) : Prop := x.tabbed = true ∧ 0 ≤ x.width

section
variable {c : Cfg} {ws : List Nat} {buf : List UInt8}
@[simp] theorem texts_nil : texts [] = [] := rfl
@[simp] theorem texts_cons (x : SC) (l : List SC) : texts (x :: l) = x.text ++ texts l := by simp [texts]
@[simp] theorem texts_append (a b : List SC) : texts (a ++ b) = texts a ++ texts b := by simp [texts]
@[simp] theorem allTexts_nil : allTexts [] = [] := rfl
@[simp] theorem allTexts_cons (x : List SC) (l : List (List SC)) : allTexts (x :: l) = texts x ++ allTexts l := by simp [allTexts]
@[simp] theorem allTexts_append (a b : List (List SC)) : allTexts (a ++ b) = allTexts a ++ allTexts b := by simp [allTexts]
theorem sizeOf_texts (l : List SC) : sizeOfCells (l.map toPC) = (texts l).length := by
  induction l with
  | nil => rfl
  | cons x l ih => simp only [sizeOfCells, List.map_cons, List.sum_cons, texts_cons, List.length_append] at ih ⊢; rw [ih]; rfl
theorem SZ_texts (LL : List (List SC)) : SZ (pcL LL) = (allTexts LL).length := by
  induction LL with
  | nil => rfl
  | cons l LL ih => simp only [pcL, List.map_cons, SZ_cons, allTexts_cons, List.length_append, sizeOf_texts] at ih ⊢; rw [ih]

theorem cellOut_in {x : SC} {j pos : Nat} {ut : Bool} {tail : List UInt8} (hb : buf.drop pos = x.text ++ tail) (hj : j < ws.length) :
    cellOut c ws buf j pos ut (toPC x) = barB c j ++ putB c x.text (padB c x.width.toNat (ws.getD j 0) (ut && x.text.isEmpty)) := by
  unfold cellOut barB putB toPC
  simp only [if_pos hj, hb, List.take_left]
  congr 1
  by_cases h : x.text = []
  · simp [h]
  · have h0 : ¬ x.text.length = 0 := fun e => h (List.length_eq_zero_iff.1 e)
    have h1 : x.text.isEmpty = false := by simpa using h
    rw [if_neg h0, h1, Bool.and_false]
theorem cellOut_last {x : SC} {j pos : Nat} {ut : Bool} {tail : List UInt8} (hb : buf.drop pos = x.text ++ tail) (hj : ¬ j < ws.length) :
    cellOut c ws buf j pos ut (toPC x) = barB c j ++ x.text := by
  unfold cellOut barB toPC
  simp only [if_neg hj, hb, List.take_left]
  congr 1
  by_cases h : x.text = []
  · simp [h]
  · have h0 : ¬ x.text.length = 0 := fun e => h (List.length_eq_zero_iff.1 e)
    rw [if_neg h0]
    split <;> simp
theorem cellsOut_eq : ∀ (l : List SC) (j pos : Nat) (ut : Bool) (tail : List UInt8), buf.drop pos = texts l ++ tail → l ≠ [] → j + l.length = ws.length + 1 →
    cellsOut c ws buf j pos ut (l.map toPC) = cellsO c (fun j => ws.getD j 0) j ut l.dropLast ++ (barB c (j + l.dropLast.length) ++ (l.getLast?.map (·.text)).getD []) := by
  intro l
  induction l with
  | nil => intro j pos ut tail _ h; exact absurd rfl h
  | cons x l ih =>
    intro j pos ut tail hb _ hl
    rw [texts_cons, List.append_assoc] at hb
    cases l with
    | nil =>
      simp only [List.length_cons, List.length_nil] at hl
      simp only [List.map_cons, List.map_nil, cellsOut, List.append_nil]
      rw [cellOut_last hb (by omega)]
      simp [cellsO]
    | cons y l =>
      simp only [List.length_cons] at hl
      rw [List.map_cons, cellsOut, cellOut_in hb (by omega)]
      have hb2 : buf.drop (pos + (toPC x).size) = texts (y :: l) ++ tail := by
        rw [← List.drop_drop, hb]; exact List.drop_left
      rw [ih (j + 1) (pos + (toPC x).size) _ tail hb2 (by simp) (by simp only [List.length_cons]; omega)]
      have ed : (x :: y :: l).dropLast = x :: (y :: l).dropLast := rfl
      rw [ed, cellsO, List.getLast?_cons_cons]
      have e : ((toPC x).size == 0) = x.text.isEmpty := by
        show (x.text.length == 0) = _
        cases x.text <;> simp
      rw [e]
      simp only [List.append_assoc]
      rw [show j + 1 + (y :: l).dropLast.length = j + (x :: (y :: l).dropLast).length by rw [List.length_cons]; omega]
/-- One line. -/
theorem lineOut_eq {n k pos : Nat} {l : List SC} {tail : List UInt8} (hb : buf.drop pos = texts l ++ tail) (h1 : l.length ≤ ws.length + 1) (h2 : ws.length ≤ l.length - 1) :
    linesOut c ws buf n k pos [l.map toPC] = lineO c (fun j => ws.getD j 0) (view0 l) ++ (if k + 1 = n then [] else [10]) := by
  simp only [linesOut, List.append_nil]
  congr 1
  cases l with
  | nil => simp [cellsOut, lineO, view0, view, cellsO, barB]
  | cons x l =>
    rw [cellsOut_eq (x :: l) 0 pos (c.flag 16) tail hb (by simp) (by simp at h1 h2 ⊢; omega), Nat.zero_add]
    rfl

theorem foldl_congr {α β : Type} {f g : α → β → α} : ∀ (l : List β) (a : α), (∀ a, ∀ b ∈ l, f a b = g a b) → l.foldl f a = l.foldl g a := by
  intro l
  induction l with
  | nil => intro a _; rfl
  | cons b l ih => intro a h; rw [List.foldl_cons, List.foldl_cons, h a b (by simp)]; exact ih _ (fun a x hx => h a x (by simp [hx]))
theorem getD_in {l : List SC} {j : Nat} (h : j + 1 < l.length) : l.dropLast.getD j default = l[j] ∧ (l.map toPC).getD j default = toPC l[j] ∧ l[j] ∈ l.dropLast := by
  have h1 : j < l.dropLast.length := by simp; omega
  have e : l.dropLast[j] = l[j] := by simp
  refine ⟨?_, ?_, ?_⟩
  · rw [List.getD_eq_getElem?_getD, List.getElem?_eq_getElem h1, e]; rfl
  · rw [List.getD_eq_getElem?_getD, List.getElem?_map, List.getElem?_eq_getElem (by omega)]; rfl
  · rw [← e]; exact List.getElem_mem h1
theorem colW_eq {j : Nat} {X : List (List SC)} (hX : ∀ l ∈ X, j + 1 < l.length ∧ ∀ x ∈ l.dropLast, x.ok) : colW c j (pcL X) = cW c j (X.map (·.dropLast)) := by
  have hM : colM c j (pcL X) = cM c j (X.map (·.dropLast)) := by
    unfold colM cM pcL
    rw [List.foldl_map, List.foldl_map]
    refine foldl_congr _ _ fun a l hl => ?_
    obtain ⟨h1, h2, _⟩ := getD_in (hX l hl).1
    rw [h1, h2]; rfl
  have hD : colD j (pcL X) = cD j (X.map (·.dropLast)) := by
    unfold colD cD pcL
    rw [List.all_map, List.all_map]
    rw [Bool.eq_iff_iff, List.all_eq_true, List.all_eq_true]
    have : ∀ l ∈ X, ((fun l : List PC => !(decide (0 < (l.getD j default).width) || (l.getD j default).htab)) ∘ fun l : List SC => l.map toPC) l = ((fun l : List SC => (l.getD j default).width == 0 && (l.getD j default).fin == 11) ∘ fun l : List SC => l.dropLast) l := by
      intro l hl
      obtain ⟨h1, h2, h3⟩ := getD_in (hX l hl).1
      obtain ⟨ht, hw⟩ := (hX l hl).2 _ h3
      have hj : j < l.length := by have := (hX l hl).1; omega
      simp only [Function.comp, h1, h2, toPC]
      revert ht hw
      generalize l[j] = x
      intro ht hw
      unfold SC.tabbed at ht
      rw [Bool.eq_iff_iff]
      simp only [Bool.not_eq_true', Bool.or_eq_false_iff, decide_eq_false_iff_not, Bool.and_eq_true, beq_iff_eq, beq_eq_false_iff_ne, Bool.or_eq_true] at *
      constructor
      · rintro ⟨h1, h2⟩
        refine ⟨by omega, ?_⟩
        rcases ht with h | h
        · exact absurd h h2
        · exact h
      · rintro ⟨h1, h2⟩
        refine ⟨by omega, ?_⟩
        rw [h2]; decide
    exact ⟨fun h l hl => by rw [← this l hl]; exact h l hl, fun h l hl => by rw [this l hl]; exact h l hl⟩
  unfold colW cW
  rw [hM, hD]

theorem has_pc (j : Nat) (l : List SC) : has j (l.map toPC) = (view0 l).has j := by
  unfold Proofs.YteildpeogbenbaaDoor.has Ln.has view0 view
  simp
  omega

theorem fmt_eq (n : Nat) : ∀ (d : Nat) (m : Nat) (ws : List Nat) (LL : List (List SC)) (k pos : Nat) (tail : List UInt8), LL.length ≤ m → buf.drop pos = allTexts LL ++ tail → (∀ l ∈ LL, (∀ x ∈ l.dropLast, x.ok) ∧ ws.length ≤ l.length - 1 ∧ l.length ≤ ws.length + d) → 0 < d →
    fmtL c buf n d ws k pos (pcL LL) = outF c (fun i j => if j < ws.length then ws.getD j 0 else Wd c (LL.map view0) (i - k) j) n k (LL.map view0) := by
  intro d
  induction d with
  | zero => intro m ws LL k pos tail _ _ _ h; omega
  | succ d ihd =>
    intro m
    induction m with
    | zero =>
      intro ws LL k pos tail hm _ _ _
      obtain rfl : LL = [] := List.length_eq_zero_iff.1 (by omega)
      simp [pcL, outF]
    | succ m ihm =>
      intro ws LL k pos tail hm hb hl _
      cases LL with
      | nil => simp [pcL, outF]
      | cons l rest =>
        rw [allTexts_cons, List.append_assoc] at hb
        have hl0 := hl l (by simp)
        by_cases h : has ws.length (l.map toPC) = true
        · obtain ⟨b, r, hbr, hbh, hrh⟩ : ∃ b r, rest = b ++ r ∧ (∀ x ∈ b, has ws.length (x.map toPC) = true) ∧ ∀ x, r.head? = some x → has ws.length (x.map toPC) = false := by
            refine ⟨rest.takeWhile (fun x => has ws.length (x.map toPC)), rest.dropWhile (fun x => has ws.length (x.map toPC)), List.takeWhile_append_dropWhile.symm, ?_, ?_⟩
            · intro x hx
              have := List.all_takeWhile (l := rest) (p := fun x => has ws.length (x.map toPC))
              exact List.all_eq_true.1 this x hx
            · intro x hx
              have := List.head?_dropWhile_not (fun x : List SC => has ws.length (x.map toPC)) rest
              rw [hx] at this
              simpa using this
          subst hbr
          have hpc : pcL (l :: (b ++ r)) = l.map toPC :: pcL b ++ pcL r := by simp [pcL]
          rw [hpc, fmtL_blk]
          · have hlX : ∀ x ∈ l :: b, has ws.length (x.map toPC) = true := by
              intro x hx
              rcases List.mem_cons.1 hx with rfl | hx
              · exact h
              · exact hbh x hx
            have hmem : ∀ x ∈ l :: b, x ∈ l :: (b ++ r) := fun x hx => by
              rcases List.mem_cons.1 hx with rfl | hx
              · simp
              · simp [hx]
            have hlen : ∀ x ∈ l :: b, ws.length + 1 < x.length := fun x hx => by
              have := hlX x hx
              simpa [Proofs.YteildpeogbenbaaDoor.has] using this
            have hcol : colW c ws.length (pcL (l :: b)) = cW c ws.length ((l :: b).map (·.dropLast)) := colW_eq (fun x hx => ⟨hlen x hx, (hl x (hmem x hx)).1⟩)
            have e1 : l.map toPC :: pcL b = pcL (l :: b) := rfl
            rw [e1, hcol]
            have hd : 0 < d := by
              have h1 := hlen l (by simp)
              have h2 := hl0.2.2
              omega
            rw [allTexts_append, List.append_assoc] at hb
            have i1 := ihd (l :: b).length (ws ++ [cW c ws.length ((l :: b).map (·.dropLast))]) (l :: b) k pos (allTexts r ++ tail) (Nat.le_refl _) (by rw [hb, allTexts_cons]; simp) (fun x hx => ⟨(hl x (hmem x hx)).1, by have := hlen x hx; simp; omega, by have := (hl x (hmem x hx)).2.2; simp; omega⟩) hd
            have hsz : SZ (pcL (l :: b)) = (texts l ++ allTexts b).length := by rw [SZ_texts, allTexts_cons]
            have hpl : (pcL (l :: b)).length = (l :: b).length := by simp [pcL]
            have i2 := ihm ws r (k + (l :: b).length) (pos + (texts l ++ allTexts b).length) tail (by simp at hm ⊢; omega) (by rw [← List.drop_drop, hb, ← List.append_assoc (texts l), List.drop_left]) (fun x hx => hl x (by simp [hx])) (by omega)
            rw [i1, hsz, hpl, i2]
            have hX : ∀ x ∈ (l :: b).map view0, ∀ j, j ≤ ws.length → x.has j = true ∧ x.shut = false := by
              intro x hx j hj
              obtain ⟨y, hy, rfl⟩ := List.mem_map.1 hx
              exact ⟨has_mono hj (by rw [← has_pc]; exact hlX y hy), rfl⟩
            have hr : ∀ j, ws.length ≤ j → ∀ x, (r.map view0).head? = some x → x.has j = false := by
              intro j hj x hx
              cases r with
              | nil => simp at hx
              | cons y r =>
                simp at hx; subst hx
                exact has_mono' hj (by rw [← has_pc]; exact hrh y rfl)
            have esp : (l :: (b ++ r)).map view0 = (l :: b).map view0 ++ r.map view0 := by simp
            have hXl : ((l :: b).map view0).length = (l :: b).length := List.length_map _
            rw [esp, outF_append, hXl]
            congr 1
            · refine outF_congr _ _ fun i x hx j hj => ?_
              have hi : i < ((l :: b).map view0).length := (List.getElem?_eq_some_iff.1 hx).1
              simp only [Nat.add_sub_cancel_left, List.length_append, List.length_cons, List.length_nil]
              by_cases h1 : j < ws.length
              · rw [if_pos (by omega), if_pos h1, List.getD_eq_getElem?_getD, List.getElem?_append_left h1, ← List.getD_eq_getElem?_getD]
              · rw [if_neg h1]
                by_cases h2 : j = ws.length
                · subst h2
                  rw [if_pos (by omega)]
                  unfold Wd
                  rw [blockL_own (fun x hx => hX x hx _ (Nat.le_refl _)) (hr _ (Nat.le_refl _)) (by omega)]
                  simp [List.map_map]
                  rfl
                · rw [if_neg (by omega)]
                  unfold Wd
                  rw [blockL_in (hr j (by omega)) (by omega)]
            · refine outF_congr _ _ fun i x hx j hj => ?_
              by_cases h1 : j < ws.length
              · rw [if_pos h1, if_pos h1]
              · rw [if_neg h1, if_neg h1, Nat.add_sub_cancel_left, Nat.add_assoc, Nat.add_sub_cancel_left]
                unfold Wd
                rw [← hXl, blockL_behind hx (by simpa [Ln.has] using hj) (hr j (by omega))]
          · intro x hx
            simp only [pcL, List.mem_cons, List.mem_map] at hx
            rcases hx with rfl | ⟨y, hy, rfl⟩
            · exact h
            · exact hbh y hy
          · intro x hx
            cases r with
            | nil => simp [pcL] at hx
            | cons y r => simp [pcL] at hx; subst hx; exact hrh y rfl
        · have h' : has ws.length (l.map toPC) = false := by simpa using h
          have hlen : l.length ≤ ws.length + 1 := by
            have := h'
            simp [Proofs.YteildpeogbenbaaDoor.has] at this
            omega
          have hpc : pcL (l :: rest) = l.map toPC :: pcL rest := rfl
          rw [hpc, fmtL_no _ _ h', lineOut_eq hb hlen hl0.2.1, sizeOf_texts]
          have i2 := ihm ws rest (k + 1) (pos + (texts l).length) tail (by simp at hm; omega) (by rw [← List.drop_drop, hb, List.drop_left]) (fun x hx => hl x (by simp [hx])) (by omega)
          rw [i2, List.map_cons, outF]
          have hcl : (view0 l).cells.length ≤ ws.length := by show l.dropLast.length ≤ _; simp; omega
          have hsh : ¬ ((view0 l).shut = true ∧ c.flag 32 = true) := fun h => by have := h.1; simp [view0] at this
          rw [if_neg hsh, List.nil_append, List.append_assoc]
          congr 1
          · refine lineO_congr fun j hj => ?_
            rw [if_pos (by omega)]
          · congr 1
            refine outF_congr _ _ fun i x hx j hj => ?_
            by_cases h1 : j < ws.length
            · rw [if_pos h1, if_pos h1]
            · rw [if_neg h1, if_neg h1, Nat.add_sub_cancel_left, Nat.add_assoc, Nat.add_sub_cancel_left, Nat.add_comm 1 i]
              unfold Wd
              rw [blockL_tail]
              have : (view0 l).has ws.length = false := by rw [← has_pc]; exact h'
              exact has_mono' (by omega) this
/-- All lines of the writer. -/
theorem fmtAll_eq (LL : List (List SC)) (h : ∀ l ∈ LL, ∀ x ∈ l.dropLast, x.ok) : fmtAll c (allTexts LL) (pcL LL) = outF c (Wd c (LL.map view0)) LL.length 0 (LL.map view0) := by
  unfold fmtAll
  have hl : (pcL LL).length = LL.length := by simp [pcL]
  rw [hl, fmt_eq (c := c) (buf := allTexts LL) LL.length (cellsOf (pcL LL) + 1) LL.length [] LL 0 0 [] (Nat.le_refl _) (by simp) ?_ (by omega)]
  · simp
  · intro l hl
    refine ⟨h l hl, Nat.zero_le _, ?_⟩
    have := le_cellsOf (l := l.map toPC) (ls := pcL LL) (List.mem_map.2 ⟨l, hl, rfl⟩)
    simp at this ⊢
    omega
end
end Go.Proofs.YteildpeogbenbaaDoor
