/- What format writes; rows that are popped. -/
import Derived.Test.YteildpeogbenbaaDoorWj
namespace Go.Proofs.YteildpeogbenbaaDoor
open Go.RowKit Go.Tw Go.Sort

/-- A line has a cell of a column. -/
def has (col : Nat) (l : List PC) : Bool := decide (col + 1 < l.length)
/-- The lines from a up to b. -/
def seg {α : Type} (ls : List α) (a b : Nat) : List α := (ls.take b).drop a
def SZ (ls : List (List PC)) : Nat := (ls.map sizeOfCells).sum
@[simp] theorem SZ_append (a b : List (List PC)) : SZ (a ++ b) = SZ a + SZ b := by simp [SZ]
@[simp] theorem SZ_nil : SZ [] = 0 := rfl
@[simp] theorem SZ_cons (a : List PC) (b : List (List PC)) : SZ (a :: b) = sizeOfCells a + SZ b := by simp [SZ]

theorem seg_len {α : Type} {ls : List α} {a b : Nat} (hb : b ≤ ls.length) : (seg ls a b).length = b - a := by simp [seg]; omega
theorem seg_self {α : Type} (ls : List α) (a : Nat) : seg ls a a = [] := by simp [seg]
theorem seg_split {α : Type} {ls : List α} {a k b : Nat} (h1 : a ≤ k) (h2 : k ≤ b) (hb : b ≤ ls.length) : seg ls a b = seg ls a k ++ seg ls k b := by
  unfold seg
  have e1 : ls.take b = ls.take k ++ (ls.take b).drop k := by
    have := (List.take_append_drop k (ls.take b)).symm
    rwa [List.take_take, Nat.min_eq_left h2] at this
  conv => lhs; rw [e1]
  rw [List.drop_append_of_le_length (by simp; omega)]
theorem seg_one {α : Type} {ls : List α} {k : Nat} {l : α} (h : ls[k]? = some l) : seg ls k (k + 1) = [l] := by
  have hk := (List.getElem?_eq_some_iff.1 h).1
  unfold seg
  rw [List.take_add_one, h, List.drop_append_of_le_length (by simp; omega)]
  simp
theorem seg_cons {α : Type} {ls : List α} {k b : Nat} {l : α} (h : ls[k]? = some l) (hk : k < b) (hb : b ≤ ls.length) : seg ls k b = l :: seg ls (k + 1) b := by
  rw [seg_split (k := k + 1) (by omega) hk hb, seg_one h]; rfl
theorem seg_snoc {α : Type} {ls : List α} {a k : Nat} {l : α} (h : ls[k]? = some l) (hk : a ≤ k) : seg ls a (k + 1) = seg ls a k ++ [l] := by
  have := (List.getElem?_eq_some_iff.1 h).1
  rw [seg_split (k := k) hk (by omega) (by omega), seg_one h]
theorem seg_get {α : Type} {ls : List α} {a b i : Nat} (h : a + i < b) : (seg ls a b)[i]? = ls[a + i]? := by
  simp [seg, h]
theorem mem_seg {α : Type} {ls : List α} {a b : Nat} {l : α} (h : l ∈ seg ls a b) : ∃ i, a ≤ i ∧ i < b ∧ ls[i]? = some l := by
  obtain ⟨i, hi⟩ := List.mem_iff_getElem?.1 h
  have hl := (List.getElem?_eq_some_iff.1 hi).1
  have : a + i < b := by simp [seg] at hl; omega
  rw [seg_get this] at hi
  exact ⟨a + i, by omega, this, hi⟩
theorem mem_seg_of {α : Type} {ls : List α} {a b i : Nat} {l : α} (h : ls[i]? = some l) (h1 : a ≤ i) (h2 : i < b) : l ∈ seg ls a b := by
  refine List.mem_iff_getElem?.2 ⟨i - a, ?_⟩
  rw [seg_get (by omega), show a + (i - a) = i by omega]; exact h

theorem snocInd {α : Type} {P : List α → Prop} (h0 : P []) (h1 : ∀ b x, P b → P (b ++ [x])) (l : List α) : P l := by
  have : ∀ m : List α, P m.reverse := by
    intro m
    induction m with
    | nil => simpa using h0
    | cons x m ih => rw [List.reverse_cons]; exact h1 _ _ ih
  simpa using this l.reverse

def colM (c : Cfg) (col : Nat) (blk : List (List PC)) : Nat := blk.foldl (fun m l => max m ((l.getD col default).width.toNat + c.pd)) c.mn
def colD (col : Nat) (blk : List (List PC)) : Bool := blk.all fun l => !(decide (0 < (l.getD col default).width) || (l.getD col default).htab)
/-- The width of a column's block. -/
def colW (c : Cfg) (col : Nat) (blk : List (List PC)) : Nat := if colD col blk = true ∧ c.flag 8 = true then 0 else colM c col blk

/-- What format writes of lines, k the first one's number, at most d columns more. -/
def fmtL (c : Cfg) (buf : List UInt8) (n : Nat) : Nat → List Nat → Nat → Nat → List (List PC) → List UInt8
  | 0, _, _, _, _ => []
  | _ + 1, _, _, _, [] => []
  | d + 1, ws, k, pos, l :: rest =>
    if has ws.length l = true then
      fmtL c buf n d (ws ++ [colW c ws.length (l :: rest.takeWhile (has ws.length))]) k pos (l :: rest.takeWhile (has ws.length)) ++
      fmtL c buf n (d + 1) ws (k + (l :: rest.takeWhile (has ws.length)).length) (pos + SZ (l :: rest.takeWhile (has ws.length))) (rest.dropWhile (has ws.length))
    else linesOut c ws buf n k pos [l] ++ fmtL c buf n (d + 1) ws (k + 1) (pos + sizeOfCells l) rest
termination_by d _ _ _ ls => (d, ls.length)
decreasing_by
  all_goals simp_wf
  · exact Prod.Lex.left _ _ (by omega)
  · refine Prod.Lex.right _ ?_
    have := (List.dropWhile_sublist (has ws.length) (l := rest)).length_le
    omega
  · exact Prod.Lex.right _ (by omega)

variable {c : Cfg} {buf : List UInt8} {n d : Nat} {ws : List Nat}
@[simp] theorem fmtL_nil (k pos : Nat) : fmtL c buf n (d + 1) ws k pos [] = [] := by rw [fmtL]
theorem fmtL_no {l : List PC} {rest : List (List PC)} (k pos : Nat) (h : has ws.length l = false) : fmtL c buf n (d + 1) ws k pos (l :: rest) = linesOut c ws buf n k pos [l] ++ fmtL c buf n (d + 1) ws (k + 1) (pos + sizeOfCells l) rest := by
  rw [fmtL, if_neg (by rw [h]; simp)]
/-- A block. -/
theorem fmtL_blk {l : List PC} {b r : List (List PC)} (k pos : Nat) (hb : ∀ x ∈ l :: b, has ws.length x = true) (hr : ∀ x, r.head? = some x → has ws.length x = false) :
    fmtL c buf n (d + 1) ws k pos (l :: b ++ r) = fmtL c buf n d (ws ++ [colW c ws.length (l :: b)]) k pos (l :: b) ++ fmtL c buf n (d + 1) ws (k + (l :: b).length) (pos + SZ (l :: b)) r := by
  have e1 : (b ++ r).takeWhile (has ws.length) = b := by
    rw [List.takeWhile_append_of_pos (fun x hx => hb x (by simp [hx]))]
    cases r with
    | nil => simp
    | cons y r => rw [List.takeWhile_cons_of_neg (by rw [hr y rfl]; simp)]; simp
  have e2 : (b ++ r).dropWhile (has ws.length) = r := by
    rw [List.dropWhile_append_of_pos (fun x hx => hb x (by simp [hx]))]
    cases r with
    | nil => simp
    | cons y r => rw [List.dropWhile_cons_of_neg (by rw [hr y rfl]; simp)]
  rw [List.cons_append, fmtL, if_pos (hb l (by simp)), e1, e2]

theorem colM_snoc (col : Nat) (b : List (List PC)) (l : List PC) : colM c col (b ++ [l]) = max (colM c col b) ((l.getD col default).width.toNat + c.pd) := by simp [colM]
theorem colD_snoc (col : Nat) (b : List (List PC)) (l : List PC) : colD col (b ++ [l]) = (colD col b && !(decide (0 < (l.getD col default).width) || (l.getD col default).htab)) := by simp [colD]
theorem colM_le (col : Nat) (M : Nat) (hM : c.mn ≤ M) : ∀ (b : List (List PC)), (∀ l ∈ b, (l.getD col default).width.toNat + c.pd ≤ M) → colM c col b ≤ M := by
  refine snocInd (P := fun b => (∀ l ∈ b, (l.getD col default).width.toNat + c.pd ≤ M) → colM c col b ≤ M) ?_ ?_
  · intro _; simpa [colM] using hM
  · intro b l ih h
    rw [colM_snoc]
    have h1 := ih (fun x hx => h x (by simp [hx]))
    have h2 := h l (by simp)
    omega
theorem le_colM (col : Nat) : ∀ (b : List (List PC)) (l : List PC), l ∈ b → (l.getD col default).width.toNat + c.pd ≤ colM c col b := by
  refine snocInd (P := fun b => ∀ (l : List PC), l ∈ b → (l.getD col default).width.toNat + c.pd ≤ colM c col b) ?_ ?_
  · intro l h; simp at h
  · intro b x ih l h
    rw [colM_snoc]
    rcases List.mem_append.1 h with h | h
    · have := ih l h; omega
    · simp at h; subst h; omega
theorem colW_le (col : Nat) (M : Nat) (b : List (List PC)) (hM : c.mn ≤ M) (h : ∀ l ∈ b, (l.getD col default).width.toNat + c.pd ≤ M) : colW c col b ≤ M := by
  unfold colW
  split
  · omega
  · exact colM_le col M hM b h
theorem le_colW (col : Nat) (b : List (List PC)) (l : List PC) (h : l ∈ b) : (l.getD col default).width ≤ colW c col b := by
  unfold colW
  split
  · rename_i h0
    have := List.all_eq_true.1 h0.1 l h
    simp only [Bool.not_eq_true', Bool.or_eq_false_iff, decide_eq_false_iff_not] at this
    omega
  · have := le_colM (c := c) col b l h
    omega
end Go.Proofs.YteildpeogbenbaaDoor

namespace Go.Proofs.YteildpeogbenbaaDoor
open Go.RowKit Go.Tw Go.Sort
set_option maxRecDepth 100000
section
variable {F : Nat → Prop} {w : World} {B S : Nat} {c : Cfg} {s : St}

theorem Own.pop {e : TypeId} {ao : Option Addr} {n cp : Nat} {xs : List Value} {x : Value} (h : Own F w e 1 (.slice ao (n + 1) cp) (n + 1) (xs ++ [x])) : Own F w e 1 (.slice ao n cp) n xs := by
  have hl := h.row.1
  simp at hl
  refine ⟨⟨by simp [hl], ?_⟩, fun x hx => h.mem x (by cases ao <;> exact hx)⟩
  rcases h.row.2 with ⟨_, h0⟩ | ⟨g, cap', cur, e, hb, hg, hc, hm, hs, htk⟩
  · omega
  · simp only [Value.slice.injEq] at e
    obtain ⟨rfl, _, rfl⟩ := e
    refine .inr ⟨g, cp, cur, rfl, hb, hg, by omega, hm, hs, ?_⟩
    have := congrArg (List.take n) htk
    rw [List.take_take, Nat.min_eq_left (by omega)] at this
    rw [Nat.mul_one, this, List.take_append_of_le_length (by omega), List.take_of_length_le (by omega)]

theorem Parts.wdsGrown {w' : World} {bufv lv wv ov : Value} {vs : List Value} {room : Int} {bf ot : List UInt8} {ls : List (List PC)} {ws : List Nat} (h : Parts F w S room bf ls ws ot bufv lv wv ov vs) {v' : Value} {x : Nat} {n : Nat} {xs : List Value} (hown : Own F w' 3 1 v' n xs) (hn : n = ws.length + 1) (hx : xs = ivs ws ++ [.int .i64 x]) (hg : w.grownBy w' wv.ownBlock) :
    Parts F w' S room bf ls (ws ++ [x]) ot bufv lv v' ov vs := by
  subst hn hx
  have t : Tch (fun k => wv.ownBlock = some k) w w' := Tch.grown hg (fun k e => e)
  have no : ∀ {k : Nat} {cs : Array Value} {T : TypeId} {fr : Nat × Nat}, w.heap[k]? = some (.cells cs T fr) → T ≠ 3 → ¬ (wv.ownBlock = some k) := fun hk hT => h.wds.ne hk hT
  refine ⟨h.buf.kept t (fun g hg => no (h.buf.block hg).choose_spec (by decide)), h.lines.kept t (fun L hL => no (h.lines.blockL hL).1 (by decide)) (fun i v g hv hg => no (h.lines.blockR hv hg).1.choose_spec (by decide)), by simpa [ivs] using hown, t.heap h.sink (no h.sink (by decide)), h.FS, h.out.kept t (fun g hg => no (h.out.block hg).choose_spec (by decide)), h.ne, h.fits⟩
theorem Parts.withWds {bufv lv wv ov : Value} {vs : List Value} {room : Int} {bf ot : List UInt8} {ls : List (List PC)} {ws : List Nat} (h : Parts F w S room bf ls ws ot bufv lv wv ov vs) {wv' : Value} {ws' : List Nat} (hown : Own F w 3 1 wv' ws'.length (ivs ws')) :
    Parts F w S room bf ls ws' ot bufv lv wv' ov vs := ⟨h.buf, h.lines, hown, h.sink, h.FS, h.out, h.ne, h.fits⟩

/-- A line, read. -/
theorem Rep.line (h : Rep F w B S c s) {k : Nat} {l : List PC} (hk : s.lines[k]? = some l) : ∃ L al cl cv, w.cell? ⟨B, 19, none⟩ = some (.slice (some ⟨L, 0, none⟩) s.lines.length cv) ∧ w.cell? ⟨L, k, none⟩ = some (.slice al l.length cl) ∧ l.length ≤ 9223372036854775807 ∧
    ∀ (j : Nat) (p : PC), l[j]? = some p → ∃ g, al = some ⟨g, 0, none⟩ ∧ w.cell? ⟨g, j * 3, none⟩ = some (.int .i64 p.size) ∧ w.cell? ⟨g, j * 3 + 1, none⟩ = some (.int .i64 p.width) ∧ w.cell? ⟨g, j * 3 + 2, none⟩ = some (.bool p.htab) := by
  obtain ⟨bufv, lv, wv, ov, vs, h⟩ := h
  have hkl := (List.getElem?_eq_some_iff.1 hk).1
  have hle := h.parts.lines.le
  obtain ⟨L, hlv, hLb⟩ : ∃ L, lv = .slice (some ⟨L, 0, none⟩) s.lines.length vs.length ∧ w.heap[L]? = some (.cells vs.toArray 100 (0, 0)) := by
    rcases h.parts.lines.val with ⟨_, rfl⟩ | ⟨L, e, _, h2, _⟩
    · have : s.lines.length ≤ 0 := hle
      omega
    · exact ⟨L, e, h2⟩
  obtain ⟨v, hv⟩ : ∃ v, vs[k]? = some v := ⟨vs[k], by simp⟩
  obtain ⟨n, xs, hown, hnx⟩ := h.parts.lines.row k v hv
  obtain ⟨hn, hx⟩ := hnx l hk
  subst hn hx
  obtain ⟨al, cl, rfl⟩ := hown.shape
  have c19 : w.cell? ⟨B, 19, none⟩ = some (.slice (some ⟨L, 0, none⟩) s.lines.length vs.length) := by rw [← hlv]; exact cell_of_blk h.blk 19
  have cL : w.cell? ⟨L, k, none⟩ = some (.slice al l.length cl) := by rw [cell_of_blk hLb]; simpa using hv
  refine ⟨L, al, cl, vs.length, c19, cL, ?_, ?_⟩
  · rcases hown.row.2 with ⟨_, h0⟩ | ⟨g, cap, cur, e, _, hg, hc, hm, _⟩
    · omega
    · unfold maxLen at hm; omega
  · intro j p hp
    have hjl := (List.getElem?_eq_some_iff.1 hp).1
    rcases hown.row.2 with ⟨e, h0⟩ | ⟨g, cap, cur, e, _, hg, hc, hm, hs, htk⟩
    · omega
    · simp only [Value.slice.injEq] at e
      obtain ⟨rfl, e2, _⟩ := e
      have hcell : ∀ i, i < l.length * 3 → w.cell? ⟨g, i, none⟩ = (pcs l)[i]? := by
        intro i hi
        rw [cell_of_blk hg, ← htk, List.getElem?_take, if_pos (by omega)]
        simp
      have hpc : ∀ i, i < 3 → (pcs l)[j * 3 + i]? = (PC.vals p)[i]? := fun i hi => pcs_get hp i hi
      refine ⟨g, rfl, ?_, ?_, ?_⟩
      · rw [hcell _ (by omega)]; have := hpc 0 (by omega); simpa [PC.vals] using this
      · rw [hcell _ (by omega)]; have := hpc 1 (by omega); simpa [PC.vals] using this
      · rw [hcell _ (by omega)]; have := hpc 2 (by omega); simpa [PC.vals] using this

theorem Rep.conf (h : Rep F w B S c s) : w.cell? ⟨B, 1, none⟩ = some (.int .i64 c.mn) ∧ w.cell? ⟨B, 3, none⟩ = some (.int .i64 c.pd) ∧ w.cell? ⟨B, 12, none⟩ = some (.int .u64 c.fl) ∧ B < w.heap.size := by
  obtain ⟨bufv, lv, wv, ov, vs, h⟩ := h
  exact ⟨cell_of_blk h.blk 1, cell_of_blk h.blk 3, cell_of_blk h.blk 12, lt_of_heap h.blk⟩

/-- What must hold of the writer while it formats. -/
structure Fine (c : Cfg) (s : St) (l0 l1 : Nat) : Prop where
  cs : s.csize = 0
  le : l0 ≤ l1
  lel : l1 ≤ s.lines.length
  few : s.lines.length ≤ 1000000000000
  tb : c.tb ≤ 1000000
  pd : c.pd ≤ 1000000
  mn : c.mn ≤ 1000000
  ws : ∀ i, s.ws.getD i 0 ≤ 1000000000000
  wn : s.ws.length ≤ 1000000000000
  cols : ∀ l ∈ s.lines, ∀ (i : Nat) (p : PC), l[i]? = some p → i + 1 < l.length → 0 ≤ p.width ∧ p.width ≤ 100000000000
  fit : ∀ l ∈ seg s.lines l0 l1, ∀ (i : Nat) (p : PC), l[i]? = some p → i < s.ws.length → 0 ≤ p.width ∧ p.width ≤ s.ws.getD i 0
  len : ∀ l ∈ s.lines, l.length ≤ 1000000000000

theorem writeLines_rep (hF : Env F w) (hrep : Rep F w B S c s) (p0 l0 l1 : Nat) (hf : Fine c s l0 l1) (hsz : p0 + SZ (seg s.lines l0 l1) ≤ s.buf.length) (hob : (s.out ++ linesOut c s.ws s.buf s.lines.length l0 p0 (seg s.lines l0 l1)).length ≤ 130000000000000) :
    Calls Tryd.prog 53 #[.pointer (some ⟨B, 0, none⟩), .int .i64 p0, .int .i64 l0, .int .i64 l1] w fun e w' => (e = .returned (.int .i64 (p0 + SZ (seg s.lines l0 l1) : Nat)) ∧ Rep F w' B S c { s with out := s.out ++ linesOut c s.ws s.buf s.lines.length l0 p0 (seg s.lines l0 l1) } ∧ Tch F w w') ∨ Stop F F w B S c (s.out ++ linesOut c s.ws s.buf s.lines.length l0 p0 (seg s.lines l0 l1)) e w' := by
  obtain ⟨bufv, lv, wv, ov, vs, h⟩ := hrep
  have hmem : ∀ k, (k = S ∨ ov.ownBlock = some k ∨ w.heap.size ≤ k) → F k := by
    rintro k (rfl | e | e)
    · exact h.parts.FS
    · exact h.parts.out.mem k e
    · exact hF.new k e
  refine (writeLines_calls (G := fun k => k = S ∨ ov.ownBlock = some k ∨ w.heap.size ≤ k) hF h ⟨.inl rfl, fun g hg => .inr (.inl hg), fun k hk => .inr (.inr hk), fun h => hF.out (hmem _ h)⟩ ?_ hf.cs p0 l0 l1 hf.le hf.lel hf.few hsz hob hf.tb hf.ws ?_).mono ?_
  · rintro k _ hk (e | e | e)
    · exact .inl e
    · exact .inr e
    · omega
  · intro k l h1 h2 h3 i p hp hi
    exact hf.fit l (mem_seg_of h3 h1 h2) i p hp hi
  · rintro e w' (⟨he, ov', hr, t, _⟩ | hE)
    · exact .inl ⟨he, ⟨_, _, _, _, _, hr⟩, t.mono hmem⟩
    · exact .inr (hE.up (Tch.refl _ _) (fun k _ h => hmem k h) [] (List.append_nil _))
end
end Go.Proofs.YteildpeogbenbaaDoor
