/- Walks: format at any depth; the states that the writer goes through; flushNoDefers. -/
import Derived.Test.YteildpeogbenbaaDoorWm
namespace Go.Proofs.YteildpeogbenbaaDoor
open Go.RowKit Go.Tw Go.Sort
set_option maxRecDepth 100000

def cellsOf (ls : List (List PC)) : Nat := (ls.map List.length).sum
theorem le_cellsOf {ls : List (List PC)} {l : List PC} (h : l ∈ ls) : l.length ≤ cellsOf ls := by
  induction ls with
  | nil => simp at h
  | cons x ls ih =>
    simp only [cellsOf, List.map_cons, List.sum_cons] at ih ⊢
    rcases List.mem_cons.1 h with rfl | h
    · omega
    · have := ih h; omega
@[simp] theorem cellsOf_append (a b : List (List PC)) : cellsOf (a ++ b) = cellsOf a + cellsOf b := by simp [cellsOf]
@[simp] theorem cellsOf_cons (a : List PC) (b : List (List PC)) : cellsOf (a :: b) = a.length + cellsOf b := by simp [cellsOf]
@[simp] theorem cellsOf_nil : cellsOf [] = 0 := rfl

/-- All lines, formatted. -/
def fmtAll (c : Cfg) (buf : List UInt8) (ls : List (List PC)) : List UInt8 := fmtL c buf ls.length (cellsOf ls + 1) [] 0 0 ls

/-- How long formatted lines may be, P for each cell. -/
theorem padB_le (c : Cfg) (tw cl : Nat) (ut : Bool) : (padB c tw cl ut).length ≤ cl + 2 * c.tb := by
  unfold padB
  split
  · split
    · simp
    · rename_i h0
      rw [List.length_replicate]
      have h1 : (cl + c.tb - 1) / c.tb * c.tb ≤ cl + c.tb - 1 := Nat.div_mul_le_self _ _
      exact Nat.le_trans (Nat.div_le_self _ _) (by omega)
  · simp; omega
theorem cellOut_le (c : Cfg) (ws : List Nat) (buf : List UInt8) (j pos : Nat) (ut : Bool) (p : PC) (P : Nat) (hP : ∀ i, ws.getD i 0 + 2 * c.tb + 1 ≤ P) : (cellOut c ws buf j pos ut p).length ≤ p.size + P := by
  unfold cellOut
  have h0 := hP j
  have h1 : ∀ u, (padB c p.width.toNat (ws.getD j 0) u).length ≤ ws.getD j 0 + 2 * c.tb := fun u => padB_le c _ _ u
  have h2 : ((buf.drop pos).take p.size).length ≤ p.size := by simp; omega
  have hb : ∀ b : Prop, [Decidable b] → (if b then [124] else [] : List UInt8).length ≤ 1 := by intro b _; split <;> simp
  have hb1 := hb (0 < j ∧ c.flag 32 = true)
  have hp : ∀ u, (if j < ws.length then padB c p.width.toNat (ws.getD j 0) u else []).length ≤ ws.getD j 0 + 2 * c.tb := by
    intro u; split
    · exact h1 u
    · simp
  rw [List.length_append]
  revert hb1
  generalize (if 0 < j ∧ c.flag 32 = true then [124] else [] : List UInt8) = br
  intro hb1
  split
  · have := hp ut; omega
  · split
    · rw [List.length_append]; have := hp false; omega
    · rw [List.length_append]; have := hp false; omega
theorem cellsOut_le (c : Cfg) (ws : List Nat) (buf : List UInt8) (P : Nat) (hP : ∀ i, ws.getD i 0 + 2 * c.tb + 1 ≤ P) : ∀ (l : List PC) (j pos : Nat) (ut : Bool), (cellsOut c ws buf j pos ut l).length ≤ sizeOfCells l + l.length * P := by
  intro l
  induction l with
  | nil => intro j pos ut; simp [cellsOut]
  | cons p l ih =>
    intro j pos ut
    simp only [cellsOut, List.length_append, List.length_cons, sizeOfCells, List.map_cons, List.sum_cons] at ih ⊢
    have h1 := cellOut_le c ws buf j pos ut p P hP
    have h2 := ih (j + 1) (pos + p.size) (ut && p.size == 0)
    rw [Nat.succ_mul]
    omega
theorem linesOut_le (c : Cfg) (ws : List Nat) (buf : List UInt8) (n P : Nat) (hP : ∀ i, ws.getD i 0 + 2 * c.tb + 1 ≤ P) : ∀ (ls : List (List PC)) (k pos : Nat), (linesOut c ws buf n k pos ls).length ≤ SZ ls + cellsOf ls * P + ls.length := by
  intro ls
  induction ls with
  | nil => intro k pos; simp [linesOut]
  | cons l ls ih =>
    intro k pos
    simp only [linesOut, List.length_append, List.length_cons, SZ_cons, cellsOf_cons]
    have h1 := cellsOut_le c ws buf P hP l 0 pos (c.flag 16)
    have h2 := ih (k + 1) (pos + sizeOfCells l)
    have h3 : (if k + 1 = n then [] else [10] : List UInt8).length ≤ 1 := by split <;> simp
    rw [Nat.add_mul]
    omega
theorem fmtL_le (c : Cfg) (buf : List UInt8) (n P M : Nat) (hM : M + 2 * c.tb + 1 ≤ P) (hmn : c.mn ≤ M) : ∀ (d : Nat) (ws : List Nat) (k pos : Nat) (ls : List (List PC)), (∀ i, ws.getD i 0 ≤ M) → (∀ l ∈ ls, ∀ (i : Nat) (p : PC), l[i]? = some p → i + 1 < l.length → p.width.toNat + c.pd ≤ M) →
    (fmtL c buf n d ws k pos ls).length ≤ SZ ls + cellsOf ls * P + ls.length := by
  intro d ws k pos ls
  induction d, ws, k, pos, ls using fmtL.induct (c := c) with
  | case1 => intro _ _; simp [fmtL]
  | case2 => intro _ _; simp
  | case3 d ws k pos l rest h ih1 ih2 =>
    intro hw hl
    rw [fmtL, if_pos h, List.length_append]
    have hsub : ∀ x ∈ l :: rest.takeWhile (has ws.length), x ∈ l :: rest ∧ has ws.length x = true := by
      intro x hx
      rcases List.mem_cons.1 hx with rfl | hx
      · exact ⟨by simp, h⟩
      · exact ⟨List.mem_cons_of_mem _ ((List.takeWhile_sublist _).subset hx), by have := List.all_takeWhile (l := rest) (p := has ws.length); exact List.all_eq_true.1 this x hx⟩
    have hcw : colW c ws.length (l :: rest.takeWhile (has ws.length)) ≤ M := by
      refine colW_le _ _ _ hmn ?_
      intro x hx
      obtain ⟨h1, h2⟩ := hsub x hx
      simp only [has, decide_eq_true_eq] at h2
      have e : x.getD ws.length default = x[ws.length] := by rw [List.getD_eq_getElem?_getD, List.getElem?_eq_getElem (by omega)]; rfl
      rw [e]
      exact hl x h1 ws.length _ (List.getElem?_eq_getElem (by omega)) h2
    have i1 := ih1 (by
      intro i
      simp only [List.getD_eq_getElem?_getD]
      rcases Nat.lt_trichotomy i ws.length with h | h | h
      · rw [List.getElem?_append_left h, ← List.getD_eq_getElem?_getD]; exact hw i
      · subst h; simp; omega
      · rw [List.getElem?_eq_none (by simp; omega)]; simp) (fun x hx => hl x (hsub x hx).1)
    have i2 := ih2 hw (fun x hx => hl x (List.mem_cons_of_mem _ ((List.dropWhile_sublist _).subset hx)))
    have e : l :: rest = (l :: rest.takeWhile (has ws.length)) ++ rest.dropWhile (has ws.length) := by simp
    have e1 : SZ (l :: rest) = SZ (l :: rest.takeWhile (has ws.length)) + SZ (rest.dropWhile (has ws.length)) := by rw [← SZ_append, ← e]
    have e2 : cellsOf (l :: rest) = cellsOf (l :: rest.takeWhile (has ws.length)) + cellsOf (rest.dropWhile (has ws.length)) := by rw [← cellsOf_append, ← e]
    have e3 : (l :: rest).length = (l :: rest.takeWhile (has ws.length)).length + (rest.dropWhile (has ws.length)).length := by rw [← List.length_append, ← e]
    rw [e1, e2, e3, Nat.add_mul]
    omega
  | case4 d ws k pos l rest h ih =>
    intro hw hl
    rw [fmtL, if_neg h, List.length_append]
    have h1 := linesOut_le c ws buf n P (fun i => by have := hw i; omega) [l] k pos
    have h2 := ih hw (fun x hx => hl x (List.mem_cons_of_mem _ hx))
    simp only [SZ_cons, SZ_nil, cellsOf_cons, cellsOf_nil, List.length_cons, List.length_nil, Nat.add_zero] at h1 ⊢
    rw [Nat.add_mul]
    omega

section
variable {F : Nat → Prop} {w : World} {B S : Nat} {c : Cfg} {s : St}

theorem format_ih (d : Nat) : ∀ (w : World) (s : St) (p0 l0 l1 : Nat), Env F w → Rep F w B S c s → Fine c s l0 l1 → p0 + SZ (seg s.lines l0 l1) ≤ s.buf.length → (∀ l ∈ seg s.lines l0 l1, s.ws.length < l.length ∧ l.length ≤ s.ws.length + d) → l0 < l1 →
      (s.out ++ fmtL c s.buf s.lines.length d s.ws l0 p0 (seg s.lines l0 l1)).length ≤ 130000000000000 →
      Calls Tryd.prog 51 #[.pointer (some ⟨B, 0, none⟩), .int .i64 p0, .int .i64 l0, .int .i64 l1] w (FmtPost F w B S c s d p0 l0 l1) := by
  induction d with
  | zero =>
    intro w s p0 l0 l1 _ _ hf _ hl h0 _
    have := hf.lel
    obtain ⟨l, hl0⟩ : ∃ l, s.lines[l0]? = some l := ⟨s.lines[l0], List.getElem?_eq_getElem (by omega)⟩
    have := hl l (mem_seg_of hl0 (Nat.le_refl _) h0)
    omega
  | succ d ih =>
    intro w s p0 l0 l1 hF hr hf hs hl h0 ho
    exact format_step d ih hF hr p0 l0 l1 hf hs (fun l h => (hl l h).2) ho

theorem format_all (hF : Env F w) (hr : Rep F w B S c s) (hw : s.ws = []) (hf : Fine c s 0 s.lines.length) (hs : SZ s.lines ≤ s.buf.length) (ho : (s.out ++ fmtAll c s.buf s.lines).length ≤ 130000000000000) :
    Calls Tryd.prog 51 #[.pointer (some ⟨B, 0, none⟩), .int .i64 0, .int .i64 0, .int .i64 s.lines.length] w fun e w' => (e = .returned (.int .i64 (SZ s.lines : Nat)) ∧ Rep F w' B S c { s with out := s.out ++ fmtAll c s.buf s.lines } ∧ Tch F w w') ∨ Stop F F w B S c (s.out ++ fmtAll c s.buf s.lines) e w' := by
  have e : seg s.lines 0 s.lines.length = s.lines := by simp [seg]
  have := format_step (cellsOf s.lines) (format_ih _) hF hr 0 0 s.lines.length hf (by rw [e]; omega) (by
    intro l hl
    rw [e] at hl
    have := le_cellsOf hl
    omega) (by rw [e, hw]; exact ho)
  unfold FmtPost at this
  rw [e, hw, Nat.zero_add] at this
  refine this.mono ?_
  rintro e w' (⟨h1, h2, h3⟩ | hE)
  rotate_left
  · exact .inr hE
  refine .inl ⟨h1, ?_, h3⟩
  obtain ⟨buf, pos, csize, cw, en, lines, ws, out⟩ := s
  simp only at hw
  subst hw
  exact h2
end
end Go.Proofs.YteildpeogbenbaaDoor
