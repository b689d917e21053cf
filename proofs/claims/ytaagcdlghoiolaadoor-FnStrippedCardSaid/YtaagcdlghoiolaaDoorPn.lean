/- Plain law: stripped output is the other one without the escapes. -/
import Derived.Test.YtaagcdlghoiolaaDoorPj
namespace Go.Proofs.YtaagcdlghoiolaaDoor
open Go.RowKit Go.Tw Go.Sort

def stp (z : SC) : SC := { z with text := z.text.filter (· != 255) }
def stpL (l : Ln) : Ln := ⟨l.cells.map stp, l.last.filter (· != 255), l.shut⟩
section
variable {c d : Cfg}
theorem no255 {l : List UInt8} (h : ∀ b ∈ l, b ≠ 255) : l.filter (· != 255) = l := by
  rw [List.filter_eq_self]
  intro b hb
  simpa using h b hb
theorem cells_stp (h1 : c.flag 1 = false) (h1' : d.flag 1 = false) (h2 : c.flag 2 = true) (h2' : d.flag 2 = false) (n : Nat) : ∀ (s : List UInt8), s.length ≤ n → ∀ (x : SC) (pl : List UInt8), (∀ b ∈ pl, b ≠ 255) → cellsGo c (stp x) pl s = (cellsGo d x pl s).map stp := by
  have hnil : ∀ (x : SC) (pl : List UInt8), (∀ b ∈ pl, b ≠ 255) → cellsGo c (stp x) pl [] = (cellsGo d x pl []).map stp := by
    intro x pl hpl
    rw [cellsGo, cellsGo]
    simp [stp, List.filter_append, no255 hpl]
  have e0 : ∀ b : UInt8, b ≠ 255 → endOf c b = 0 ∧ endOf d b = 0 := fun b hb => by unfold endOf; simp [hb, h1, h1']
  have e1 : endOf c 255 = 255 ∧ endOf d 255 = 255 := by unfold endOf; simp
  induction n with
  | zero =>
    intro s hs
    obtain rfl : s = [] := List.length_eq_zero_iff.1 (by omega)
    exact hnil
  | succ n ih =>
    intro s hs
    cases s with
    | nil => exact hnil
    | cons b t =>
      simp only [List.length_cons] at hs
      intro x pl hpl
      by_cases hb : b = 255
      · subst hb
        rw [cellsGo, cellsGo, e1.1, e1.2, if_pos (by decide), if_pos (by decide)]
        have hlen := (List.dropWhile_sublist (fun x => x != (255 : UInt8)) (l := t)).length_le
        rw [← ih _ (by simp only [List.length_drop]; omega) _ _ (by simp)]
        congr 1
        have hin : ∀ y ∈ t.takeWhile (· != 255), y ≠ 255 := fun y hy => by simpa using (List.all_eq_true.1 (List.all_takeWhile (p := fun x => x != (255 : UInt8)) (l := t)) y hy)
        unfold passT stp
        rw [h2, h2', e1.2]
        simp only [List.filter_append, no255 hpl]
        rw [if_pos (by simp), if_neg (by simp)]
        have e : (255 :: (t.takeWhile (· != 255) ++ if (!(t.dropWhile (· != 255)).isEmpty) = true then [(255 : UInt8)] else [])).filter (· != 255) = t.takeWhile (· != 255) := by
          rw [List.filter_cons_of_neg (by simp), List.filter_append, no255 hin]
          split <;> simp
        rw [e]
      · have z1 : ¬ (endOf c b ≠ 0) := by rw [(e0 b hb).1]; simp
        have z2 : ¬ (endOf d b ≠ 0) := by rw [(e0 b hb).2]; simp
        rw [cellsGo, cellsGo, if_neg z1, if_neg z2]
        by_cases hk : brk b = true
        · rw [if_pos hk, if_pos hk, List.map_cons]
          have := ih t (by omega) ⟨[], 0, 0⟩ [] (by simp)
          rw [show stp ⟨[], 0, 0⟩ = ⟨[], 0, 0⟩ from rfl] at this
          rw [this]
          simp [stp, List.filter_append, no255 hpl]
        · rw [if_neg hk, if_neg hk]
          refine ih t (by omega) x _ fun y hy => ?_
          rcases List.mem_append.1 hy with h | h
          · exact hpl y h
          · simp at h; subst h; exact hb
theorem linesGo_stp : ∀ (l cur : List SC), linesGo (cur.map stp) (l.map stp) = (linesGo cur l).map (·.map stp) := by
  intro l
  induction l with
  | nil => intro cur; rfl
  | cons x l ih =>
    intro cur
    have et : (stp x).tabbed = x.tabbed := rfl
    simp only [List.map_cons, linesGo, et]
    have e : cur.map stp ++ [stp x] = (cur ++ [x]).map stp := by simp
    split
    · rw [e, ih]
    · have := ih []
      rw [List.map_nil] at this
      rw [List.map_cons, this, e]
theorem view_stp (l : List SC) : view (l.map stp) = stpL (view l) := by
  unfold view stpL
  have h1 : (l.map stp).dropLast = l.dropLast.map stp := by rw [List.map_dropLast]
  rw [h1, List.getLast?_map]
  cases l.getLast? with
  | none => rfl
  | some y => rfl
theorem fwd_stp (j : Nat) : ∀ M : List Ln, fwd j (M.map stpL) = (fwd j M).map stpL := by
  intro M
  induction M with
  | nil => rfl
  | cons l M ih =>
    have e1 : (stpL l).has j = l.has j := by simp [Ln.has, stpL]
    have e2 : (stpL l).shut = l.shut := rfl
    simp only [List.map_cons, fwd, e1, e2]
    split
    · split
      · rfl
      · rw [ih]; rfl
    · rfl
theorem blockL_stp (M : List Ln) (i j : Nat) : blockL (M.map stpL) i j = (blockL M i j).map stpL := by
  unfold blockL
  have h1 : ((M.map stpL).take i).reverse.takeWhile (fun l => l.has j && !l.shut) = ((M.take i).reverse.takeWhile (fun l => l.has j && !l.shut)).map stpL := by
    rw [← List.map_take, ← List.map_reverse, List.takeWhile_map]
    congr 1
    congr 1
    funext l
    simp [Ln.has, stpL]
  rw [h1, ← List.map_drop, fwd_stp, List.map_append, List.map_reverse]
theorem getD_stp (l : List SC) (j : Nat) : ((l.map stp).getD j default).width = (l.getD j default).width ∧ ((l.map stp).getD j default).fin = (l.getD j default).fin := by
  simp only [List.getD_eq_getElem?_getD, List.getElem?_map]
  cases l[j]? <;> exact ⟨rfl, rfl⟩
theorem Wd_stp (h : Alike c d) (h8 : c.flag 8 = d.flag 8) (M : List Ln) (i j : Nat) : Wd c (M.map stpL) i j = Wd d M i j := by
  unfold Wd cW
  have e : ((blockL M i j).map stpL).map (·.cells) = ((blockL M i j).map (·.cells)).map (·.map stp) := by
    simp [stpL, List.map_map, Function.comp_def]
  rw [h8, blockL_stp, e]
  have hD : cD j (((blockL M i j).map (·.cells)).map (·.map stp)) = cD j ((blockL M i j).map (·.cells)) := by
    unfold cD
    rw [List.all_map]
    congr 1
    funext l
    simp only [Function.comp_def, (getD_stp l j).1, (getD_stp l j).2]
  have hM : ∀ (b : List (List SC)), cM c j (b.map (·.map stp)) = cM d j b := by
    intro b
    unfold cM
    rw [h.mn, h.pd, List.foldl_map]
    simp only [(getD_stp _ j).1]
  rw [hD, hM]
theorem cellsO_stp (h : Alike c d) (h4 : c.flag 4 = d.flag 4) (h32 : c.flag 32 = false) (h32' : d.flag 32 = false) (h9 : c.ch ≠ 9) (hch : c.ch ≠ 255) (f : Nat → Nat) : ∀ (l : List SC) (j : Nat), (cellsO d f j false l).filter (· != 255) = cellsO c f j false (l.map stp) := by
  intro l
  induction l with
  | nil => intro j; rfl
  | cons x l ih =>
    intro j
    have hb : barB d j = [] := by unfold barB; rw [if_neg (fun h => by rw [h32'] at h; exact absurd h.2 (by simp))]
    have hb2 : barB c j = [] := by unfold barB; rw [if_neg (fun h => by rw [h32] at h; exact absurd h.2 (by simp))]
    have hp : ∀ W, (putB d x.text (padB d x.width.toNat W false)).filter (· != 255) = putB c (x.text.filter (· != 255)) (padB c x.width.toNat W false) := by
      intro W
      rw [padB_alike h]
      have hpad : (padB d x.width.toNat W false).filter (· != 255) = padB d x.width.toNat W false := no255 fun b hb => by
        rcases mem_padB hb with rfl | ⟨_, h⟩
        · rw [← h.ch]; exact hch
        · cases h
      unfold putB
      rw [h4]
      split <;> rw [List.filter_append, hpad]
    have _ := h9
    simp only [List.map_cons, cellsO, Bool.false_and, hb, hb2, List.nil_append, List.filter_append, hp, ih]
    rfl
theorem outF_stp (h : Alike c d) (h4 : c.flag 4 = d.flag 4) (h16 : c.flag 16 = false) (h16' : d.flag 16 = false) (h32 : c.flag 32 = false) (h32' : d.flag 32 = false) (h9 : c.ch ≠ 9) (hch : c.ch ≠ 255) (f : Nat → Nat → Nat) (n : Nat) : ∀ (M : List Ln) (k : Nat), (outF d f n k M).filter (· != 255) = outF c f n k (M.map stpL) := by
  intro M
  induction M with
  | nil => intro k; rfl
  | cons l M ih =>
    intro k
    have hb : ∀ i, barB d i = [] := fun i => by unfold barB; rw [if_neg (fun h => by rw [h32'] at h; exact absurd h.2 (by simp))]
    have hb2 : ∀ i, barB c i = [] := fun i => by unfold barB; rw [if_neg (fun h => by rw [h32] at h; exact absurd h.2 (by simp))]
    have e1 : (lineO d (f k) l).filter (· != 255) = lineO c (f k) (stpL l) := by
      unfold lineO
      rw [h16, h16', hb, hb2, List.filter_append, cellsO_stp h h4 h32 h32' h9 hch]
      rfl
    have hn : (if k + 1 = n then ([] : List UInt8) else [10]).filter (· != 255) = if k + 1 = n then [] else [10] := by split <;> rfl
    have s1 : ¬ (l.shut = true ∧ d.flag 32 = true) := fun h => by rw [h32'] at h; exact absurd h.2 (by simp)
    have s2 : ¬ ((stpL l).shut = true ∧ c.flag 32 = true) := fun h => by rw [h32] at h; exact absurd h.2 (by simp)
    rw [List.map_cons, outF, outF, if_neg s1, if_neg s2]
    simp only [List.nil_append, List.filter_append, e1, hn, ih]
/-- Stripped output is the other one without the escapes. -/
theorem format_stripped (h : Alike c d) (h1 : c.flag 1 = false) (h1' : d.flag 1 = false) (h2 : c.flag 2 = true) (h2' : d.flag 2 = false) (h4 : c.flag 4 = d.flag 4) (h8 : c.flag 8 = d.flag 8) (h16 : c.flag 16 = false) (h16' : d.flag 16 = false) (h32 : c.flag 32 = false) (h32' : d.flag 32 = false) (h9 : c.ch ≠ 9) (hch : c.ch ≠ 255) (s : List UInt8)
    (ho : opn (cellsGo c ⟨[], 0, 0⟩ [] s) = false) (ho' : opn (cellsGo d ⟨[], 0, 0⟩ [] s) = false) : (formatO d s).filter (· != 255) = formatO c s := by
  unfold formatO specOut
  have e := cells_stp h1 h1' h2 h2' s.length s (Nat.le_refl _) ⟨[], 0, 0⟩ [] (by simp)
  rw [show stp ⟨[], 0, 0⟩ = ⟨[], 0, 0⟩ from rfl] at e
  have eL := linesGo_stp (cellsGo d ⟨[], 0, 0⟩ [] s) []
  rw [List.map_nil, ← e] at eL
  rw [endViews_open, endViews_open, if_neg (by rw [ho']; simp), if_neg (by rw [ho]; simp), eL, outF_stp h h4 h16 h16' h32 h32' h9 hch]
  have eM : ((linesGo [] (cellsGo d ⟨[], 0, 0⟩ [] s)).map (·.map stp)).map view = ((linesGo [] (cellsGo d ⟨[], 0, 0⟩ [] s)).map view).map stpL := by
    rw [List.map_map, List.map_map]
    congr 1
    funext l
    exact view_stp l
  rw [eM, List.length_map, List.length_map, List.length_map]
  congr 1
  funext i j
  rw [Wd_stp h h8]
end
end Go.Proofs.YtaagcdlghoiolaaDoor
