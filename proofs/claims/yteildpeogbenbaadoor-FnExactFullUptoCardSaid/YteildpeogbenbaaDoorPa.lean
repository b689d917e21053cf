/- Plain laws: an escaped text, a tag. -/
import Derived.Test.YteildpeogbenbaaDoorSb
namespace Go.Proofs.YteildpeogbenbaaDoor
open Go.RowKit Go.Tw Go.Sort
section
variable {c : Cfg}

theorem fmt_one (buf : List UInt8) (p : PC) (hp : p.size = buf.length) : fmtAll c buf [[p]] = buf := by
  have h : has ([] : List Nat).length [p] = false := by simp [has]
  have e : cellsOf [[p]] + 1 = 1 + 1 := rfl
  rw [fmtAll, e, fmtL_no _ _ h, fmtL_nil]
  simp only [linesOut, cellsOut, cellOut, List.length_cons, List.length_nil, List.append_nil, List.drop_zero, Nat.lt_irrefl, false_and, if_false, if_true]
  by_cases h0 : p.size = 0
  · have : buf = [] := List.length_eq_zero_iff.1 (by omega)
    subst this
    simp [h0]
  · rw [if_neg h0]
    have ht : buf.take p.size = buf := List.take_of_length_le (by omega)
    by_cases h4 : c.flag 4 = true
    · simp [h4, ht]
    · simp [h4, ht]
theorem fmt_none (buf : List UInt8) : fmtAll c buf [[]] = [] := by
  have h : has ([] : List Nat).length ([] : List PC) = false := by simp [has]
  have e : cellsOf [[]] + 1 = 0 + 1 := rfl
  rw [fmtAll, e, fmtL_no _ _ h, fmtL_nil]
  simp [linesOut, cellsOut]

/-- A flush of one cell. -/
theorem flush_one (s : St) (h1 : s.lines = [[]]) (h2 : s.csize = s.buf.length) (h3 : s.en = 0) (h4 : s.out = []) : (s.flush c).out = s.buf := by
  unfold St.flush St.rest
  simp only [h4, List.nil_append]
  by_cases h0 : 0 < s.csize
  · rw [if_pos h0, if_pos h3]
    have e : (s.term false).lines = [[⟨s.csize, s.cw, false⟩]] := by simp [St.term, h1]
    rw [e]
    exact fmt_one _ _ h2
  · rw [if_neg h0, h1, fmt_none]
    exact (List.length_eq_zero_iff.1 (by omega)).symm

/-- Within an escaped text. -/
theorem steps_in (bs : List UInt8) : ∀ (s : St), s.en ≠ 0 → (∀ b ∈ bs, b ≠ s.en) → bs.foldl (St.step c) s = s.puts bs := by
  induction bs with
  | nil => intro s _ _; simp [puts_nil]
  | cons b bs ih =>
    intro s h0 hb
    have e : s.step c b = s.put b := by
      unfold St.step
      rw [if_neg h0, if_neg (hb b (by simp))]
    rw [List.foldl_cons, e, ih (s.put b) h0 (fun x hx => hb x (by simp [hx]))]
    rw [put_puts, puts_puts]
    rfl

theorem out_escaped (bs : List UInt8) (hb : ∀ b ∈ bs, b ≠ 255) : outOf c (255 :: bs ++ [255]) = if c.flag 2 = true then bs else 255 :: bs ++ [255] := by
  unfold outOf
  rw [List.cons_append, List.foldl_cons, List.foldl_append]
  have e1 : (St.new []).step c 255 = (if c.flag 2 = true then (St.new []).upd else (St.new []).upd.put 255).esc 255 := by
    unfold St.step
    rw [if_pos (show (St.new []).en = 0 from rfl), if_neg (show ¬ (255 : UInt8) = 9 by decide), if_neg (show ¬ (255 : UInt8) = 11 by decide), if_neg (show ¬ (255 : UInt8) = 10 by decide), if_neg (show ¬ (255 : UInt8) = 12 by decide), if_pos (show (255 : UInt8) = 255 from rfl)]
  rw [e1, steps_in bs _ (by simp [St.esc]) (by simpa [St.esc] using hb)]
  simp only [List.foldl_cons, List.foldl_nil]
  by_cases h2 : c.flag 2 = true
  · rw [if_pos h2, if_pos h2]
    have e2 : (((St.new []).upd.esc 255).puts bs).step c 255 = (((St.new []).upd.esc 255).puts bs).endEsc c := by
      unfold St.step
      rw [if_neg (by simp [St.puts, St.esc]), if_pos (by simp [St.puts, St.esc]), if_pos ⟨rfl, h2⟩]
    rw [e2, flush_one _ rfl (by simp [St.endEsc, St.puts, St.esc, St.upd, St.new]) rfl rfl]
    simp [St.endEsc, St.puts, St.esc, St.upd, St.new]
  · rw [if_neg h2, if_neg h2]
    have e2 : (((St.new []).upd.put 255).esc 255 |>.puts bs).step c 255 = ((((St.new []).upd.put 255).esc 255 |>.puts bs).put 255).endEsc c := by
      unfold St.step
      rw [if_neg (by simp [St.puts, St.esc]), if_pos (by simp [St.puts, St.esc]), if_neg (fun h => h2 h.2)]
    rw [e2, flush_one _ rfl (by simp [St.endEsc, St.puts, St.esc, St.upd, St.new, St.put]; omega) rfl rfl]
    simp [St.endEsc, St.puts, St.esc, St.upd, St.new, St.put]

theorem out_tag (bs : List UInt8) (hb : ∀ b ∈ bs, b ≠ 62) (h1 : c.flag 1 = true) : outOf c (60 :: bs ++ [62]) = 60 :: bs ++ [62] := by
  unfold outOf
  rw [List.cons_append, List.foldl_cons, List.foldl_append]
  have e1 : (St.new []).step c 60 = ((St.new []).upd.put 60).esc 62 := by
    unfold St.step
    rw [if_pos (show (St.new []).en = 0 from rfl), if_neg (show ¬ (60 : UInt8) = 9 by decide), if_neg (show ¬ (60 : UInt8) = 11 by decide), if_neg (show ¬ (60 : UInt8) = 10 by decide), if_neg (show ¬ (60 : UInt8) = 12 by decide), if_neg (show ¬ (60 : UInt8) = 255 by decide), if_pos (show (60 : UInt8) = 60 ∧ c.flag 1 = true from ⟨rfl, h1⟩)]
  rw [e1, steps_in bs _ (by simp [St.esc]) (by simpa [St.esc] using hb)]
  simp only [List.foldl_cons, List.foldl_nil]
  have e2 : (((St.new []).upd.put 60).esc 62 |>.puts bs).step c 62 = ((((St.new []).upd.put 60).esc 62 |>.puts bs).put 62).endEsc c := by
    unfold St.step
    rw [if_neg (by simp [St.puts, St.esc]), if_pos (by simp [St.puts, St.esc]), if_neg (fun h => absurd h.1 (by decide))]
  rw [e2, flush_one _ rfl (by simp [St.endEsc, St.puts, St.esc, St.upd, St.new, St.put]; omega) rfl rfl]
  simp [St.endEsc, St.puts, St.esc, St.upd, St.new, St.put]
end
end Go.Proofs.YteildpeogbenbaaDoor
