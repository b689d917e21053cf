/- The states that the writer goes through; the walk of flushNoDefers. -/
import Derived.Test.YteildpeogbenbaaDoorWn
namespace Go.Proofs.YteildpeogbenbaaDoor
open Go.RowKit Go.Tw Go.Sort
set_option maxRecDepth 100000

/-- The cell's width is brought up to date. -/
def St.upd (s : St) : St := { s with cw := s.cw + rc (s.buf.drop s.pos), pos := s.buf.length }
/-- The escaped text ends. -/
def St.endEsc (c : Cfg) (s : St) : St :=
  { s with cw := if s.en = 255 then s.cw + rc (s.buf.drop s.pos) - (if c.flag 2 then 0 else 2) else if s.en = 59 then s.cw + 1 else s.cw, pos := s.buf.length, en := 0 }
/-- The cell ends. -/
def St.term (s : St) (b : Bool) : St := { s with lines := s.lines.dropLast ++ [s.lines.getLastD [] ++ [⟨s.csize, s.cw, b⟩]], csize := 0, cw := 0 }
def St.line (s : St) : St := { s with lines := s.lines ++ [[]] }
/-- What is left at a flush becomes a cell. -/
def St.rest (c : Cfg) (s : St) : St := if 0 < s.csize then (if s.en = 0 then s else s.endEsc c).term false else s
/-- A flush. -/
def St.flush (c : Cfg) (s : St) : St := ⟨[], 0, 0, 0, 0, [[]], [], s.out ++ fmtAll c (s.rest c).buf (s.rest c).lines⟩

/-- What holds of the states behind k bytes. -/
structure Good (c : Cfg) (s : St) (k : Nat) : Prop where
  room : True
  mn : c.mn ≤ 1000
  tb : c.tb ≤ 1000
  pd : c.pd ≤ 1000
  kk : k ≤ 2400000
  en : s.en = 0 ∨ s.en = 255 ∨ s.en = 62 ∨ s.en = 59
  ws : s.ws = []
  ne : s.lines ≠ []
  pos : s.pos ≤ s.buf.length
  size : s.csize + SZ s.lines = s.buf.length
  cost : s.out.length + 9600000 * (cellsOf s.lines + s.lines.length + s.buf.length) ≤ 38400000 * k + 9600000
  cw : 0 ≤ s.cw ∧ s.cw + (s.buf.length - s.pos : Nat) ≤ k
  wid : ∀ l ∈ s.lines, ∀ p ∈ l, 0 ≤ p.width ∧ p.width ≤ k

theorem SZ_dropLast {ls : List (List PC)} (h : ls ≠ []) : SZ ls = SZ ls.dropLast + sizeOfCells (ls.getLastD []) := by
  have e := List.dropLast_concat_getLast h
  have e2 : ls.getLastD [] = ls.getLast h := by rw [List.getLastD_eq_getLast?, List.getLast?_eq_some_getLast h]; rfl
  rw [e2]
  conv => lhs; rw [← e]
  simp [SZ]
theorem cellsOf_dropLast {ls : List (List PC)} (h : ls ≠ []) : cellsOf ls = cellsOf ls.dropLast + (ls.getLastD []).length := by
  have e := List.dropLast_concat_getLast h
  have e2 : ls.getLastD [] = ls.getLast h := by rw [List.getLastD_eq_getLast?, List.getLast?_eq_some_getLast h]; rfl
  rw [e2]
  conv => lhs; rw [← e]
  simp [cellsOf]
theorem dropLast_last {ls : List (List PC)} (h : ls ≠ []) : ls = ls.dropLast ++ [ls.getLastD []] := by
  have e := List.dropLast_concat_getLast h
  have e2 : ls.getLastD [] = ls.getLast h := by rw [List.getLastD_eq_getLast?, List.getLast?_eq_some_getLast h]; rfl
  rw [e2]; exact e.symm
theorem sizeOfCells_snoc (l : List PC) (p : PC) : sizeOfCells (l ++ [p]) = sizeOfCells l + p.size := by simp [sizeOfCells]

section
variable {F : Nat → Prop} {w : World} {B S : Nat} {c : Cfg} {s : St} {k : Nat}

/-- What the lines of the rest are. -/
theorem Good.rest (g : Good c s k) : (s.rest c).buf = s.buf ∧ (s.rest c).out = s.out ∧ (s.rest c).ws = [] ∧ (s.rest c).csize = 0 ∧ SZ (s.rest c).lines = s.buf.length ∧ cellsOf (s.rest c).lines ≤ cellsOf s.lines + 1 ∧ (s.csize = 0 → cellsOf (s.rest c).lines = cellsOf s.lines) ∧ (s.rest c).lines.length = s.lines.length ∧
    ∀ l ∈ (s.rest c).lines, ∀ (i : Nat) (p : PC), l[i]? = some p → i + 1 < l.length → 0 ≤ p.width ∧ p.width ≤ k := by
  have hs := g.size
  have hcol : ∀ l ∈ s.lines, ∀ (i : Nat) (p : PC), l[i]? = some p → 0 ≤ p.width ∧ p.width ≤ k := fun l hl i p hp => g.wid l hl p (List.mem_of_getElem? hp)
  by_cases h0 : 0 < s.csize
  · have e : s.rest c = (if s.en = 0 then s else s.endEsc c).term false := by unfold St.rest; rw [if_pos h0]
    have hb : (if s.en = 0 then s else s.endEsc c).buf = s.buf ∧ (if s.en = 0 then s else s.endEsc c).out = s.out ∧ (if s.en = 0 then s else s.endEsc c).ws = s.ws ∧ (if s.en = 0 then s else s.endEsc c).csize = s.csize ∧ (if s.en = 0 then s else s.endEsc c).lines = s.lines := by
      split
      · exact ⟨rfl, rfl, rfl, rfl, rfl⟩
      · exact ⟨rfl, rfl, rfl, rfl, rfl⟩
    obtain ⟨b1, b2, b3, b4, b5⟩ := hb
    rw [e]
    revert b1 b2 b3 b4 b5
    generalize (if s.en = 0 then s else s.endEsc c) = t
    intro b1 b2 b3 b4 b5
    have hd := SZ_dropLast g.ne
    have hc := cellsOf_dropLast g.ne
    have hl := congrArg List.length (dropLast_last g.ne)
    simp only [List.length_append, List.length_cons, List.length_nil] at hl
    refine ⟨b1, b2, b3.trans g.ws, rfl, ?_, ?_, fun h => absurd h (by omega), ?_, ?_⟩
    · simp only [St.term, b4, b5, SZ_append, SZ_cons, SZ_nil, sizeOfCells_snoc]; omega
    · simp only [St.term, b5, cellsOf_append, cellsOf_cons, cellsOf_nil, List.length_append, List.length_cons, List.length_nil]; omega
    · simp only [St.term, b5, List.length_append, List.length_cons, List.length_nil]; omega
    · intro l hl i p hp hi
      simp only [St.term, b5] at hl
      rcases List.mem_append.1 hl with h | h
      · exact hcol l (List.dropLast_subset _ h) i p hp
      · simp only [List.mem_singleton] at h
        subst h
        simp only [List.length_append, List.length_cons, List.length_nil] at hi
        rw [List.getElem?_append_left (by omega)] at hp
        refine hcol (s.lines.getLastD []) ?_ i p hp
        rw [dropLast_last g.ne]
        simp
  · have e : s.rest c = s := by unfold St.rest; rw [if_neg h0]
    rw [e]
    exact ⟨rfl, rfl, g.ws, by omega, by omega, by omega, fun _ => rfl, rfl, fun l hl i p hp _ => hcol l hl i p hp⟩

theorem Good.fmt_le (g : Good c s k) : (fmtAll c (s.rest c).buf (s.rest c).lines).length ≤ s.buf.length + cellsOf (s.rest c).lines * 2404001 + s.lines.length := by
  obtain ⟨_, _, _, _, h5, _, _, h8, h9⟩ := g.rest
  have hk := g.kk
  have hm := g.mn
  have ht := g.tb
  have hp := g.pd
  have := fmtL_le c (s.rest c).buf (s.rest c).lines.length 2404001 2402000 (by omega) (by omega) (cellsOf (s.rest c).lines + 1) [] 0 0 (s.rest c).lines (by simp) (by
    intro l hl i p hpp hi
    have := h9 l hl i p hpp hi
    omega)
  rw [h5] at this
  rw [← h8]
  exact this

theorem Good.fine (g : Good c s k) : Fine c (s.rest c) 0 (s.rest c).lines.length := by
  obtain ⟨h1, h2, h3, h4, h5, h6, _, h8, h9⟩ := g.rest
  have hk := g.kk
  have hc := g.cost
  have hs := g.size
  refine ⟨h4, Nat.zero_le _, Nat.le_refl _, by omega, by have := g.tb; omega, by have := g.pd; omega, by have := g.mn; omega, by simp [h3], by simp [h3], ?_, ?_, ?_⟩
  · intro l hl i p hp hi
    have := h9 l hl i p hp hi
    omega
  · intro l _ i p _ hi
    rw [h3] at hi
    simp at hi
  · intro l hl
    have := le_cellsOf hl
    omega

theorem endEscape_any (hrep : Rep F w B S c s) (hen : s.en = 255 ∨ s.en = 62 ∨ s.en = 59) (hp : s.pos ≤ s.buf.length) (hb : s.buf.length ≤ 140737488355328) (hcw : -1407374883553 ≤ s.cw ∧ s.cw ≤ 1407374883553) :
    Calls Tryd.prog 42 #[.pointer (some ⟨B, 0, none⟩)] w fun ed w' => ed = .returned (.tuple #[]) ∧ Rep F w' B S c (s.endEsc c) ∧ Tch F w w' := by
  rcases hen with h | h | h
  · refine (endEscape_esc hrep h hp hb hcw (c.flag 2) (by simp [Cfg.flag, bne])).mono ?_
    rintro e w' ⟨h1, h2, h3⟩
    refine ⟨h1, ?_, h3⟩
    unfold St.endEsc
    rw [if_pos h]
    exact h2
  · refine (endEscape_tag hrep 0 0 (.inl ⟨by rw [h]; rfl, rfl⟩) (by omega)).mono ?_
    rintro e w' ⟨h1, h2, h3⟩
    refine ⟨h1, ?_, h3⟩
    unfold St.endEsc
    rw [if_neg (by rw [h]; decide), if_neg (by rw [h]; decide)]
    simpa using h2
  · refine (endEscape_tag hrep 0 1 (.inr ⟨by rw [h]; rfl, rfl⟩) (by omega)).mono ?_
    rintro e w' ⟨h1, h2, h3⟩
    refine ⟨h1, ?_, h3⟩
    unfold St.endEsc
    rw [if_neg (by rw [h]; decide), if_pos h]
    exact h2

theorem terminateCell_any (hF : ∀ k, w.heap.size ≤ k → F k) (hrep : Rep F w B S c s) (hne : s.lines ≠ []) (hb : cellsOf s.lines + s.lines.length ≤ 100000000) (b : Bool) :
    Calls Tryd.prog 36 #[.pointer (some ⟨B, 0, none⟩), .bool b] w fun ed w' => ed = .returned (.int .i64 (((s.lines.getLastD []).length : Int) + 1)) ∧ Rep F w' B S c (s.term b) ∧ Tch F w w' := by
  have h1 := cellsOf_dropLast hne
  have hl := congrArg List.length (dropLast_last hne)
  simp only [List.length_append, List.length_cons, List.length_nil] at hl
  exact terminateCell_calls hF hrep s.lines.dropLast (s.lines.getLastD []) (dropLast_last hne) (by omega) (by omega) b

set_option maxHeartbeats 1000000 in
theorem flushNoDefers_calls (hF : Env F w) (hrep : Rep F w B S c s) (g : Good c s k) :
    Calls Tryd.prog 38 #[.pointer (some ⟨B, 0, none⟩)] w fun ed w' => (ed = .returned (.tuple #[]) ∧ Rep F w' B S c (s.flush c) ∧ Tch F w w') ∨ Stop F F w B S c (s.flush c).out ed w' := by
  obtain ⟨r1, r2, r3, r4, r5, r6, -, r8, -⟩ := g.rest
  have hfine := g.fine
  have hfl := g.fmt_le
  have hk := g.kk
  have hc := g.cost
  have hsz := g.size
  have hcw := g.cw
  have hRest : ∀ w1 : World, Rep F w1 B S c (s.rest c) → Tch F w w1 → (∃ ll cp, w1.cell? ⟨B, 19, none⟩ = some (.slice ll (s.rest c).lines.length cp)) := by
    rintro w1 ⟨bufv, lv, wv, ov, vs, h⟩ _
    obtain ⟨ao, hlv⟩ := h.parts.lines.shape
    exact ⟨ao, vs.length, by rw [← hlv]; exact cell_of_blk h.blk 19⟩
  have hFmt : ∀ w1 : World, Rep F w1 B S c (s.rest c) → Tch F w w1 → Calls Tryd.prog 51 #[.pointer (some ⟨B, 0, none⟩), .int .i64 0, .int .i64 0, .int .i64 (s.rest c).lines.length] w1 fun e w' => (e = .returned (.int .i64 (SZ (s.rest c).lines : Nat)) ∧ Rep F w' B S c { s.rest c with out := (s.rest c).out ++ fmtAll c (s.rest c).buf (s.rest c).lines } ∧ Tch F w w') ∨ Stop F F w B S c (s.flush c).out e w' := by
    intro w1 h1 t1
    refine (format_all (hF.to t1) h1 r3 hfine (by rw [r5, r1]; exact Nat.le_refl _) (by rw [List.length_append, r2]; omega)).mono ?_
    rintro e w' (⟨a1, a2, a3⟩ | hE)
    · exact .inl ⟨a1, a2, t1.trans a3⟩
    · exact .inr (hE.up t1 (fun _ _ => id) [] (by rw [r2]; simp [St.flush]))
  have hRes : ∀ w1 : World, Rep F w1 B S c { s.rest c with out := (s.rest c).out ++ fmtAll c (s.rest c).buf (s.rest c).lines } → Tch F w w1 → Calls Tryd.prog 50 #[.pointer (some ⟨B, 0, none⟩)] w1 fun ed w' => ed = .returned (.tuple #[]) ∧ Rep F w' B S c (s.flush c) ∧ Tch F w w' := by
    intro w1 h1 t1
    refine (reset_calls (hF.to t1).new h1).mono ?_
    rintro e w' ⟨a1, a2, a3⟩
    refine ⟨a1, ?_, t1.trans a3⟩
    rw [r2] at a2
    exact a2
  have HREST := Lib.hid hRest
  have HFMT := Lib.hid hFmt
  have HRES := Lib.hid hRes
  have HREP := Lib.hid hrep
  have hx : w.cell? ⟨B, 15, none⟩ = some (.int .i64 s.csize) ∧ w.cell? ⟨B, 18, none⟩ = some (.int .u8 s.en.toNat) := by
    obtain ⟨bufv, lv, wv, ov, vs, h⟩ := hrep
    exact ⟨cell_of_blk h.blk 15, cell_of_blk h.blk 18⟩
  obtain ⟨c15, c18⟩ := hx
  clear hRest hFmt hRes hrep r1 r2 r3 r4 r5 r8 hsz hfine
  by_cases h0 : 0 < s.csize
  · by_cases hen : s.en = 0
    · have e : s.rest c = s.term false := by unfold St.rest; rw [if_pos h0, if_pos hen]
      have hT := terminateCell_any hF.new HREP.out g.ne (by omega) false
      rw [← e] at hT
      have HT := Lib.hid hT
      have c18b : w.cell? ⟨B, 18, none⟩ = some (.int .u8 0) := by rw [c18, hen]; rfl
      clear hT e c18 hen
      go_enter Tryd.func38, Tryd.ntmps38
      go_wp2_with (first | (go_at_call 36; (with_reducible refine HT.out.mono ?_); rintro e w1 ⟨rfl, hr1, t1⟩; have HR1 := Lib.hid hr1; have T1 := Lib.hid t1; obtain ⟨ll, cp, c19⟩ := HREST.out _ hr1 t1; clear hr1 t1) | (go_at_call 51; (with_reducible refine (HFMT.out _ HR1.out T1.out).mono ?_); rintro e w2 hE; rcases hE with ⟨rfl, hr2, t2⟩ | hE; rotate_left; (obtain ⟨ch, rfl⟩ := hE.panic; exact And.intro rfl (Or.inr hE)); have HR2 := Lib.hid hr2; have T2 := Lib.hid t2; clear hr2 t2) | (go_at_call 50; (with_reducible refine (HRES.out _ HR2.out T2.out).mono ?_); rintro e w3 ⟨rfl, hr3, t3⟩; have HR3 := Lib.hid hr3; have T3 := Lib.hid t3; clear hr3 t3))
      go_end0
      exact .inl ⟨rfl, HR3.out, T3.out⟩
    · have e : s.rest c = (s.endEsc c).term false := by unfold St.rest; rw [if_pos h0, if_neg hen]
      have hE := endEscape_any HREP.out (by rcases g.en with h | h; exact absurd h hen; exact h) g.pos (by omega) (by omega)
      have hT : ∀ w0, Rep F w0 B S c (s.endEsc c) → Tch F w w0 → Calls Tryd.prog 36 #[.pointer (some ⟨B, 0, none⟩), .bool false] w0 fun ed w' => ed = .returned (.int .i64 (((s.lines.getLastD []).length : Int) + 1)) ∧ Rep F w' B S c (s.rest c) ∧ Tch F w w' := by
        intro w0 h1 t1
        refine (terminateCell_any (hF.to t1).new h1 g.ne (by simp only [St.endEsc]; omega) false).mono ?_
        rintro ed w' ⟨a1, a2, a3⟩
        exact ⟨a1, by rw [e]; exact a2, t1.trans a3⟩
      have HT := Lib.hid hT
      have HE := Lib.hid hE
      have hne0 : ((s.en.toNat : Int) != 0) = true := by
        rw [bne_iff_ne]
        intro h
        apply hen
        apply UInt8.toNat_inj.1
        simpa using h
      clear hT hE e hen
      go_enter Tryd.func38, Tryd.ntmps38
      go_wp2_with (first | (go_at_call 42; (with_reducible refine HE.out.mono ?_); rintro e w0 ⟨rfl, hr0, t0⟩; have HR0 := Lib.hid hr0; have T0 := Lib.hid t0; clear hr0 t0) | (go_at_call 36; (with_reducible refine (HT.out _ HR0.out T0.out).mono ?_); rintro e w1 ⟨rfl, hr1, t1⟩; have HR1 := Lib.hid hr1; have T1 := Lib.hid t1; obtain ⟨ll, cp, c19⟩ := HREST.out _ hr1 t1; clear hr1 t1) | (go_at_call 51; (with_reducible refine (HFMT.out _ HR1.out T1.out).mono ?_); rintro e w2 hE; rcases hE with ⟨rfl, hr2, t2⟩ | hE; rotate_left; (obtain ⟨ch, rfl⟩ := hE.panic; exact And.intro rfl (Or.inr hE)); have HR2 := Lib.hid hr2; have T2 := Lib.hid t2; clear hr2 t2) | (go_at_call 50; (with_reducible refine (HRES.out _ HR2.out T2.out).mono ?_); rintro e w3 ⟨rfl, hr3, t3⟩; have HR3 := Lib.hid hr3; have T3 := Lib.hid t3; clear hr3 t3))
      go_end0
      exact .inl ⟨rfl, HR3.out, T3.out⟩
  · have e : s.rest c = s := by unfold St.rest; rw [if_neg h0]
    have hr1 : Rep F w B S c (s.rest c) := by rw [e]; exact HREP.out
    have t1 := Tch.refl F w
    have HR1 := Lib.hid hr1; have T1 := Lib.hid t1; obtain ⟨ll, cp, c19⟩ := HREST.out _ hr1 t1; clear hr1 t1
    clear e
    go_enter Tryd.func38, Tryd.ntmps38
    go_wp2_with (first | (go_at_call 51; (with_reducible refine (HFMT.out _ HR1.out T1.out).mono ?_); rintro e w2 hE; rcases hE with ⟨rfl, hr2, t2⟩ | hE; rotate_left; (obtain ⟨ch, rfl⟩ := hE.panic; exact And.intro rfl (Or.inr hE)); have HR2 := Lib.hid hr2; have T2 := Lib.hid t2; clear hr2 t2) | (go_at_call 50; (with_reducible refine (HRES.out _ HR2.out T2.out).mono ?_); rintro e w3 ⟨rfl, hr3, t3⟩; have HR3 := Lib.hid hr3; have T3 := Lib.hid t3; clear hr3 t3))
    go_end0
    exact .inl ⟨rfl, HR3.out, T3.out⟩
end
end Go.Proofs.YteildpeogbenbaaDoor
