/- The writer byte by byte, and what holds of its states. -/
import Derived.Test.YteildpeogbenbaaDoorWo
import Derived.Test.YteildpeogbenbaaDoorRc
namespace Go.Proofs.YteildpeogbenbaaDoor
open Go.RowKit Go.Tw Go.Sort

/-- A byte goes to the cell. -/
def St.put (s : St) (b : UInt8) : St := { s with buf := s.buf ++ [b], csize := s.csize + 1 }
def St.puts (s : St) (bs : List UInt8) : St := { s with buf := s.buf ++ bs, csize := s.csize + bs.length }
def St.more (s : St) (bs : List UInt8) : St := { s with out := s.out ++ bs }
def St.esc (s : St) (e : UInt8) : St := { s with en := e }
def hbarL : List UInt8 := [45, 45, 45, 10]

/-- What a newline does behind the cell's end. -/
def St.nl (c : Cfg) (s : St) : St := if (s.lines.getLastD []).length = 1 then s.line.flush c else s.line
def St.ff (c : Cfg) (s : St) : St := if c.flag 32 = true then (s.line.flush c).more hbarL else s.line.flush c

/-- One byte. -/
def St.step (c : Cfg) (s : St) (ch : UInt8) : St :=
  if s.en = 0 then
    if ch = 9 then s.upd.term true
    else if ch = 11 then s.upd.term false
    else if ch = 10 then (s.upd.term false).nl c
    else if ch = 12 then (s.upd.term false).ff c
    else if ch = 255 then (if c.flag 2 = true then s.upd else s.upd.put 255).esc 255
    else if ch = 60 ∧ c.flag 1 = true then (s.upd.put 60).esc 62
    else if ch = 38 ∧ c.flag 1 = true then (s.upd.put 38).esc 59
    else s.put ch
  else if ch = s.en then (if ch = 255 ∧ c.flag 2 = true then s else s.put ch).endEsc c
  else s.put ch

/-- Good, and within an escaped text its beginning stands in the buffer. -/
structure Good2 (c : Cfg) (s : St) (k : Nat) : Prop extends Good c s k where
  esc : s.en = 255 → c.flag 2 = false → ∃ t, s.buf.drop s.pos = 255 :: t

section
variable {c : Cfg} {s : St} {k : Nat}

theorem Good.rcl (_ : Good c s k) : rc (s.buf.drop s.pos) ≤ s.buf.length - s.pos := by
  have := rc_le (s.buf.drop s.pos); simpa using this

theorem Good.upd (g : Good c s k) : Good c s.upd k := by
  have h := g.rcl
  have hc := g.cw
  exact { g with pos := Nat.le_refl _, cw := ⟨by simp only [St.upd]; omega, by simp only [St.upd]; omega⟩ }

theorem Good.mono {k' : Nat} (g : Good c s k) (h : k ≤ k') (hk : k' ≤ 2400000) : Good c s k' := by
  have hc := g.cw
  have hb := g.cost
  exact { g with kk := hk, cost := by omega, cw := by omega, wid := fun l hl p hp => by have := g.wid l hl p hp; omega }

theorem Good.put (g : Good c s k) (b : UInt8) (hk : k + 1 ≤ 2400000) : Good c (s.put b) (k + 1) := by
  have hc := g.cw
  have hb := g.cost
  have hs := g.size
  have hp := g.pos
  refine ⟨g.room, g.mn, g.tb, g.pd, hk, g.en, g.ws, g.ne, ?_, ?_, ?_, ?_, fun l hl p hp => by have := g.wid l hl p hp; omega⟩
  · simp only [St.put, List.length_append, List.length_cons, List.length_nil]; omega
  · simp only [St.put, List.length_append, List.length_cons, List.length_nil]; omega
  · simp only [St.put, List.length_append, List.length_cons, List.length_nil]; omega
  · simp only [St.put, List.length_append, List.length_cons, List.length_nil]; omega

theorem Good.escd (g : Good c s k) (e : UInt8) (he : e = 0 ∨ e = 255 ∨ e = 62 ∨ e = 59) : Good c (s.esc e) k :=
  ⟨g.room, g.mn, g.tb, g.pd, g.kk, he, g.ws, g.ne, g.pos, g.size, g.cost, g.cw, g.wid⟩

/-- A cell ends: its cost is told apart, so that more can follow. -/
theorem Good.term (g : Good c s k) (_ : s.pos = s.buf.length) (b : Bool) (hk : k + 1 ≤ 2400000) : Good c (s.term b) (k + 1) ∧ (s.term b).out.length + 9600000 * (cellsOf (s.term b).lines + (s.term b).lines.length + (s.term b).buf.length) ≤ 38400000 * k + 19200000 := by
  have hc := g.cw
  have hb := g.cost
  have hs := g.size
  have hd := SZ_dropLast g.ne
  have hcl := cellsOf_dropLast g.ne
  have hl := congrArg List.length (dropLast_last g.ne)
  simp only [List.length_append, List.length_cons, List.length_nil] at hl
  have hcost : (s.term b).out.length + 9600000 * (cellsOf (s.term b).lines + (s.term b).lines.length + (s.term b).buf.length) ≤ 38400000 * k + 19200000 := by
    simp only [St.term, cellsOf_append, cellsOf_cons, cellsOf_nil, List.length_append, List.length_cons, List.length_nil]; omega
  refine ⟨⟨g.room, g.mn, g.tb, g.pd, hk, g.en, g.ws, by simp [St.term], g.pos, ?_, by omega, ?_, ?_⟩, hcost⟩
  · simp only [St.term, SZ_append, SZ_cons, SZ_nil, sizeOfCells_snoc]; omega
  · simp only [St.term]; omega
  · intro l hl p hp
    simp only [St.term] at hl
    rcases List.mem_append.1 hl with h | h
    · have := g.wid l (List.dropLast_subset _ h) p hp; omega
    · simp only [List.mem_singleton] at h
      subst h
      rcases List.mem_append.1 hp with h | h
      · have := g.wid (s.lines.getLastD []) (by rw [dropLast_last g.ne]; simp) p h; omega
      · simp only [List.mem_singleton] at h
        subst h
        simp only; omega

theorem Good.line (g : Good c s k) (hcost : s.out.length + 9600000 * (cellsOf s.lines + s.lines.length + s.buf.length) + 9600000 ≤ 38400000 * k + 9600000) : Good c s.line k := by
  refine ⟨g.room, g.mn, g.tb, g.pd, g.kk, g.en, g.ws, by simp [St.line], g.pos, ?_, ?_, g.cw, ?_⟩
  · simp only [St.line, SZ_append, SZ_cons, SZ_nil]; have := g.size; simp [sizeOfCells]; exact this
  · simp only [St.line, cellsOf_append, cellsOf_cons, cellsOf_nil, List.length_append, List.length_cons, List.length_nil]; omega
  · intro l hl p hp
    simp only [St.line] at hl
    rcases List.mem_append.1 hl with h | h
    · exact g.wid l h p hp
    · simp only [List.mem_singleton] at h; subst h; simp at hp

/-- Behind a flush, more bytes at most n. -/
theorem Good.flush (g : Good c s k) : (s.flush c).out.length + 9600000 * (cellsOf (s.flush c).lines + (s.flush c).lines.length + (s.flush c).buf.length) ≤ s.out.length + 9600000 * (cellsOf s.lines + s.lines.length + s.buf.length) + 14400000 := by
  have h := g.fmt_le
  obtain ⟨_, _, _, _, _, h6, _⟩ := g.rest
  have e1 : cellsOf [[]] = 0 := rfl
  simp only [St.flush, List.length_append, e1, List.length_nil, List.length_cons]
  omega

theorem Good.reset (g : Good c s k) {o : List UInt8} (h : o.length ≤ 38400000 * k) : Good c ⟨[], 0, 0, 0, 0, [[]], [], o⟩ k := by
  have e1 : cellsOf [[]] = 0 := rfl
  have e2 : SZ [[]] = 0 := rfl
  refine ⟨g.room, g.mn, g.tb, g.pd, g.kk, .inl rfl, rfl, by simp, Nat.le_refl _, ?_, ?_, ⟨Int.le_refl _, ?_⟩, ?_⟩
  · simp only [e2, List.length_nil]
  · simp only [e1, List.length_nil, List.length_cons]; omega
  · simp only [List.length_nil]; omega
  · intro l hl p hp
    simp at hl; subst hl; simp at hp

theorem Good.flushed (g : Good c s k) {n : Nat} (h : s.out.length + 9600000 * (cellsOf s.lines + s.lines.length + s.buf.length) + 4800000 + n ≤ 38400000 * k) (bs : List UInt8) (hn : bs.length ≤ n) : Good2 c ((s.flush c).more bs) k := by
  have hf := g.flush
  have e1 : cellsOf [[]] = 0 := rfl
  have e2 : (s.flush c).lines = [[]] := rfl
  have e3 : (s.flush c).buf = [] := rfl
  rw [e2, e3] at hf
  simp only [e1, List.length_nil, List.length_cons] at hf
  refine ⟨g.reset ?_, fun h => by simp [St.more, St.flush] at h⟩
  rw [List.length_append]
  have e4 : (s.flush c).out.length ≤ s.out.length + 9600000 * (cellsOf s.lines + s.lines.length + s.buf.length) + 4800000 := by omega
  simp only [St.flush] at e4 ⊢
  omega
theorem Good2.step (g : Good2 c s k) (ch : UInt8) (hk : k + 1 ≤ 2400000) : Good2 c (s.step c ch) (k + 1) := by
  have gu := g.toGood.upd
  have hpu : s.upd.pos = s.upd.buf.length := rfl
  by_cases h0 : s.en = 0
  · have h0u : s.upd.en = 0 := h0
    have hno : ∀ t : St, t.en = 0 → (t.en = 255 → c.flag 2 = false → ∃ u, t.buf.drop t.pos = 255 :: u) := fun t ht h => by rw [ht] at h; cases h
    unfold St.step
    rw [if_pos h0]
    split
    · exact ⟨(gu.term hpu true hk).1, hno _ h0⟩
    · split
      · exact ⟨(gu.term hpu false hk).1, hno _ h0⟩
      · have gt := gu.term hpu false hk
        have gt0 : Good c (s.upd.term false) (k + 1) := gt.1
        have hcost := gt.2
        have hnl : Good2 c ((s.upd.term false).nl c) (k + 1) ∧ Good2 c ((s.upd.term false).ff c) (k + 1) := by
          have g1 := gt0.line (by omega)
          have hl : (s.upd.term false).line.out.length + 9600000 * (cellsOf (s.upd.term false).line.lines + (s.upd.term false).line.lines.length + (s.upd.term false).line.buf.length) ≤ 38400000 * k + 28800000 := by
            have e : (s.upd.term false).line.out.length + 9600000 * (cellsOf (s.upd.term false).line.lines + (s.upd.term false).line.lines.length + (s.upd.term false).line.buf.length) = (s.upd.term false).out.length + 9600000 * (cellsOf (s.upd.term false).lines + ((s.upd.term false).lines.length + 1) + (s.upd.term false).buf.length) := by
              simp only [St.line, cellsOf_append, cellsOf_cons, cellsOf_nil, List.length_append, List.length_cons, List.length_nil]
              omega
            rw [e]; omega
          have f0 := g1.flushed (n := 4) (by omega) [] (by simp)
          have f1 := g1.flushed (n := 4) (by omega) hbarL (by simp [hbarL])
          have e : ((s.upd.term false).line.flush c).more [] = (s.upd.term false).line.flush c := by simp [St.more, St.flush]
          rw [e] at f0
          constructor
          · unfold St.nl
            split
            · exact f0
            · exact ⟨g1, hno _ h0⟩
          · unfold St.ff
            split
            · exact f1
            · exact f0
        split
        · exact hnl.1
        · split
          · exact hnl.2
          · split
            · by_cases hs : c.flag 2 = true
              · rw [if_pos hs]
                refine ⟨(gu.mono (Nat.le_succ k) hk).escd 255 (.inr (.inl rfl)), fun _ h => ?_⟩
                rw [hs] at h; cases h
              · rw [if_neg hs]
                refine ⟨(gu.put 255 hk).escd 255 (.inr (.inl rfl)), fun _ _ => ⟨[], ?_⟩⟩
                simp [St.esc, St.put, St.upd]
            · split
              · exact ⟨(gu.put 60 hk).escd 62 (.inr (.inr (.inl rfl))), fun h => by simp [St.esc] at h⟩
              · split
                · exact ⟨(gu.put 38 hk).escd 59 (.inr (.inr (.inr rfl))), fun h => by simp [St.esc] at h⟩
                · exact ⟨g.toGood.put ch hk, hno _ h0⟩
  · unfold St.step
    rw [if_neg h0]
    have hr := g.toGood.rcl
    have hcw := g.cw
    have hp := g.pos
    by_cases he : ch = s.en
    · rw [if_pos he]
      have hend : ∀ t : St, Good c t (k + 1) → t.en = s.en → (t.en = 255 → 0 ≤ t.cw + rc (t.buf.drop t.pos) - (if c.flag 2 then 0 else 2)) → (t.en = 59 → t.cw + 1 ≤ (k + 1 : Nat)) → Good2 c (t.endEsc c) (k + 1) := by
        intro t gt _ h1 h2
        have hr := gt.rcl
        have hcw := gt.cw
        refine ⟨⟨gt.room, gt.mn, gt.tb, gt.pd, gt.kk, .inl rfl, gt.ws, gt.ne, Nat.le_refl _, gt.size, gt.cost, ?_, gt.wid⟩, fun h => by simp [St.endEsc] at h⟩
        simp only [St.endEsc, Nat.sub_self]
        split
        · rename_i h
          have := h1 h
          refine ⟨this, ?_⟩
          have h3 : (0 : Int) ≤ (if c.flag 2 then 0 else 2) := by split <;> omega
          omega
        · split
          · rename_i h; have := h2 h; omega
          · omega
      by_cases hs : ch = 255 ∧ c.flag 2 = true
      · rw [if_pos hs]
        refine hend s (g.toGood.mono (Nat.le_succ k) hk) rfl (fun _ => ?_) (fun h => ?_)
        · rw [if_pos hs.2]; omega
        · omega
      · rw [if_neg hs]
        refine hend (s.put ch) (g.toGood.put ch hk) rfl (fun h => ?_) (fun h => ?_)
        · have h255 : s.en = 255 := h
          have hch : ch = 255 := he.trans h255
          have hst : c.flag 2 = false := by
            cases hf : c.flag 2
            · rfl
            · exact absurd ⟨hch, hf⟩ hs
          obtain ⟨t, ht⟩ := g.esc h255 hst
          have e : (s.put ch).buf.drop (s.put ch).pos = 255 :: (t ++ [255]) := by
            simp only [St.put]
            rw [List.drop_append_of_le_length hp, ht, hch]; rfl
          rw [e, rc_cons (by decide), rc_snoc (by decide), hst]
          simp only [St.put]
          simp
          omega
        · simp only [St.put]; omega
    · rw [if_neg he]
      refine ⟨g.toGood.put ch hk, fun h1 h2 => ?_⟩
      obtain ⟨t, ht⟩ := g.esc h1 h2
      refine ⟨t ++ [ch], ?_⟩
      simp only [St.put]
      rw [List.drop_append_of_le_length hp, ht]; rfl

theorem Good2.steps (bs : List UInt8) : ∀ {s : St} {k : Nat}, Good2 c s k → k + bs.length ≤ 2400000 → Good2 c (bs.foldl (St.step c) s) (k + bs.length) := by
  induction bs with
  | nil => intro s k g _; exact g
  | cons b bs ih =>
    intro s k g hk
    simp only [List.length_cons] at hk
    have := ih (g.step b (by omega)) (by omega)
    simp only [List.foldl_cons, List.length_cons]
    rw [show k + (bs.length + 1) = k + 1 + bs.length by omega]
    exact this
end
end Go.Proofs.YteildpeogbenbaaDoor
