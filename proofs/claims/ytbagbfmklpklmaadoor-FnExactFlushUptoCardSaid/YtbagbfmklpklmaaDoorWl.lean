/- Walks: what format needs of the memory. -/
import Derived.Test.YtbagbfmklpklmaaDoorWk
namespace Go.Proofs.YtbagbfmklpklmaaDoor
open Go.RowKit Go.Tw Go.Sort
set_option maxRecDepth 100000
section
variable {F : Nat → Prop} {w : World} {B S : Nat} {c : Cfg} {s : St}

theorem Own.pop {e : TypeId} {ao : Option Addr} {n cp : Nat} {xs : List Value} {x : Value} (h : Own F w e 1 (.slice ao (n + 1) cp) (n + 1) (xs ++ [x])) : Own F w e 1 (.slice ao n cp) n xs := by
  have hl := h.row.1
  simp at hl
  refine ⟨⟨by simp [hl], ?_⟩, fun x hx => h.mem x (by cases ao <;> exact hx)⟩
  rcases h.row.2 with ⟨_, h0⟩ | ⟨g, cap', cur, e, hb, hg, hc, hm, hs, htk⟩
  · omega
  · simp only [Value.slice.injEq] at e
    obtain ⟨rfl, _, rfl⟩ := e
    refine .inr ⟨g, cp, cur, rfl, hb, hg, by omega, hm, hs, ?_⟩
    have := congrArg (List.take n) htk
    rw [List.take_take, Nat.min_eq_left (by omega)] at this
    rw [Nat.mul_one, this, List.take_append_of_le_length (by omega), List.take_of_length_le (by omega)]

theorem Parts.wdsGrown {w' : World} {bufv lv wv ov : Value} {vs : List Value} {room : Int} {bf ot : List UInt8} {ls : List (List PC)} {ws : List Nat} (h : Parts F w S room bf ls ws ot bufv lv wv ov vs) {v' : Value} {x : Nat} {n : Nat} {xs : List Value} (hown : Own F w' 3 1 v' n xs) (hn : n = ws.length + 1) (hx : xs = ivs ws ++ [.int .i64 x]) (hg : w.grownBy w' wv.ownBlock) :
    Parts F w' S room bf ls (ws ++ [x]) ot bufv lv v' ov vs := by
  subst hn hx
  have t : Tch (fun k => wv.ownBlock = some k) w w' := Tch.grown hg (fun k e => e)
  have no : ∀ {k : Nat} {cs : Array Value} {T : TypeId} {fr : Nat × Nat}, w.heap[k]? = some (.cells cs T fr) → T ≠ 3 → ¬ (wv.ownBlock = some k) := fun hk hT => h.wds.ne hk hT
  refine ⟨h.buf.kept t (fun g hg => no (h.buf.block hg).choose_spec (by decide)), h.lines.kept t (fun L hL => no (h.lines.blockL hL).1 (by decide)) (fun i v g hv hg => no (h.lines.blockR hv hg).1.choose_spec (by decide)), by simpa [ivs] using hown, t.heap h.sink (no h.sink (by decide)), h.FS, h.out.kept t (fun g hg => no (h.out.block hg).choose_spec (by decide)), h.ne⟩
theorem Parts.withWds {bufv lv wv ov : Value} {vs : List Value} {room : Int} {bf ot : List UInt8} {ls : List (List PC)} {ws : List Nat} (h : Parts F w S room bf ls ws ot bufv lv wv ov vs) {wv' : Value} {ws' : List Nat} (hown : Own F w 3 1 wv' ws'.length (ivs ws')) :
    Parts F w S room bf ls ws' ot bufv lv wv' ov vs := ⟨h.buf, h.lines, hown, h.sink, h.FS, h.out, h.ne⟩

/-- A line, read. -/
theorem Rep.line (h : Rep F w B S c s) {k : Nat} {l : List PC} (hk : s.lines[k]? = some l) : ∃ L al cl cv, w.cell? ⟨B, 19, none⟩ = some (.slice (some ⟨L, 0, none⟩) s.lines.length cv) ∧ w.cell? ⟨L, k, none⟩ = some (.slice al l.length cl) ∧ l.length ≤ 9223372036854775807 ∧
    ∀ (j : Nat) (p : PC), l[j]? = some p → ∃ g, al = some ⟨g, 0, none⟩ ∧ w.cell? ⟨g, j * 3, none⟩ = some (.int .i64 p.size) ∧ w.cell? ⟨g, j * 3 + 1, none⟩ = some (.int .i64 p.width) ∧ w.cell? ⟨g, j * 3 + 2, none⟩ = some (.bool p.htab) := by
  obtain ⟨bufv, lv, wv, ov, vs, h⟩ := h
  have hkl := (List.getElem?_eq_some_iff.1 hk).1
  have hle := h.parts.lines.le
  obtain ⟨L, hlv, hLb⟩ : ∃ L, lv = .slice (some ⟨L, 0, none⟩) s.lines.length vs.length ∧ w.heap[L]? = some (.cells vs.toArray 91 (0, 0)) := by
    rcases h.parts.lines.val with ⟨_, rfl⟩ | ⟨L, e, _, h2, _⟩
    · have : s.lines.length ≤ 0 := hle
      omega
    · exact ⟨L, e, h2⟩
  obtain ⟨v, hv⟩ : ∃ v, vs[k]? = some v := ⟨vs[k], by simp⟩
  obtain ⟨n, xs, hown, hnx⟩ := h.parts.lines.row k v hv
  obtain ⟨hn, hx⟩ := hnx l hk
  subst hn hx
  obtain ⟨al, cl, rfl⟩ := hown.shape
  have c19 : w.cell? ⟨B, 19, none⟩ = some (.slice (some ⟨L, 0, none⟩) s.lines.length vs.length) := by rw [← hlv]; exact cell_of_blk h.blk 19
  have cL : w.cell? ⟨L, k, none⟩ = some (.slice al l.length cl) := by rw [cell_of_blk hLb]; simpa using hv
  refine ⟨L, al, cl, vs.length, c19, cL, ?_, ?_⟩
  · rcases hown.row.2 with ⟨_, h0⟩ | ⟨g, cap, cur, e, _, hg, hc, hm, _⟩
    · omega
    · unfold maxLen at hm; omega
  · intro j p hp
    have hjl := (List.getElem?_eq_some_iff.1 hp).1
    rcases hown.row.2 with ⟨e, h0⟩ | ⟨g, cap, cur, e, _, hg, hc, hm, hs, htk⟩
    · omega
    · simp only [Value.slice.injEq] at e
      obtain ⟨rfl, e2, _⟩ := e
      have hcell : ∀ i, i < l.length * 3 → w.cell? ⟨g, i, none⟩ = (pcs l)[i]? := by
        intro i hi
        rw [cell_of_blk hg, ← htk, List.getElem?_take, if_pos (by omega)]
        simp
      have hpc : ∀ i, i < 3 → (pcs l)[j * 3 + i]? = (PC.vals p)[i]? := fun i hi => pcs_get hp i hi
      refine ⟨g, rfl, ?_, ?_, ?_⟩
      · rw [hcell _ (by omega)]; have := hpc 0 (by omega); simpa [PC.vals] using this
      · rw [hcell _ (by omega)]; have := hpc 1 (by omega); simpa [PC.vals] using this
      · rw [hcell _ (by omega)]; have := hpc 2 (by omega); simpa [PC.vals] using this

theorem Rep.conf (h : Rep F w B S c s) : w.cell? ⟨B, 1, none⟩ = some (.int .i64 c.mn) ∧ w.cell? ⟨B, 3, none⟩ = some (.int .i64 c.pd) ∧ w.cell? ⟨B, 12, none⟩ = some (.int .u64 c.fl) ∧ B < w.heap.size := by
  obtain ⟨bufv, lv, wv, ov, vs, h⟩ := h
  exact ⟨cell_of_blk h.blk 1, cell_of_blk h.blk 3, cell_of_blk h.blk 12, lt_of_heap h.blk⟩

/-- What must hold of the writer while it formats. -/
structure Fine (c : Cfg) (s : St) (l0 l1 : Nat) : Prop where
  room : c.room < 0
  cs : s.csize = 0
  le : l0 ≤ l1
  lel : l1 ≤ s.lines.length
  few : s.lines.length ≤ 1000000000000
  tb : c.tb ≤ 1000000
  pd : c.pd ≤ 1000000
  mn : c.mn ≤ 1000000
  ws : ∀ i, s.ws.getD i 0 ≤ 1000000000000
  wn : s.ws.length ≤ 1000000000000
  cols : ∀ l ∈ s.lines, ∀ (i : Nat) (p : PC), l[i]? = some p → i + 1 < l.length → 0 ≤ p.width ∧ p.width ≤ 100000000000
  fit : ∀ l ∈ seg s.lines l0 l1, ∀ (i : Nat) (p : PC), l[i]? = some p → i < s.ws.length → 0 ≤ p.width ∧ p.width ≤ s.ws.getD i 0
  len : ∀ l ∈ s.lines, l.length ≤ 1000000000000

theorem writeLines_rep (hF : ∀ k, w.heap.size ≤ k → F k) (hrep : Rep F w B S c s) (p0 l0 l1 : Nat) (hf : Fine c s l0 l1) (hsz : p0 + SZ (seg s.lines l0 l1) ≤ s.buf.length) (hob : (s.out ++ linesOut c s.ws s.buf s.lines.length l0 p0 (seg s.lines l0 l1)).length ≤ 130000000000000) :
    Calls Tryd.prog 56 #[.pointer (some ⟨B, 0, none⟩), .int .i64 p0, .int .i64 l0, .int .i64 l1] w fun e w' => e = .returned (.int .i64 (p0 + SZ (seg s.lines l0 l1) : Nat)) ∧ Rep F w' B S c { s with out := s.out ++ linesOut c s.ws s.buf s.lines.length l0 p0 (seg s.lines l0 l1) } ∧ Tch F w w' := by
  obtain ⟨bufv, lv, wv, ov, vs, h⟩ := hrep
  have hmem : ∀ k, (k = S ∨ ov.ownBlock = some k ∨ w.heap.size ≤ k) → F k := by
    rintro k (rfl | e | e)
    · exact h.parts.FS
    · exact h.parts.out.mem k e
    · exact hF k e
  refine (writeLines_calls (G := fun k => k = S ∨ ov.ownBlock = some k ∨ w.heap.size ≤ k) hF h ⟨.inl rfl, fun g hg => .inr (.inl hg), fun k hk => .inr (.inr hk)⟩ ?_ hf.room hf.cs p0 l0 l1 hf.le hf.lel hf.few hsz hob hf.tb hf.ws ?_).mono ?_
  · rintro k _ hk (e | e | e)
    · exact .inl e
    · exact .inr e
    · omega
  · intro k l h1 h2 h3 i p hp hi
    exact hf.fit l (mem_seg_of h3 h1 h2) i p hp hi
  · rintro e w' ⟨he, ov', hr, t, _⟩
    exact ⟨he, ⟨_, _, _, _, _, hr⟩, t.mono hmem⟩
end
end Go.Proofs.YtbagbfmklpklmaaDoor
