/- The writer gives what the reference gives: byte by byte. -/
import Derived.Test.YteildpeogbenbaaDoorPf
import Derived.Test.YteildpeogbenbaaDoorPa
namespace Go.Proofs.YteildpeogbenbaaDoor
open Go.RowKit Go.Tw Go.Sort

/-- A cell's text, and the newline for its line break. -/
def bareC (x : SC) : List UInt8 := x.text ++ (if x.fin = 10 ∨ x.fin = 12 then [10] else [])
def bareO (l : List SC) : List UInt8 := (l.map bareC).flatten

/-- The writer's state, cells told with their texts: out, lines L, the cells of the last line, the cell so far and plain text behind it. -/
structure Sim (s : St) (o : List UInt8) (L : List (List SC)) (cur : List SC) (x : SC) (pl : List UInt8) : Prop where
  en : s.en = 0
  out : s.out = o
  buf : s.buf = (allTexts L ++ texts cur ++ x.text) ++ pl
  pos : s.pos = (allTexts L ++ texts cur ++ x.text).length
  size : s.csize = (x.text ++ pl).length
  cw : s.cw = x.width
  lines : s.lines = pcL (L ++ [cur])
structure WF (L : List (List SC)) (cur : List SC) : Prop where
  shut : ∀ l ∈ L, (view l).shut = false
  ok : ∀ l ∈ L, ∀ y ∈ l.dropLast, y.ok
  cur : ∀ y ∈ cur, y.ok

section
variable {c : Cfg}
theorem view0_of {l : List SC} (h : (view l).shut = false) : view0 l = view l := by
  unfold view0
  rw [← h]
theorem view_open {cur : List SC} (h : ∀ y ∈ cur, y.ok) : (view cur).shut = false := by
  unfold view
  simp only
  cases hl : cur.getLast? with
  | none => rfl
  | some y =>
    have := (h y (List.mem_of_getLast? hl)).1
    unfold SC.tabbed at this
    simp only [Option.map_some, Option.getD_some, beq_eq_false_iff_ne]
    intro e
    rw [e] at this
    revert this; decide
theorem view_snoc (cur : List SC) (y : SC) : view (cur ++ [y]) = ⟨cur, y.text, y.fin == 12⟩ := by
  unfold view
  simp
theorem pcL_append (A B : List (List SC)) : pcL (A ++ B) = pcL A ++ pcL B := by simp [pcL]
theorem pcL_ne (L : List (List SC)) (cur : List SC) : (pcL (L ++ [cur])).getLastD [] = cur.map toPC ∧ (pcL (L ++ [cur])).dropLast = pcL L := by
  rw [pcL_append]
  have e : pcL [cur] = [cur.map toPC] := rfl
  rw [e]
  simp

/-- What a flush gives at the end. -/
theorem flush_end {s : St} {o : List UInt8} {L : List (List SC)} {cur : List SC} {t : List UInt8} (w : Int) (hw : WF L cur) (h1 : s.out = o) (h2 : s.buf = allTexts L ++ texts cur ++ t) (h3 : s.csize = t.length) (h4 : s.lines = pcL (L ++ [cur])) :
    (s.flush c).out = o ++ specOut c (L.map view ++ [viewEnd (cur ++ [⟨t, w, 0⟩])]) := by
  obtain ⟨e1, e2⟩ := pcL_ne L cur
  have key : ∀ Z : List SC, (∀ y ∈ Z.dropLast, y.ok) → (view Z).shut = false → (s.rest c).buf = allTexts (L ++ [Z]) → (s.rest c).lines = pcL (L ++ [Z]) → (s.flush c).out = o ++ specOut c (L.map view ++ [view Z]) := by
    intro Z hZ hsh hb hl
    unfold St.flush
    simp only [h1, hb, hl]
    rw [fmtAll_eq]
    · have hv : (L ++ [Z]).map view0 = L.map view ++ [view Z] := by
        rw [List.map_append, List.map_cons, List.map_nil, view0_of hsh]
        congr 1
        exact List.map_congr_left fun l hl => view0_of (hw.shut l hl)
      rw [hv]
      unfold specOut
      simp
    · intro l hl
      rcases List.mem_append.1 hl with h | h
      · exact hw.ok l h
      · simp at h; subst h; exact hZ
  by_cases h0 : t = []
  · subst h0
    have hz : ¬ 0 < s.csize := by rw [h3]; simp
    have hr : s.rest c = s := by unfold St.rest; rw [if_neg hz]
    have hv : viewEnd (cur ++ [⟨[], w, 0⟩]) = view cur := by
      unfold viewEnd
      by_cases hc : cur = []
      · subst hc
        rw [if_neg (by simp)]
        simp [view]
      · have : 0 < cur.length := List.length_pos_iff.2 hc
        rw [if_pos (by simp; omega), List.dropLast_concat]
    rw [hv]
    exact key cur (fun y hy => hw.cur y (List.dropLast_subset _ hy)) (view_open hw.cur) (by rw [hr, h2]; simp) (by rw [hr, h4])
  · have hz : 0 < s.csize := by rw [h3]; exact List.length_pos_iff.2 h0
    have hv : viewEnd (cur ++ [⟨t, w, 0⟩]) = ⟨cur, t, false⟩ := by
      unfold viewEnd
      rw [if_neg (by simp [h0]), view_snoc]
      rfl
    rw [hv]
    have gen : ∀ s' : St, s'.buf = s.buf → s'.csize = s.csize → s'.lines = s.lines → (s'.term false).buf = allTexts (L ++ [cur ++ [⟨t, s'.cw, 0⟩]]) ∧ (s'.term false).lines = pcL (L ++ [cur ++ [⟨t, s'.cw, 0⟩]]) := by
      intro s' k1 k2 k3
      constructor
      · show s'.buf = _
        rw [k1, h2]; simp
      · show s'.lines.dropLast ++ [s'.lines.getLastD [] ++ [⟨s'.csize, s'.cw, false⟩]] = _
        rw [k3, h4, e1, e2, k2, h3, pcL_append]
        simp only [pcL, List.map_cons, List.map_nil, List.map_append]
        rfl
    have fin : ∀ w', view (cur ++ [⟨t, w', 0⟩]) = ⟨cur, t, false⟩ := fun w' => by rw [view_snoc]; rfl
    by_cases hen : s.en = 0
    · obtain ⟨k1, k2⟩ := gen s rfl rfl rfl
      have hr : s.rest c = s.term false := by unfold St.rest; rw [if_pos hz, if_pos hen]
      rw [← fin s.cw]
      exact key _ (by simpa using hw.cur) (by rw [fin]) (by rw [hr, k1]) (by rw [hr, k2])
    · obtain ⟨k1, k2⟩ := gen (s.endEsc c) rfl rfl rfl
      have hr : s.rest c = (s.endEsc c).term false := by unfold St.rest; rw [if_pos hz, if_neg hen]
      rw [← fin (s.endEsc c).cw]
      exact key _ (by simpa using hw.cur) (by rw [fin]) (by rw [hr, k1]) (by rw [hr, k2])

theorem Sim.rcl {s : St} {o : List UInt8} {L : List (List SC)} {cur : List SC} {x : SC} {pl : List UInt8} (h : Sim s o L cur x pl) : s.buf.drop s.pos = pl := by
  rw [h.buf, h.pos, List.drop_left]
/-- The width is brought up to date. -/
theorem Sim.upd {s : St} {o : List UInt8} {L : List (List SC)} {cur : List SC} {x : SC} {pl : List UInt8} (h : Sim s o L cur x pl) : Sim s.upd o L cur ⟨x.text ++ pl, x.width + rc pl, x.fin⟩ [] := by
  have hr := h.rcl
  refine ⟨h.en, h.out, ?_, ?_, ?_, ?_, h.lines⟩
  · show s.buf = _
    rw [h.buf]; simp
  · show s.buf.length = _
    rw [h.buf]; simp
  · show s.csize = _
    rw [h.size]; simp
  · show s.cw + _ = _
    rw [hr, h.cw]
/-- A cell ends. -/
theorem Sim.term {s : St} {o : List UInt8} {L : List (List SC)} {cur : List SC} {x : SC} (h : Sim s o L cur x []) (b : UInt8) (ht : Bool) (hb : (b == 9) = ht) : Sim (s.term ht) o L (cur ++ [⟨x.text, x.width, b⟩]) ⟨[], 0, 0⟩ [] := by
  obtain ⟨e1, e2⟩ := pcL_ne L cur
  refine ⟨h.en, h.out, ?_, ?_, rfl, rfl, ?_⟩
  · show s.buf = _
    rw [h.buf]; simp
  · show s.pos = _
    rw [h.pos]; simp
  · show s.lines.dropLast ++ [s.lines.getLastD [] ++ [⟨s.csize, s.cw, ht⟩]] = _
    rw [h.lines, e1, e2, h.size, h.cw, pcL_append, List.append_nil]
    subst hb
    simp only [pcL, List.map_cons, List.map_nil, List.map_append]
    rfl
/-- A line ends, without a flush. -/
theorem Sim.line {s : St} {o : List UInt8} {L : List (List SC)} {cur : List SC} (h : Sim s o L cur ⟨[], 0, 0⟩ []) : Sim s.line o (L ++ [cur]) [] ⟨[], 0, 0⟩ [] := by
  refine ⟨h.en, h.out, ?_, ?_, h.size, h.cw, ?_⟩
  · show s.buf = _
    rw [h.buf]; simp
  · show s.pos = _
    rw [h.pos]; simp
  · show s.lines ++ [[]] = _
    rw [h.lines]
    simp [pcL]
/-- A line ends, with a flush. -/
theorem Sim.flush {s : St} {o : List UInt8} {L : List (List SC)} {cur : List SC} (h : Sim s o L cur ⟨[], 0, 0⟩ []) (hs : ∀ l ∈ L, (view l).shut = false) (hok : ∀ l ∈ L, ∀ y ∈ l.dropLast, y.ok) (hc : ∀ y ∈ cur.dropLast, y.ok) :
    Sim (s.line.flush c) (o ++ specOut c ((L.map view ++ [{ view cur with shut := false }]) ++ [lineZ])) [] [] ⟨[], 0, 0⟩ [] := by
  have hl := h.line
  have hz : ¬ 0 < s.line.csize := by rw [hl.size]; simp
  have hr : s.line.rest c = s.line := by unfold St.rest; rw [if_neg hz]
  refine ⟨rfl, ?_, rfl, rfl, rfl, rfl, rfl⟩
  unfold St.flush
  simp only [hr, hl.out]
  congr 1
  have hb : s.line.buf = allTexts ((L ++ [cur]) ++ [[]]) := by rw [hl.buf]; simp
  rw [hb, hl.lines, fmtAll_eq]
  · have hv : ((L ++ [cur]) ++ [[]]).map view0 = (L.map view ++ [{ view cur with shut := false }]) ++ [lineZ] := by
      rw [List.map_append, List.map_append]
      have : L.map view0 = L.map view := List.map_congr_left fun l hl => view0_of (hs l hl)
      rw [this]
      rfl
    rw [hv]
    unfold specOut
    simp
  · intro l hl
    rcases List.mem_append.1 hl with h | h
    · rcases List.mem_append.1 h with h | h
      · exact hok l h
      · simp at h; subst h; exact hc
    · simp at h; subst h; intro y hy; simp at hy

theorem brk_cases {b : UInt8} (h : brk b = true) : b = 9 ∨ b = 11 ∨ b = 10 ∨ b = 12 := by
  unfold brk at h
  simp only [Bool.and_eq_true, decide_eq_true_eq, UInt8.le_iff_toNat_le] at h
  have h1 : (9 : UInt8).toNat = 9 := rfl
  have h2 : (12 : UInt8).toNat = 12 := rfl
  rw [h1, h2] at h
  have : b.toNat = 9 ∨ b.toNat = 11 ∨ b.toNat = 10 ∨ b.toNat = 12 := by omega
  rcases this with h | h | h | h
  · exact .inl (UInt8.toNat_inj.1 h)
  · exact .inr (.inl (UInt8.toNat_inj.1 h))
  · exact .inr (.inr (.inl (UInt8.toNat_inj.1 h)))
  · exact .inr (.inr (.inr (UInt8.toNat_inj.1 h)))
theorem not_brk {b : UInt8} (h : ¬ brk b = true) : b ≠ 9 ∧ b ≠ 11 ∧ b ≠ 10 ∧ b ≠ 12 := by
  refine ⟨?_, ?_, ?_, ?_⟩ <;> (rintro rfl; exact h (by decide))
theorem brk_end {b : UInt8} (h : brk b = true) : endOf c b = 0 := by
  rcases brk_cases h with rfl | rfl | rfl | rfl <;> simp [endOf]
/-- A special part begins. -/
theorem step_special {s : St} {b : UInt8} (h0 : s.en = 0) (hb : endOf c b ≠ 0) : s.step c b = (if b = 255 ∧ c.flag 2 = true then s.upd else s.upd.put b).esc (endOf c b) ∧ (endOf c b = 255 ∨ endOf c b = 62 ∨ endOf c b = 59) ∧ (endOf c b = 255 ↔ b = 255) ∧ (endOf c b = 59 ↔ b = 38) ∧ (b = 255 ∨ b = 60 ∨ b = 38) := by
  have hn : brk b = false := by
    cases h : brk b
    · rfl
    · exact absurd (brk_end h) hb
  obtain ⟨n1, n2, n3, n4⟩ := not_brk (show ¬ brk b = true by rw [hn]; simp)
  unfold St.step
  rw [if_pos h0, if_neg n1, if_neg n2, if_neg n3, if_neg n4]
  unfold endOf at hb ⊢
  by_cases h1 : b = 255
  · subst h1
    simp
  · by_cases h2 : b = 60 ∧ c.flag 1 = true
    · obtain ⟨rfl, h3⟩ := h2
      simp [h3]
    · by_cases h3 : b = 38 ∧ c.flag 1 = true
      · obtain ⟨rfl, h4⟩ := h3
        simp [h4]
      · rw [if_neg h1, if_neg h2, if_neg h3] at hb
        exact absurd rfl hb
theorem step_plain {s : St} {b : UInt8} (h0 : s.en = 0) (hb : endOf c b = 0) (hn : ¬ brk b = true) : s.step c b = s.put b := by
  obtain ⟨n1, n2, n3, n4⟩ := not_brk hn
  unfold endOf at hb
  unfold St.step
  rw [if_pos h0, if_neg n1, if_neg n2, if_neg n3, if_neg n4]
  by_cases h1 : b = 255
  · rw [if_pos h1] at hb; cases hb
  · rw [if_neg h1] at hb ⊢
    by_cases h2 : b = 60 ∧ c.flag 1 = true
    · rw [if_pos h2] at hb; cases hb
    · rw [if_neg h2] at hb ⊢
      by_cases h3 : b = 38 ∧ c.flag 1 = true
      · rw [if_pos h3] at hb; cases hb
      · rw [if_neg h3]

theorem split_end (e : UInt8) (t : List UInt8) : t = t.takeWhile (· != e) ++ t.dropWhile (· != e) ∧ (∀ b ∈ t.takeWhile (· != e), b ≠ e) ∧ (t.dropWhile (· != e) = [] ∨ ∃ r, t.dropWhile (· != e) = e :: r) := by
  refine ⟨List.takeWhile_append_dropWhile.symm, ?_, ?_⟩
  · intro b hb
    have := List.all_takeWhile (l := t) (p := (· != e))
    simpa using List.all_eq_true.1 this b hb
  · cases h : t.dropWhile (· != e) with
    | nil => exact .inl rfl
    | cons b r =>
      right
      have := List.head?_dropWhile_not (· != e) t
      rw [h] at this
      simp at this
      subst this
      exact ⟨r, rfl⟩

theorem main (c : Cfg) : ∀ (m : Nat) (rest : List UInt8) (s : St) (o : List UInt8) (L : List (List SC)) (cur : List SC) (x : SC) (pl : List UInt8), rest.length ≤ m → Sim s o L cur x pl → WF L cur → x.fin = 0 → 0 ≤ x.width →
    ((rest.foldl (St.step c) s).flush c).out = o ++ specOut c (L.map view ++ endViews (linesGo cur (cellsGo c x pl rest))) := by
  have nil : ∀ (s : St) (o : List UInt8) (L : List (List SC)) (cur : List SC) (x : SC) (pl : List UInt8), Sim s o L cur x pl → WF L cur → x.fin = 0 → (s.flush c).out = o ++ specOut c (L.map view ++ endViews (linesGo cur (cellsGo c x pl []))) := by
    intro s o L cur x pl hs hw hx
    rw [cellsGo, hx]
    have : linesGo cur [⟨x.text ++ pl, x.width + rc pl, 0⟩] = [cur ++ [⟨x.text ++ pl, x.width + rc pl, 0⟩]] := by simp [linesGo, SC.tabbed]
    rw [this]
    exact flush_end (c := c) (x.width + rc pl) hw hs.out (by rw [hs.buf]; simp) hs.size hs.lines
  intro m
  induction m with
  | zero =>
    intro rest s o L cur x pl hm hs hw hx _
    obtain rfl : rest = [] := List.length_eq_zero_iff.1 (by omega)
    exact nil s o L cur x pl hs hw hx
  | succ m ih =>
    intro rest s o L cur x pl hm hs hw hx hx0
    cases rest with
    | nil => exact nil s o L cur x pl hs hw hx
    | cons b t =>
      simp only [List.length_cons] at hm
      rw [List.foldl_cons]
      have hu := hs.upd
      have hy0 : 0 ≤ x.width + (rc pl : Int) := by omega
      by_cases hsp : endOf c b ≠ 0
      · obtain ⟨hst, hen, h255, h59, hbb⟩ := step_special hs.en hsp
        rw [hst]
        obtain ⟨hsplit, hin, hend⟩ := split_end (endOf c b) t
        rw [cellsGo, if_pos hsp]
        generalize t.takeWhile (· != endOf c b) = inn at *
        generalize t.dropWhile (· != endOf c b) = dr at *
        subst hsplit
        rw [List.foldl_append, steps_in inn _ (by simpa [St.esc] using hsp) (by simpa [St.esc] using hin)]
        rcases hend with rfl | ⟨r, rfl⟩
        · -- it does not end
          simp only [List.foldl_nil, List.isEmpty_nil, Bool.not_true, List.drop_nil]
          rw [cellsGo]
          have : ∀ w, linesGo cur [⟨x.text ++ pl ++ passT c b inn false ++ [], w, x.fin⟩] = [cur ++ [⟨x.text ++ pl ++ passT c b inn false, w, 0⟩]] := by intro w; simp [linesGo, SC.tabbed, hx]
          rw [this]
          refine flush_end (c := c) _ hw ?_ ?_ ?_ ?_
          · split
            · exact hu.out
            · exact hu.out
          · unfold passT
            by_cases h : b = 255 ∧ c.flag 2 = true
            · rw [if_pos h, if_pos h]
              show s.upd.buf ++ inn = _
              rw [hu.buf]; simp
            · rw [if_neg h, if_neg h]
              show s.upd.buf ++ [b] ++ inn = _
              rw [hu.buf]; simp
          · unfold passT
            by_cases h : b = 255 ∧ c.flag 2 = true
            · rw [if_pos h, if_pos h]
              show s.upd.csize + inn.length = _
              rw [hu.size]; simp <;> omega
            · rw [if_neg h, if_neg h]
              show s.upd.csize + 1 + inn.length = _
              rw [hu.size]; simp <;> omega
          · split
            · exact hu.lines
            · exact hu.lines
        · -- it ends
          simp only [List.foldl_cons, List.isEmpty_cons, Bool.not_false, List.drop_succ_cons, List.drop_zero]
          refine ih r _ o L cur _ [] (by simp at hm; omega) ?_ hw hx (by show 0 ≤ x.width + (rc pl : Int) + (passW b inn : Int); omega)
          have hstep : ∀ u : St, ((u.esc (endOf c b)).puts inn).step c (endOf c b) = (if endOf c b = 255 ∧ c.flag 2 = true then (u.esc (endOf c b)).puts inn else ((u.esc (endOf c b)).puts inn).put (endOf c b)).endEsc c := by
            intro u
            unfold St.step
            rw [if_neg (by simpa [St.puts, St.esc] using hsp), if_pos (by simp [St.puts, St.esc])]
          rw [hstep]
          have hpos : s.upd.pos = s.upd.buf.length := rfl
          by_cases hs2 : b = 255 ∧ c.flag 2 = true
          · rw [if_pos hs2, if_pos ⟨h255.2 hs2.1, hs2.2⟩]
            have hpt : passT c b inn true = inn := by unfold passT; rw [if_pos hs2]
            rw [hpt]
            refine ⟨rfl, hu.out, ?_, ?_, ?_, ?_, hu.lines⟩
            · show s.upd.buf ++ inn = _
              rw [hu.buf]; simp
            · show (s.upd.buf ++ inn).length = _
              rw [hu.buf]; simp
            · show s.upd.csize + inn.length = _
              rw [hu.size]; simp <;> omega
            · show (if endOf c b = 255 then s.upd.cw + rc ((s.upd.buf ++ inn).drop s.upd.pos) - (if c.flag 2 then 0 else 2) else _) = _
              rw [if_pos (h255.2 hs2.1), hpos, List.drop_left, hu.cw, hs2.2]
              simp [passW, hs2.1]
          · rw [if_neg hs2, if_neg (fun h => hs2 ⟨h255.1 h.1, h.2⟩)]
            have hpt : passT c b inn true = b :: (inn ++ [endOf c b]) := by unfold passT; rw [if_neg hs2, if_pos rfl]
            rw [hpt]
            refine ⟨rfl, hu.out, ?_, ?_, ?_, ?_, hu.lines⟩
            · show s.upd.buf ++ [b] ++ inn ++ [endOf c b] = _
              rw [hu.buf]; simp
            · show (s.upd.buf ++ [b] ++ inn ++ [endOf c b]).length = _
              rw [hu.buf]; simp
            · show s.upd.csize + 1 + inn.length + 1 = _
              rw [hu.size]; simp <;> omega
            · show (if endOf c b = 255 then s.upd.cw + rc ((s.upd.buf ++ [b] ++ inn ++ [endOf c b]).drop s.upd.pos) - (if c.flag 2 then 0 else 2) else if endOf c b = 59 then s.upd.cw + 1 else s.upd.cw) = _
              by_cases hb : b = 255
              · subst hb
                have h2 : c.flag 2 = false := by
                  cases hf : c.flag 2
                  · rfl
                  · exact absurd ⟨rfl, hf⟩ hs2
                rw [if_pos (h255.2 rfl), hpos, List.append_assoc, List.append_assoc, List.drop_left, hu.cw, h2, h255.2 rfl, List.singleton_append, rc_cons (by decide), rc_snoc (by decide)]
                simp [passW]
                omega
              · rw [if_neg (fun h => hb (h255.1 h)), hu.cw]
                rcases hbb with h | h | h
                · exact absurd h hb
                · subst h
                  rw [if_neg (fun h => by have := h59.1 h; revert this; decide)]
                  simp [passW]
                · subst h
                  rw [if_pos (h59.2 rfl)]
                  simp [passW]
      · have hsp' : endOf c b = 0 := by simpa using hsp
        rw [cellsGo, if_neg hsp]
        by_cases hbr : brk b = true
        · rw [if_pos hbr]
          have h0 := hs.en
          rcases brk_cases hbr with rfl | rfl | hnl
          · have hst : s.step c 9 = s.upd.term true := by unfold St.step; rw [if_pos h0, if_pos rfl]
            rw [hst, linesGo, if_pos (show SC.tabbed ⟨x.text ++ pl, x.width + rc pl, 9⟩ = true from rfl)]
            exact ih t _ o L _ ⟨[], 0, 0⟩ [] (by omega) (hu.term 9 true rfl) ⟨hw.shut, hw.ok, fun y hy => by
              rcases List.mem_append.1 hy with h | h
              · exact hw.cur y h
              · simp at h; subst h; exact ⟨rfl, hy0⟩⟩ rfl (Int.le_refl _)
          · have hst : s.step c 11 = s.upd.term false := by unfold St.step; rw [if_pos h0, if_neg (by decide), if_pos rfl]
            rw [hst, linesGo, if_pos (show SC.tabbed ⟨x.text ++ pl, x.width + rc pl, 11⟩ = true from rfl)]
            exact ih t _ o L _ ⟨[], 0, 0⟩ [] (by omega) (hu.term 11 false rfl) ⟨hw.shut, hw.ok, fun y hy => by
              rcases List.mem_append.1 hy with h | h
              · exact hw.cur y h
              · simp at h; subst h; exact ⟨rfl, hy0⟩⟩ rfl (Int.le_refl _)
          · have htb : SC.tabbed ⟨x.text ++ pl, x.width + rc pl, b⟩ = false := by rcases hnl with rfl | rfl <;> rfl
            rw [linesGo, if_neg (by rw [htb]; simp)]
            have hne := lines_ne c t ⟨[], 0, 0⟩ [] [] rfl
            rw [endViews_cons _ hne]
            have ht := hu.term b false (by rcases hnl with rfl | rfl <;> rfl)
            simp only at ht
            have hvc : view (cur ++ [⟨x.text ++ pl, x.width + rc pl, b⟩]) = ⟨cur, x.text ++ pl, b == 12⟩ := view_snoc _ _
            have hdl : (cur ++ [(⟨x.text ++ pl, x.width + rc pl, b⟩ : SC)]).dropLast = cur := by simp
            have hlen : ((s.upd.term false).lines.getLastD []).length = cur.length + 1 := by
              rw [ht.lines, (pcL_ne _ _).1]; simp
            -- with a flush
            have hfl : Ends (view (cur ++ [⟨x.text ++ pl, x.width + rc pl, b⟩])) → ∀ u : St, Sim u ((o ++ specOut c ((L.map view ++ [{ view (cur ++ [⟨x.text ++ pl, x.width + rc pl, b⟩]) with shut := false }]) ++ [lineZ])) ++ (if (b == 12) = true ∧ c.flag 32 = true then hbarL else [])) [] [] ⟨[], 0, 0⟩ [] →
                ((t.foldl (St.step c) u).flush c).out = o ++ specOut c (L.map view ++ view (cur ++ [⟨x.text ++ pl, x.width + rc pl, b⟩]) :: endViews (linesGo [] (cellsGo c ⟨[], 0, 0⟩ [] t))) := by
              intro he u hu2
              rw [ih t u _ [] [] ⟨[], 0, 0⟩ [] (by omega) hu2 ⟨by simp, by simp, by simp⟩ rfl (Int.le_refl _)]
              have := spec_split (c := c) (A := L.map view) he (endViews_ne hne)
              rw [List.append_assoc, List.singleton_append] at this
              rw [this, hvc]
              simp only [List.map_nil, List.nil_append, List.append_assoc]
            have hf0 := ht.flush (c := c) hw.shut hw.ok (by rw [hdl]; exact hw.cur)
            rcases hnl with rfl | rfl
            · have hst : s.step c 10 = (s.upd.term false).nl c := by unfold St.step; rw [if_pos h0, if_neg (by decide), if_neg (by decide), if_pos rfl]
              rw [hst]
              unfold St.nl
              rw [hlen]
              by_cases hc : cur = []
              · subst hc
                rw [if_pos (by simp)]
                refine hfl (.inr ?_) _ ?_
                · rw [hvc]
                · have e : (if ((10 : UInt8) == 12) = true ∧ c.flag 32 = true then hbarL else []) = [] := if_neg (fun h => absurd h.1 (by decide))
                  rw [e, List.append_nil]
                  exact hf0
              · have : 0 < cur.length := List.length_pos_iff.2 hc
                rw [if_neg (by omega)]
                rw [ih t _ o _ [] ⟨[], 0, 0⟩ [] (by omega) ht.line ⟨?_, ?_, by simp⟩ rfl (Int.le_refl _)]
                · simp
                · intro l hl
                  rcases List.mem_append.1 hl with h | h
                  · exact hw.shut l h
                  · simp at h; subst h; rw [hvc]; rfl
                · intro l hl
                  rcases List.mem_append.1 hl with h | h
                  · exact hw.ok l h
                  · simp at h; subst h; rw [hdl]; exact hw.cur
            · have hst : s.step c 12 = (s.upd.term false).ff c := by unfold St.step; rw [if_pos h0, if_neg (by decide), if_neg (by decide), if_neg (by decide), if_pos rfl]
              rw [hst]
              unfold St.ff
              refine hfl (.inl ?_) _ ?_
              · rw [hvc]; rfl
              · by_cases h32 : c.flag 32 = true
                · rw [if_pos h32, if_pos ⟨rfl, h32⟩]
                  exact ⟨hf0.en, by show (St.flush c _).out ++ hbarL = _; rw [hf0.out], hf0.buf, hf0.pos, hf0.size, hf0.cw, hf0.lines⟩
                · rw [if_neg h32, if_neg (fun h => h32 h.2), List.append_nil]
                  exact hf0
        · rw [if_neg hbr, step_plain hs.en hsp' hbr]
          refine ih t _ o L cur x (pl ++ [b]) (by omega) ⟨hs.en, hs.out, ?_, hs.pos, ?_, hs.cw, hs.lines⟩ hw hx hx0
          · show s.buf ++ [b] = _
            rw [hs.buf]; simp
          · show s.csize + 1 = _
            rw [hs.size]; simp; omega

/-- The writer gives what the reference gives. -/
theorem out_format (c : Cfg) (s : List UInt8) : outOf c s = formatO c s := by
  unfold outOf formatO
  rw [main c s.length s (St.new []) [] [] [] ⟨[], 0, 0⟩ [] (Nat.le_refl _) ⟨rfl, rfl, rfl, rfl, rfl, rfl, rfl⟩ ⟨by simp, by simp, by simp⟩ rfl (Int.le_refl _)]
  rfl
end
end Go.Proofs.YteildpeogbenbaaDoor
