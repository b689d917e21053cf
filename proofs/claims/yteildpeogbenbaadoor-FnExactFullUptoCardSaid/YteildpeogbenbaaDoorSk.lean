/- Walks: spec.Lines. -/
import Derived.Test.YteildpeogbenbaaDoorSo
namespace Go.Proofs.YteildpeogbenbaaDoor
open Go.RowKit Go.Tw Go.Sort
set_option maxRecDepth 100000

/-- Values that are the lines LL: rows of cells below Bd, texts below TB. -/
def LV (w : World) (TB Bd : Nat) : List Value → List (List SC) → Prop
  | vs, [] => vs = []
  | vs, l :: LL => ∃ lv r, vs = lv :: r ∧ Cl (fun k => k < Bd) w TB lv l ∧ LV w TB Bd r LL
theorem Cl.shape {F : Nat → Prop} {w : World} {Bd : Nat} {v : Value} {l : List SC} (h : Cl F w Bd v l) : ∃ ao cp, v = .slice ao l.length cp := by
  obtain ⟨vs, ho, _⟩ := h.val; exact ho.shape
theorem Cl.kindB {F : Nat → Prop} {w : World} {Bd : Nat} {v : Value} {l : List SC} (h : Cl F w Bd v l) {g : Nat} (hg : v.ownBlock = some g) : F g ∧ Kind w g 55 := by
  obtain ⟨vs, ho, _⟩ := h.val
  obtain ⟨cur, hh⟩ := ho.block hg
  exact ⟨ho.mem g hg, cur, _, hh⟩
theorem LV.one {w : World} {TB Bd : Nat} : ∀ {LL : List (List SC)} {vs : List Value}, LV w TB Bd vs LL → vs.length = LL.length ∧ ∀ u ∈ vs, u.oneCell' = true := by
  intro LL
  induction LL with
  | nil => intro vs h; rw [show vs = [] from h]; simp
  | cons l LL ih =>
    intro vs h
    obtain ⟨lv, r, rfl, h1, h2⟩ := h
    obtain ⟨a, b⟩ := ih h2
    refine ⟨by simp [a], fun u hu => ?_⟩
    rcases List.mem_cons.1 hu with rfl | hu
    · obtain ⟨ao, cp, rfl⟩ := h1.shape; rfl
    · exact b u hu
theorem LV.kept {w w' : World} {F : Nat → Prop} {TB Bd : Nat} (t : Tch F w w') (h8 : Spare w TB F 5) (hc : Spare w Bd F 55) : ∀ {LL : List (List SC)} {vs : List Value}, LV w TB Bd vs LL → LV w' TB Bd vs LL := by
  intro LL
  induction LL with
  | nil => intro vs h; exact h
  | cons l LL ih =>
    intro vs h
    obtain ⟨lv, r, rfl, h1, h2⟩ := h
    exact ⟨lv, r, rfl, h1.kept t h8 (fun g hg => hc g (h1.kindB hg).1 (h1.kindB hg).2), ih h2⟩
theorem LV.mono {w : World} {TB Bd TB' Bd' : Nat} (hT : TB ≤ TB') (hB : Bd ≤ Bd') : ∀ {LL : List (List SC)} {vs : List Value}, LV w TB Bd vs LL → LV w TB' Bd' vs LL := by
  intro LL
  induction LL with
  | nil => intro vs h; exact h
  | cons l LL ih =>
    intro vs h
    obtain ⟨lv, r, rfl, h1, h2⟩ := h
    exact ⟨lv, r, rfl, h1.mono (fun k _ hk => Nat.lt_of_lt_of_le hk hB) hT, ih h2⟩
theorem LV.append {w : World} {TB Bd : Nat} : ∀ {LL MM : List (List SC)} {vs us : List Value}, LV w TB Bd vs LL → LV w TB Bd us MM → LV w TB Bd (vs ++ us) (LL ++ MM) := by
  intro LL
  induction LL with
  | nil => intro MM vs us h hm; rw [show vs = [] from h]; exact hm
  | cons l LL ih =>
    intro MM vs us h hm
    obtain ⟨lv, r, rfl, h1, h2⟩ := h
    exact ⟨lv, r ++ us, rfl, h1, ih h2 hm⟩
theorem LV.get {w : World} {TB Bd : Nat} : ∀ {LL : List (List SC)} {vs : List Value}, LV w TB Bd vs LL → ∀ j (h : j < LL.length), ∃ lv, vs[j]? = some lv ∧ Cl (fun k => k < Bd) w TB lv LL[j] := by
  intro LL
  induction LL with
  | nil => intro vs _ j h; simp at h
  | cons l LL ih =>
    intro vs h j hj
    obtain ⟨lv, r, rfl, h1, h2⟩ := h
    cases j with
    | zero => exact ⟨lv, rfl, h1⟩
    | succ j =>
      simp only [List.length_cons] at hj
      obtain ⟨lv', a, b⟩ := ih h2 j (by omega)
      exact ⟨lv', a, b⟩
/-- A row of lines of one's own. -/
structure Lw (F : Nat → Prop) (w : World) (TB Bd : Nat) (v : Value) (LL : List (List SC)) : Prop where
  val : ∃ vs, Own F w 39 1 v LL.length vs ∧ LV w TB Bd vs LL
theorem Lw.shape {F : Nat → Prop} {w : World} {TB Bd : Nat} {v : Value} {LL : List (List SC)} (h : Lw F w TB Bd v LL) : ∃ ao cp, v = .slice ao LL.length cp := by
  obtain ⟨vs, ho, _⟩ := h.val; exact ho.shape
theorem Lw.kindB {F : Nat → Prop} {w : World} {TB Bd : Nat} {v : Value} {LL : List (List SC)} (h : Lw F w TB Bd v LL) {g : Nat} (hg : v.ownBlock = some g) : F g ∧ Kind w g 39 := by
  obtain ⟨vs, ho, _⟩ := h.val
  obtain ⟨cur, hh⟩ := ho.block hg
  exact ⟨ho.mem g hg, cur, _, hh⟩
theorem Lw.kept {F G : Nat → Prop} {w w' : World} {TB Bd : Nat} {v : Value} {LL : List (List SC)} (h : Lw F w TB Bd v LL) (t : Tch G w w') (h8 : Spare w TB G 5) (hc : Spare w Bd G 55) (hv : ∀ g, v.ownBlock = some g → ¬ G g) : Lw F w' TB Bd v LL := by
  obtain ⟨vs, ho, hl⟩ := h.val
  exact ⟨vs, ho.kept t hv, hl.kept t h8 hc⟩
theorem Lw.mono {F G : Nat → Prop} {w : World} {TB Bd TB' Bd' : Nat} {v : Value} {LL : List (List SC)} (h : Lw F w TB Bd v LL) (hF : ∀ k, k < w.heap.size → F k → G k) (hT : TB ≤ TB') (hB : Bd ≤ Bd') : Lw G w TB' Bd' v LL := by
  obtain ⟨vs, ho, hl⟩ := h.val
  exact ⟨vs, ho.mono hF, hl.mono hT hB⟩
theorem Lw.lz {F : Nat → Prop} {w : World} {TB Bd : Nat} {v : Value} {LL : List (List SC)} (h : Lw F w TB Bd v LL) : Lz w v LL := by
  obtain ⟨vs, ho, hl⟩ := h.val
  rcases ho.row.2 with ⟨rfl, hn⟩ | ⟨g, cap, cur, rfl, _, hg, hcp, hm, hs, ht⟩
  · have : LL = [] := List.length_eq_zero_iff.1 hn
    subst this
    exact ⟨none, 0, rfl, Nat.le_refl _, Nat.zero_le _, fun _ e => (by cases e), fun j h => (by simp at h)⟩
  · refine ⟨some ⟨g, 0, none⟩, cap, rfl, hcp, hm, fun ad e => (by cases e; rfl), fun j hj => ?_⟩
    obtain ⟨lv, a, b⟩ := hl.get j hj
    refine ⟨⟨g, 0, none⟩, lv, rfl, ?_, b.ce⟩
    rw [← ht, List.getElem?_take] at a
    split at a
    · simp only [World.cell?, hg, Nat.zero_add]; simpa using a
    · cases a
/-- A line is appended to a row of lines. -/
theorem run_append_line {F : Nat → Prop} {w : World} {TB Bd : Nat} {v lv : Value} {LL : List (List SC)} {l : List SC} (hF : ∀ k, w.heap.size ≤ k → F k) (h : Lw F w TB Bd v LL) (hx : Cl (fun k => k < Bd) w TB lv l) (hl : LL.length ≤ 1000000000) (ty : TypeId) :
    ∃ v' w', (Builtin.append_ #[37, 37] ty #[v, .slice (some ⟨w.heap.size, 0, none⟩) 1 1]).run Tryd.prog (w.alloc (.cells #[lv] 39)) = .ok v' w' ∧ Lw F w' TB Bd v' (LL ++ [l]) ∧ Tch (fun k => v.ownBlock = some k) w w' := by
  obtain ⟨vs, ho, hlv⟩ := h.val
  obtain ⟨i0, hi, hz0, hz1, hz2⟩ := info_scs
  have ta : Tch (fun _ => False) w (w.alloc (.cells #[lv] 39)) := Tch.alloc _ _ _
  have h0 := ho.kept ta (fun _ _ => id)
  have hnew := heap_alloc_new w (.cells #[lv] 39)
  obtain ⟨v', w', hr, ho', hg, hblk, _⟩ := run_append_Own (P := Tryd.prog) _ F 37 ty 39 i0 _ 1 24 Tryd.underlying37 hi hz0 hz1 hz2 rfl (by decide) v LL.length vs h0 ⟨w.heap.size, 0, none⟩ 1 1 [lv] rfl (fun j u hj => by
      match j, hj with
      | 0, hj => simp at hj; subst hj; exact cell_of_blk hnew 0) (by
      intro u hu
      simp at hu
      subst hu
      obtain ⟨ao, cp, rfl⟩ := hx.shape; rfl) (by unfold maxLen; omega) (by omega) (fun k hk => hF k (by simp at hk; omega))
  have tg : Tch (fun k => v.ownBlock = some k) (w.alloc (.cells #[lv] 39)) w' := Tch.grown hg (fun k e => e)
  have tt : Tch (fun k => v.ownBlock = some k) w w' := (ta.mono (fun _ h => h.elim)).trans tg
  have hk : ∀ g, v.ownBlock = some g → Kind w g 39 := fun g e => (h.kindB e).2
  have h8 : Spare w TB (fun k => v.ownBlock = some k) 5 := fun g _ hk2 e => absurd ((hk g e).ne hk2) (by decide)
  have hc : Spare w Bd (fun k => v.ownBlock = some k) 55 := fun g _ hk2 e => absurd ((hk g e).ne hk2) (by decide)
  refine ⟨v', w', hr, ⟨_, by simpa using ho', ?_⟩, tt⟩
  exact (hlv.kept tt h8 hc).append ⟨lv, [], rfl, hx.kept tt h8 (fun g hg => hc g (hx.kindB hg).1 (hx.kindB hg).2), rfl⟩

def LiPost (w : World) (LL : List (List SC)) (e : Ending) (w' : World) : Prop := ∃ v, e = .returned v ∧ Lw (New w) w' w'.heap.size w'.heap.size v LL ∧ Below w.heap.size w w'
/-- The loop of Lines. -/
def LiRel (w2 : World) (l : List SC) (t5 t6 t13 : Value) (wr : World) : Prop :=
  ∃ (j : Nat) (out : List (List SC)) (cur : List SC) (Bd : Nat), j ≤ l.length ∧ t13 = .int .i64 j ∧ out ++ linesGo cur (l.drop j) = linesGo [] l ∧ w2.heap.size ≤ Bd ∧ Bd ≤ wr.heap.size ∧
    Lw (New w2) wr w2.heap.size Bd t5 out ∧ Cl (fun k => New w2 k ∧ Bd ≤ k) wr w2.heap.size t6 cur ∧ Tch (New w2) w2 wr ∧ out.length ≤ j ∧ cur.length ≤ j

section
variable {w2 wr : World} {t5 t6 tv : Value} {out : List (List SC)} {cur : List SC} {Bd : Nat} {x : SC}
/-- A cell goes to the line. -/
theorem li_cell (_ : w2.heap.size ≤ Bd) (h2 : Bd ≤ wr.heap.size) (ho : Lw (New w2) wr w2.heap.size Bd t5 out) (hc : Cl (fun k => New w2 k ∧ Bd ≤ k) wr w2.heap.size t6 cur) (t : Tch (New w2) w2 wr) (hx : Tx wr w2.heap.size tv x.text) (hl : cur.length ≤ 1000000000) (ty : TypeId) :
    ∃ v' w', (Builtin.append_ #[39, 39] ty #[t6, .slice (some ⟨wr.heap.size, 0, none⟩) 1 1]).run Tryd.prog (wr.alloc (.cells #[tv, .int .i64 x.width, .int .u8 x.fin.toNat] 55)) = .ok v' w' ∧ Lw (New w2) w' w2.heap.size Bd t5 out ∧ Cl (fun k => New w2 k ∧ Bd ≤ k) w' w2.heap.size v' (cur ++ [x]) ∧ Tch (New w2) w2 w' ∧ Bd ≤ w'.heap.size ∧
      Tch (fun k => t6.ownBlock = some k) wr w' := by
  obtain ⟨v', w', hr, hc', tt, _⟩ := run_append_cell (F := fun k => New w2 k ∧ Bd ≤ k) (fun k hk => ⟨Nat.le_trans t.size hk, by omega⟩) hc hx hl ty
  have h8 : Spare wr w2.heap.size (fun k => t6.ownBlock = some k) 5 := fun g _ hk e => absurd ((hc.kindB e).2.ne hk) (by decide)
  refine ⟨v', w', hr, ho.kept tt h8 ?_ ?_, hc', t.trans (tt.mono (fun g e => (hc.kindB e).1.1)), Nat.le_trans h2 tt.size, tt⟩
  · intro g hg hk e
    have := (hc.kindB e).1.2
    omega
  · intro g hg e
    exact absurd ((ho.kindB hg).2.ne (hc.kindB e).2) (by decide)
/-- The line goes to the lines. -/
theorem li_line (_ : w2.heap.size ≤ Bd) (h2 : Bd ≤ wr.heap.size) (ho : Lw (New w2) wr w2.heap.size Bd t5 out) (hc : Cl (fun k => New w2 k ∧ Bd ≤ k) wr w2.heap.size t6 cur) (t : Tch (New w2) w2 wr) (hl : out.length ≤ 1000000000) (ty : TypeId) :
    ∃ v' w', (Builtin.append_ #[37, 37] ty #[t5, .slice (some ⟨wr.heap.size, 0, none⟩) 1 1]).run Tryd.prog (wr.alloc (.cells #[t6] 39)) = .ok v' w' ∧ Lw (New w2) w' w2.heap.size wr.heap.size v' (out ++ [cur]) ∧ Tch (New w2) w2 w' ∧ wr.heap.size ≤ w'.heap.size := by
  have hcl : Cl (fun k => k < wr.heap.size) wr w2.heap.size t6 cur := hc.mono (fun k hk _ => hk) (Nat.le_refl _)
  obtain ⟨v', w', hr, ho', tt⟩ := run_append_line (F := New w2) (fun k hk => Nat.le_trans t.size hk) (ho.mono (fun _ _ h => h) (Nat.le_refl _) h2) hcl hl ty
  exact ⟨v', w', hr, ho', t.trans (tt.mono (fun g e => (ho.kindB e).1)), tt.size⟩
end
end Go.Proofs.YteildpeogbenbaaDoor

namespace Go.Proofs.YteildpeogbenbaaDoor
open Go.RowKit Go.Tw Go.Sort
set_option maxRecDepth 100000

theorem cellsGo_len (c : Cfg) : ∀ (n : Nat) (s : List UInt8) (x : SC) (pl : List UInt8), s.length ≤ n → (cellsGo c x pl s).length ≤ s.length + 1 := by
  intro n
  induction n with
  | zero =>
    intro s x pl hs
    obtain rfl : s = [] := List.length_eq_zero_iff.1 (by omega)
    rw [cellsGo]; simp
  | succ n ih =>
    intro s x pl hs
    cases s with
    | nil => rw [cellsGo]; simp
    | cons b t =>
      simp only [List.length_cons] at hs
      rw [cellsGo]
      split
      · have h1 := (List.dropWhile_sublist (fun x => x != endOf c b) (l := t)).length_le
        have h2 := ih ((t.dropWhile (· != endOf c b)).drop 1) ⟨x.text ++ pl ++ passT c b (t.takeWhile (· != endOf c b)) (!(t.dropWhile (· != endOf c b)).isEmpty), x.width + rc pl + passW b (t.takeWhile (· != endOf c b)), x.fin⟩ [] (by simp only [List.length_drop]; omega)
        simp only [List.length_drop, List.length_cons] at h2 ⊢
        omega
      · split
        · have := ih t ⟨[], 0, 0⟩ [] (by omega)
          simp only [List.length_cons]; omega
        · have := ih t x (pl ++ [b]) (by omega)
          simp only [List.length_cons]; omega
/-- A cell that is read. -/
theorem Cl.at {F : Nat → Prop} {w : World} {Bd n cp : Nat} {ao : Option Addr} {l : List SC} (h : Cl F w Bd (.slice ao n cp) l) {j : Nat} (hj : j < l.length) : ∃ g tv, ao = some ⟨g, 0, none⟩ ∧ w.cell? ⟨g, j * 3, none⟩ = some tv ∧ w.cell? ⟨g, j * 3 + 1, none⟩ = some (.int .i64 l[j].width) ∧ w.cell? ⟨g, j * 3 + 2, none⟩ = some (.int .u8 l[j].fin.toNat) ∧ Tx w Bd tv l[j].text := by
  obtain ⟨vs, ho, hc⟩ := h.val
  obtain ⟨tv, a, b, c, d⟩ := hc.get j hj
  rcases ho.row.2 with ⟨_, hn⟩ | ⟨g, cap, cur, e, _, hg, hcp, hm, hs, ht⟩
  · omega
  · simp only [Value.slice.injEq] at e
    obtain ⟨rfl, _, _⟩ := e
    have k : ∀ {i : Nat} {u : Value}, vs[i]? = some u → w.cell? ⟨g, i, none⟩ = some u := by
      intro i u hu
      rw [← ht, List.getElem?_take] at hu
      split at hu
      · simp only [World.cell?, hg]; simpa using hu
      · cases hu
    have e3 : 3 * j = j * 3 := Nat.mul_comm _ _
    rw [e3] at a b c
    exact ⟨g, tv, rfl, k a, k b, k c, d⟩

set_option maxHeartbeats 4000000 in
theorem lines_calls (w : World) (m t p f : Nat) (hf : f < 64) (ch : UInt8) {v : Value} {s : List UInt8} (h : Rw w v s) (hl : s.length ≤ 1000000) :
    Calls Tryd.prog 16 #[.agg #[.int .i64 m, .int .i64 t, .int .i64 p, .int .u8 ch.toNat, .int .i64 f], v] w (LiPost w (linesGo [] (cellsGo (cfgOf m t p f ch) ⟨[], 0, 0⟩ [] s))) := by
  obtain ⟨w1, hw1⟩ : ∃ w1, w1 = w.alloc (.cells #[.int .i64 m, .int .i64 t, .int .i64 p, .int .u8 ch.toNat, .int .i64 f] 23) := ⟨_, rfl⟩
  have hb0 : Below w.heap.size w w1 := hw1 ▸ (Below.refl _ w).alloc (Nat.le_refl _) _
  have hc0 : w1.heap[w.heap.size]? = some (.cells #[.int .i64 m, .int .i64 t, .int .i64 p, .int .u8 ch.toNat, .int .i64 f] 23 (0, 0)) := hw1 ▸ heap_alloc_new w _
  have hCE := cells_callsW w1 m t p f hf ch (h.below hb0) hl
  obtain ⟨l, hl0⟩ : ∃ l, l = cellsGo (cfgOf m t p f ch) ⟨[], 0, 0⟩ [] s := ⟨_, rfl⟩
  have hll : l.length ≤ 1000001 := by rw [hl0]; have := cellsGo_len (cfgOf m t p f ch) s.length s ⟨[], 0, 0⟩ [] (Nat.le_refl _); omega
  rw [← hl0] at hCE ⊢
  obtain ⟨d0, d1, d2, d3, d4⟩ := conf_at hc0
  have HCE := Lib.hid hCE
  have HB0 := Lib.hid hb0
  rw [hw1] at d0 d1 d2 d3 d4 HCE HB0
  obtain ⟨ao, cp, rfl⟩ := h.shape
  clear hb0 hc0 hCE hl0 hw1 h
  go_enter Tryd.func16, Tryd.ntmps16
  go_wp2_with fail
  refine HCE.out.mono ?_
  rintro e w2 ⟨v2, rfl, hcl, hb2⟩
  obtain ⟨a2, cp2, rfl⟩ := hcl.shape
  have HCL := Lib.hid hcl
  have HB2 := Lib.hid (HB0.out.trans (hb2.mono HB0.out.size))
  clear hcl hb2 HCE HB0 d0 d1 d2 d3 d4
  go_wp2_with fail
  go_loopw [5, 6, 13] (fun t5 t6 t13 wr => LiRel w2 l t5 t6 t13 wr) (fun _ _ t13 _ => l.length - (intOf t13).toNat)
  case atStart => exact ⟨0, [], [], w2.heap.size, Nat.zero_le _, rfl, rfl, Nat.le_refl _, Nat.le_refl _, ⟨[], Own.nil _ _ _ _, rfl⟩, ⟨[], Own.nil _ _ _ _, rfl⟩, Tch.refl _ _, Nat.le_refl _, Nat.le_refl _⟩
  case round =>
    obtain ⟨j, out, cur, Bd, hj, rfl, hgo, h1, h2, ho, hc, tt, hol, hcl⟩ := hrel
    have HGO := Lib.hid hgo
    clear hgo
    obtain ⟨ao5, cp5, rfl⟩ := ho.shape
    obtain ⟨ao6, cp6, rfl⟩ := hc.shape
    by_cases hlt : j < l.length
    · obtain ⟨g, tv, rfl, c0, c1, c2, htx⟩ := HCL.out.at hlt
      have htxw : Tx w2 w2.heap.size tv l[j].text := htx
      obtain ⟨ta, tn, tc, rfl⟩ := (show ∃ ta tn tc, tv = .slice ta tn tc from by obtain ⟨a, c, e, _⟩ := htx.rd.val; exact ⟨a, _, c, e⟩)
      obtain ⟨x, hx⟩ : ∃ x, x = l[j] := ⟨_, rfl⟩
      have hdr : l.drop j = x :: l.drop (j + 1) := by rw [List.drop_eq_getElem_cons hlt, hx]
      rw [← hx] at c1 c2 htxw htx
      have HDR := Lib.hid hdr
      have k0 : wr.cell? ⟨g, j * 3, none⟩ = some (.slice ta tn tc) := tt.cell c0 (by have := block_lt_of_cell c0; unfold New; simpa using this)
      have k1 : wr.cell? ⟨g, j * 3 + 1, none⟩ = some (.int .i64 x.width) := tt.cell c1 (by have := block_lt_of_cell c1; unfold New; simpa using this)
      have k2 : wr.cell? ⟨g, j * 3 + 2, none⟩ = some (.int .u8 x.fin.toNat) := tt.cell c2 (by have := block_lt_of_cell c2; unfold New; simpa using this)
      have tA : Tch (fun _ => False) wr (wr.alloc (.cells #[.slice ta tn tc, .int .i64 x.width, .int .u8 x.fin.toNat] 55)) := Tch.alloc _ _ _
      obtain ⟨v6, w6, hrun6, ho6, hc6, t6', hB6, hX6⟩ := li_cell (tv := .slice ta tn tc) (x := x) h1 (Nat.le_trans h2 tA.size) (ho.kept tA (fun _ _ _ => id) (fun _ _ _ => id) (fun _ _ => id)) (hc.kept tA (fun _ _ _ => id) (fun _ _ => id)) (tt.trans (tA.mono (fun _ h => h.elim))) ((htxw.kept tt (fun g hg hk hn => absurd hg (Nat.not_lt.2 hn))).kept tA (fun _ _ _ => id)) (by omega) 39
      have hb6 : w6.heap[wr.heap.size]? = some (.cells #[.slice ta tn tc, .int .i64 x.width, .int .u8 x.fin.toNat] 55 (0, 0)) := hX6.heap (heap_alloc_new wr _) (fun e => by
        obtain ⟨vs, ho1, _⟩ := hc.val
        have := ho1.lt e
        omega)
      have b60 : w6.cell? ⟨wr.heap.size, 0, none⟩ = some (.slice ta tn tc) := cell_of_blk hb6 0
      have b61 : w6.cell? ⟨wr.heap.size, 1, none⟩ = some (.int .i64 x.width) := cell_of_blk hb6 1
      have b62 : w6.cell? ⟨wr.heap.size, 2, none⟩ = some (.int .u8 x.fin.toNat) := cell_of_blk hb6 2
      clear hb6 hX6
      obtain ⟨a6, n6, p6, rfl⟩ := (show ∃ a n p, v6 = .slice a n p from by obtain ⟨a, c, e⟩ := hc6.shape; exact ⟨a, _, c, e⟩)
      have hz6 : (wr.alloc (.cells #[.slice ta tn tc, .int .i64 x.width, .int .u8 x.fin.toNat] 55)).heap.size = wr.heap.size + 1 := by simp
      rw [hz6] at hrun6
      have HRUN6 := Lib.hid hrun6
      have HO6 := Lib.hid ho6
      have HC6 := Lib.hid hc6
      have T6 := Lib.hid t6'
      have HB6 := Lib.hid hB6
      have HTA := Lib.hid (tabbed_calls w6 (.slice ta tn tc) x)
      obtain ⟨tb, htb⟩ : ∃ tb, tb = x.tabbed := ⟨_, rfl⟩
      rw [← htb] at HTA
      have HTB := Lib.hid htb
      clear hrun6 ho6 hc6 t6' hB6 htb hdr hx htx htxw ho hc tt tA hz6 c0 c1 c2
      cases tb
      · have hTd : ∀ w7, Below w6.heap.size w6 w7 → ∃ v8 w8, (Builtin.append_ #[37, 37] 37 #[.slice ao5 out.length cp5, .slice (some ⟨w7.heap.size, 0, none⟩) 1 1]).run Tryd.prog (w7.alloc (.cells #[.slice a6 n6 p6] 39)) = .ok v8 w8 ∧ Lw (New w2) w8 w2.heap.size w7.heap.size v8 (out ++ [cur ++ [x]]) ∧ Tch (New w2) w2 w8 ∧ w7.heap.size ≤ w8.heap.size := by
          intro w7 hb7
          have t7 : Tch (fun _ => False) w6 w7 := Tch.of_below hb7
          exact li_line h1 (Nat.le_trans HB6.out t7.size) (HO6.out.kept t7 (fun _ _ _ => id) (fun _ _ _ => id) (fun _ _ => id)) (HC6.out.kept t7 (fun _ _ _ => id) (fun _ _ => id)) (T6.out.trans (t7.mono (fun _ h => h.elim))) (by omega) _
        have HTD := Lib.hid hTd
        clear hTd
        go_wp2_with (at_builtin; refine wpList_append_eq rfl (.tmp 17) (.tmp 19) 39 rfl rfl rfl HRUN6.out ?_)
        refine HTA.out.mono ?_
        rintro e w7 ⟨rfl, hb7⟩
        obtain ⟨v8, w8, hrun8, ho8, t8, hz8⟩ := HTD.out w7 hb7
        have HRUN8 := Lib.hid hrun8
        have HO8 := Lib.hid ho8
        have T8 := Lib.hid t8
        have HZ8 := Lib.hid hz8
        have HZ7 := Lib.hid hb7.size
        clear hb7 hrun8 ho8 t8 hz8 HTD HTA HRUN6 HO6 HC6
        go_wp2_with (at_builtin; refine wpList_append_eq rfl (.tmp 24) (.tmp 26) 37 rfl rfl rfl HRUN8.out ?_)
        go_roundw
        case rel =>
          refine ⟨j + 1, out ++ [cur ++ [x]], [], w8.heap.size, by omega, by go_num, ?_, ?_, Nat.le_refl _, HO8.out.mono (fun _ _ h => h) (Nat.le_refl _) HZ8.out, ⟨[], Own.nil _ _ _ _, rfl⟩, T8.out, by simp; omega, Nat.zero_le _⟩
          · rw [← HGO.out, HDR.out, linesGo, if_neg (by rw [← HTB.out]; simp)]
            simp
          · exact T8.out.size
        case measure => simp [intOf]; omega
      · go_wp2_with (at_builtin; refine wpList_append_eq rfl (.tmp 17) (.tmp 19) 39 rfl rfl rfl HRUN6.out ?_)
        refine HTA.out.mono ?_
        rintro e w7 ⟨rfl, hb7⟩
        have T7 := Lib.hid (Tch.of_below (F := fun _ => False) hb7)
        clear hb7 HTA HRUN6
        go_wp2_with fail
        go_roundw
        case rel =>
          refine ⟨j + 1, out, cur ++ [x], Bd, by omega, by go_num, ?_, h1, Nat.le_trans HB6.out T7.out.size, HO6.out.kept T7.out (fun _ _ _ => id) (fun _ _ _ => id) (fun _ _ => id), HC6.out.kept T7.out (fun _ _ _ => id) (fun _ _ => id), T6.out.trans (T7.out.mono (fun _ h => h.elim)), by omega, by simp; omega⟩
          rw [← HGO.out, HDR.out]
          conv => rhs; rw [linesGo, if_pos HTB.out.symm]
        case measure => simp [intOf]; omega
    · obtain rfl : j = l.length := by omega
      have HO := Lib.hid ho
      have T := Lib.hid tt
      have HSZ := Lib.hid h2
      clear ho hc tt hlt hj h1 h2
      go_wp2_with fail
      go_ret
      refine ⟨_, rfl, ?_, HB2.out.trans ((New.below T.out).mono HB2.out.size)⟩
      have e : linesGo [] l = out := by
        rw [← HGO.out, List.drop_length]; simp [linesGo]
      rw [e]
      exact HO.out.mono (fun k _ h => Nat.le_trans HB2.out.size h) T.out.size HSZ.out
end Go.Proofs.YteildpeogbenbaaDoor
