/- The memory of spec.Cells' loop. -/
import Derived.Test.YteildpeogbenbaaDoorSf
import Derived.Test.YteildpeogbenbaaDoorOrl
namespace Go.Proofs.YteildpeogbenbaaDoor
open Go.RowKit Go.Tw Go.Sort
set_option maxRecDepth 100000

/-- A text is appended to an owned row of bytes. -/
theorem run_append_rd {F : Nat → Prop} {w : World} {v : Value} {n : Nat} {xs : List UInt8} (hF : ∀ k, w.heap.size ≤ k → F k) (h : Own F w 5 1 v n (bvs xs)) {x : Value} {bs : List UInt8} (hrd : Rd w x bs) (hb : n + bs.length ≤ 100000000000000) (ty : TypeId) :
    ∃ v' w', (Builtin.append_ #[26, 26] ty #[v, x]).run Tryd.prog w = .ok v' w' ∧ Own F w' 5 1 v' (n + bs.length) (bvs (xs ++ bs)) ∧ Tch (fun k => v.ownBlock = some k) w w' ∧ (∀ g, v'.ownBlock = some g → v.ownBlock = some g ∨ w.heap.size ≤ g) := by
  obtain ⟨i0, hi, hz0, hz1, hz2⟩ := info_parts Tryd.info_u8
  obtain ⟨ao, cp, rfl, h1, h2, h3, h4, h5⟩ := hrd.val
  rcases ao with _ | ad
  · have hcp : cp = 0 := h3 rfl
    subst hcp
    have hbs : bs = [] := List.length_eq_zero_iff.1 (by omega)
    subst hbs
    have hr := run_append_owned_none (P := Tryd.prog) (w := w) 0 26 ty 5 i0 1 Tryd.underlying26 hi _ n _ h.row
    exact ⟨_, _, hr, by simpa using h, Tch.refl _ _, fun g hg => .inl hg⟩
  · have hsp := h4 ad rfl
    obtain ⟨k, o, sp⟩ := ad
    simp only at hsp
    subst hsp
    have hcells : ∀ j (h : j < bs.length), w.cell? ⟨k, o + j, none⟩ = some (bv bs[j]) := fun j hj => by
      obtain ⟨ad, e, hc⟩ := h5 j hj
      cases e
      exact hc
    obtain ⟨v', w', hr, ho, hg, hblk, hnil⟩ := run_append_Own (P := Tryd.prog) w F 26 ty 5 i0 (.int .u8 0) 1 1 Tryd.underlying26 hi hz0 hz1 hz2 rfl (by decide) _ n _ h ⟨k, o, none⟩ bs.length cp (bvs bs) (by simp) (Rd.news hcells) (bvs_one bs) (by unfold maxLen; omega) (by omega) hF
    rw [← bvs_append] at ho
    exact ⟨v', w', hr, ho, Tch.grown hg (fun k e => e), hblk⟩
theorem run_append_rw {F : Nat → Prop} {w : World} {v : Value} {n : Nat} {xs : List UInt8} (hF : ∀ k, w.heap.size ≤ k → F k) (h : Own F w 5 1 v n (bvs xs)) {x : Value} {bs : List UInt8} (hrw : Rw w x bs) (hb : n + bs.length ≤ 100000000000000) (ty : TypeId) :
    ∃ v' w', (Builtin.append_ #[26, 26] ty #[v, x]).run Tryd.prog w = .ok v' w' ∧ Own F w' 5 1 v' (n + bs.length) (bvs (xs ++ bs)) ∧ Tch (fun k => v.ownBlock = some k) w w' ∧ (∀ g, v'.ownBlock = some g → v.ownBlock = some g ∨ w.heap.size ≤ g) := by
  rcases hrw with hrd | ⟨rfl, ad, cp, rfl, hcp⟩
  · exact run_append_rd hF h hrd hb ty
  · obtain ⟨i0, hi, hz0, hz1, hz2⟩ := info_parts Tryd.info_u8
    obtain ⟨v', w', hr, ho, hg, hblk, hnil⟩ := run_append_Own (P := Tryd.prog) w F 26 ty 5 i0 (.int .u8 0) 1 1 Tryd.underlying26 hi hz0 hz1 hz2 rfl (by decide) _ n _ h ad 0 cp [] (by simp) (fun j u h => by simp at h) (fun u h => by simp at h) (by unfold maxLen; simp at hb; omega) (by simp at hb; omega) hF
    exact ⟨v', w', hr, by simpa using ho, Tch.grown hg (fun k e => e), hblk⟩

/-- A cell is appended to a row of cells. -/
theorem run_append_cell {F : Nat → Prop} {w : World} {Bd : Nat} {v : Value} {l : List SC} (hF : ∀ k, w.heap.size ≤ k → F k) (h : Cl F w Bd v l) {tv : Value} {x : SC} (hx : Tx w Bd tv x.text) (hl : l.length ≤ 1000000000) (ty : TypeId) :
    ∃ v' w', (Builtin.append_ #[39, 39] ty #[v, .slice (some ⟨w.heap.size, 0, none⟩) 1 1]).run Tryd.prog (w.alloc (.cells #[tv, .int .i64 x.width, .int .u8 x.fin.toNat] 55)) = .ok v' w' ∧ Cl F w' Bd v' (l ++ [x]) ∧ Tch (fun k => v.ownBlock = some k) w w' ∧ (∀ g, v'.ownBlock = some g → v.ownBlock = some g ∨ w.heap.size ≤ g) := by
  obtain ⟨vs, ho, hc⟩ := h.val
  obtain ⟨i0, hi, hz0, hz1, hz2⟩ := info_sc
  have ta : Tch (fun _ => False) w (w.alloc (.cells #[tv, .int .i64 x.width, .int .u8 x.fin.toNat] 55)) := Tch.alloc _ _ _
  have h0 := ho.kept ta (fun _ _ => id)
  have hnew := heap_alloc_new w (.cells #[tv, .int .i64 x.width, .int .u8 x.fin.toNat] 55)
  obtain ⟨v', w', hr, ho', hg, hblk, _⟩ := run_append_Own (P := Tryd.prog) _ F 39 ty 55 i0 _ 3 40 Tryd.underlying39 hi hz0 hz1 hz2 rfl (by decide) v l.length vs h0 ⟨w.heap.size, 0, none⟩ 1 1 [tv, .int .i64 x.width, .int .u8 x.fin.toNat] rfl (fun j u hj => by
      match j, hj with
      | 0, hj => simp at hj; subst hj; exact cell_of_blk hnew 0
      | 1, hj => simp at hj; subst hj; exact cell_of_blk hnew 1
      | 2, hj => simp at hj; subst hj; exact cell_of_blk hnew 2) (by
      intro u hu
      simp at hu
      rcases hu with rfl | rfl | rfl
      · exact hx.one
      · rfl
      · rfl) (by unfold maxLen; omega) (by omega) (fun k hk => hF k (by simp at hk; omega))
  have tg : Tch (fun k => v.ownBlock = some k) (w.alloc (.cells #[tv, .int .i64 x.width, .int .u8 x.fin.toNat] 55)) w' := Tch.grown hg (fun k e => e)
  have tt : Tch (fun k => v.ownBlock = some k) w w' := (ta.mono (fun _ h => h.elim)).trans tg
  have hsp : Spare w Bd (fun k => v.ownBlock = some k) 5 := by
    intro g _ hk e
    obtain ⟨cur, hh⟩ := ho.block e
    have := hk.ne (e' := 55) ⟨cur, _, hh⟩
    exact absurd this (by decide)
  refine ⟨v', w', hr, ⟨_, by simpa using ho', ?_⟩, tt, fun g hg => by
    rcases hblk g hg with h | h
    · exact .inl h
    · right; simp at h; omega⟩
  exact (hc.kept tt hsp).append ⟨tv, [], rfl, hx.kept tt hsp, rfl⟩

/-- The loop's memory: the cells so far in t5, the next one in block X, its text in tv. -/
structure CSt (w1 : World) (X : Nat) (wr : World) (t5 : Value) (out : List SC) (x : SC) (tv : Value) : Prop where
  bd : ∃ Bd, Cl (fun k => New w1 k ∧ k ≠ X) wr Bd t5 out ∧ Own (fun k => New w1 k ∧ Bd ≤ k) wr 5 1 tv x.text.length (bvs x.text) ∧ Bd ≤ wr.heap.size
  blk : wr.heap[X]? = some (.cells #[tv, .int .i64 x.width, .int .u8 x.fin.toNat] 55 (0, 0))
  new : New w1 X
  tch : Tch (New w1) w1 wr

section
variable {w1 wr : World} {X : Nat} {t5 tv : Value} {out : List SC} {x : SC}
theorem CSt.kind (h : CSt w1 X wr t5 out x tv) : Kind wr X 55 := ⟨_, _, h.blk⟩
theorem CSt.kept {w' : World} (h : CSt w1 X wr t5 out x tv) (t : Tch (fun _ => False) wr w') : CSt w1 X w' t5 out x tv := by
  obtain ⟨Bd, h1, h2, h3⟩ := h.bd
  exact ⟨⟨Bd, h1.kept t (fun _ _ _ => id) (fun _ _ => id), h2.kept t (fun _ _ => id), Nat.le_trans h3 t.size⟩, t.heap h.blk id, h.new, h.tch.trans (t.mono (fun _ h => h.elim))⟩
theorem CSt.below {w' : World} (h : CSt w1 X wr t5 out x tv) (t : Below wr.heap.size wr w') : CSt w1 X w' t5 out x tv := h.kept (Tch.of_below t)
/-- A store to the block of the next cell. -/
theorem CSt.setX (h : CSt w1 X wr t5 out x tv) {k : Nat} {u : Value} {Bd : Nat} (h1 : Cl (fun k => New w1 k ∧ k ≠ X) wr Bd t5 out) (h3 : Bd ≤ wr.heap.size) :
    Cl (fun k => New w1 k ∧ k ≠ X) (wr.setCell ⟨X, k, none⟩ u) Bd t5 out ∧ Bd ≤ (wr.setCell ⟨X, k, none⟩ u).heap.size ∧ Tch (New w1) w1 (wr.setCell ⟨X, k, none⟩ u) ∧ Tch (fun g => g = X) wr (wr.setCell ⟨X, k, none⟩ u) := by
  have t : Tch (fun g => g = X) wr (wr.setCell ⟨X, k, none⟩ u) := Tch.setCell (F := fun g => g = X) (a := ⟨X, k, none⟩) _ rfl _
  refine ⟨h1.kept t ?_ ?_, Nat.le_trans h3 t.size, h.tch.trans (t.mono (fun g e => e ▸ h.new)), t⟩
  · intro g _ hk e
    subst e
    exact absurd (hk.ne h.kind) (by decide)
  · intro g hg e
    obtain ⟨vs, ho, _⟩ := h1.val
    exact (ho.mem g hg).2 e
theorem own_ne {F : Nat → Prop} {v : Value} {n : Nat} {xs : List Value} (h : CSt w1 X wr t5 out x tv) (ho : Own F wr 5 1 v n xs) : ∀ g, v.ownBlock = some g → ¬ g = X := by
  intro g hg e
  subst e
  obtain ⟨cur, hh⟩ := ho.block hg
  exact absurd (Kind.ne ⟨_, _, hh⟩ h.kind) (by decide)
theorem CSt.setW (h : CSt w1 X wr t5 out x tv) (n : Int) : CSt w1 X (wr.setCell ⟨X, 1, none⟩ (.int .i64 n)) t5 out { x with width := n } tv := by
  obtain ⟨Bd, h1, h2, h3⟩ := h.bd
  obtain ⟨a, b, c, d⟩ := h.setX (k := 1) (u := .int .i64 n) h1 h3
  exact ⟨⟨Bd, a, h2.kept d (own_ne h h2), b⟩, by rw [blk_set h.blk]; simp, h.new, c⟩
theorem CSt.setF (h : CSt w1 X wr t5 out x tv) (n : UInt8) : CSt w1 X (wr.setCell ⟨X, 2, none⟩ (.int .u8 n.toNat)) t5 out { x with fin := n } tv := by
  obtain ⟨Bd, h1, h2, h3⟩ := h.bd
  obtain ⟨a, b, c, d⟩ := h.setX (k := 2) (u := .int .u8 n.toNat) h1 h3
  exact ⟨⟨Bd, a, h2.kept d (own_ne h h2), b⟩, by rw [blk_set h.blk]; simp, h.new, c⟩
/-- Text goes to the next cell. -/
theorem CSt.appendW (h : CSt w1 X wr t5 out x tv) {pv : Value} {bs : List UInt8} (hrw : Rw wr pv bs) (hb : x.text.length + bs.length ≤ 10000000000000) (ty : TypeId) :
    ∃ tv' w', (Builtin.append_ #[26, 26] ty #[tv, pv]).run Tryd.prog wr = .ok tv' w' ∧ w'.heap[X]? = some (.cells #[tv, .int .i64 x.width, .int .u8 x.fin.toNat] 55 (0, 0)) ∧
      CSt w1 X (w'.setCell ⟨X, 0, none⟩ tv') t5 out { x with text := x.text ++ bs } tv' := by
  obtain ⟨Bd, h1, h2, h3⟩ := h.bd
  obtain ⟨tv', w', hr, ho, ht, hblk⟩ := run_append_rw (F := fun k => New w1 k ∧ Bd ≤ k) (fun k hk => ⟨Nat.le_trans h.tch.size hk, by omega⟩) h2 hrw (by omega) ty
  have hX : w'.heap[X]? = some (.cells #[tv, .int .i64 x.width, .int .u8 x.fin.toNat] 55 (0, 0)) := ht.heap h.blk (fun e => own_ne h h2 X e rfl)
  have hcl : Cl (fun k => New w1 k ∧ k ≠ X) w' Bd t5 out := by
    refine h1.kept ht ?_ ?_
    · intro g hg hk e
      have := (h2.mem g e).2
      omega
    · intro g hg e
      obtain ⟨vs, ho1, _⟩ := h1.val
      obtain ⟨c1, k1⟩ := ho1.block hg
      obtain ⟨c2, k2⟩ := h2.block e
      exact absurd (Kind.ne ⟨_, _, k1⟩ ⟨_, _, k2⟩) (by decide)
  have htt : Tch (New w1) w1 w' := h.tch.trans (ht.mono (fun g e => (h2.mem g e).1))
  have hst : CSt w1 X w' t5 out ⟨[], x.width, x.fin⟩ tv → True := fun _ => trivial
  have t : Tch (fun g => g = X) w' (w'.setCell ⟨X, 0, none⟩ tv') := Tch.setCell (F := fun g => g = X) (a := ⟨X, 0, none⟩) _ rfl _
  have hk : Kind w' X 55 := ⟨_, _, hX⟩
  refine ⟨tv', w', hr, hX, ⟨Bd, hcl.kept t ?_ ?_, ?_, Nat.le_trans h3 (Nat.le_trans ht.size t.size)⟩, by rw [blk_set hX]; simp, h.new, htt.trans (t.mono (fun g e => e ▸ h.new))⟩
  · intro g _ hk2 e
    subst e
    exact absurd (hk2.ne hk) (by decide)
  · intro g hg e
    obtain ⟨vs, ho1, _⟩ := hcl.val
    exact (ho1.mem g hg).2 e
  · have := ho.kept t (fun g hg e => by
      subst e
      obtain ⟨cur, hh⟩ := ho.block hg
      exact absurd (Kind.ne ⟨_, _, hh⟩ hk) (by decide))
    simpa using this
theorem CSt.append (h : CSt w1 X wr t5 out x tv) {pv : Value} {bs : List UInt8} (hrd : Rd wr pv bs) (hb : x.text.length + bs.length ≤ 10000000000000) (ty : TypeId) :
    ∃ tv' w', (Builtin.append_ #[26, 26] ty #[tv, pv]).run Tryd.prog wr = .ok tv' w' ∧ w'.heap[X]? = some (.cells #[tv, .int .i64 x.width, .int .u8 x.fin.toNat] 55 (0, 0)) ∧
      CSt w1 X (w'.setCell ⟨X, 0, none⟩ tv') t5 out { x with text := x.text ++ bs } tv' := h.appendW (.inl hrd) hb ty
/-- The cell goes to the cells. -/
theorem CSt.push (h : CSt w1 X wr t5 out x tv) (hl : out.length ≤ 1000000000) (ty : TypeId) :
    ∃ t5' w', (Builtin.append_ #[39, 39] ty #[t5, .slice (some ⟨wr.heap.size, 0, none⟩) 1 1]).run Tryd.prog (wr.alloc (.cells #[tv, .int .i64 x.width, .int .u8 x.fin.toNat] 55)) = .ok t5' w' ∧
      w'.heap[X]? = some (.cells #[tv, .int .i64 x.width, .int .u8 x.fin.toNat] 55 (0, 0)) ∧ Tch (New w1) w1 w' ∧ Cl (New w1) w' w'.heap.size t5' (out ++ [x]) ∧
      CSt w1 X (((w'.setCell ⟨X, 0, none⟩ (.slice none 0 0)).setCell ⟨X, 1, none⟩ (.int .i64 0)).setCell ⟨X, 2, none⟩ (.int .u8 0)) t5' (out ++ [x]) ⟨[], 0, 0⟩ (.slice none 0 0) := by
  obtain ⟨Bd, h1, h2, h3⟩ := h.bd
  have hXlt : X < wr.heap.size := h.kind.lt
  have hcl := h1.mono (G := fun k => New w1 k ∧ k ≠ X) (Bd' := wr.heap.size) (fun _ _ => id) h3
  obtain ⟨t5', w', hr, hc, ht, hblk⟩ := run_append_cell (F := fun k => New w1 k ∧ k ≠ X) (fun k hk => ⟨Nat.le_trans h.tch.size hk, by omega⟩) hcl (x := x) (Tx.own h2) hl ty
  obtain ⟨vs, ho1, _⟩ := h1.val
  have hX : w'.heap[X]? = some (.cells #[tv, .int .i64 x.width, .int .u8 x.fin.toNat] 55 (0, 0)) := ht.heap h.blk (fun e => (ho1.mem X e).2 rfl)
  have htt : Tch (New w1) w1 w' := h.tch.trans (ht.mono (fun g e => (ho1.mem g e).1))
  refine ⟨t5', w', hr, hX, htt, hc.mono (fun k _ h => h.1) ht.size, ?_⟩
  have hc' : Cl (fun k => New w1 k ∧ k ≠ X) w' wr.heap.size t5' (out ++ [x]) := hc
  have t : Tch (fun g => g = X) w' (((w'.setCell ⟨X, 0, none⟩ (.slice none 0 0)).setCell ⟨X, 1, none⟩ (.int .i64 0)).setCell ⟨X, 2, none⟩ (.int .u8 0)) :=
    ((Tch.setCell (F := fun g => g = X) (a := ⟨X, 0, none⟩) _ rfl _).trans (Tch.setCell (F := fun g => g = X) (a := ⟨X, 1, none⟩) _ rfl _)).trans (Tch.setCell (F := fun g => g = X) (a := ⟨X, 2, none⟩) _ rfl _)
  have hk : Kind w' X 55 := ⟨_, _, hX⟩
  refine ⟨⟨wr.heap.size, hc'.kept t ?_ ?_, Own.nil _ _ _ _, Nat.le_trans ht.size t.size⟩, ?_, h.new, htt.trans (t.mono (fun g e => e ▸ h.new))⟩
  · intro g _ hk2 e
    subst e
    exact absurd (hk2.ne hk) (by decide)
  · intro g hg e
    obtain ⟨vs, ho2, _⟩ := hc'.val
    exact (ho2.mem g hg).2 e
  · have e1 := blk_set hX 0 (.slice none 0 0)
    have e2 := blk_set e1 1 (.int .i64 0)
    have e3 := blk_set e2 2 (.int .u8 0)
    rw [e3]; simp
end
end Go.Proofs.YteildpeogbenbaaDoor
