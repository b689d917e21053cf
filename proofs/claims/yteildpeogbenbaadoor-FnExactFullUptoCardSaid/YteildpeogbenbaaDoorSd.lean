/- Memory of the reference's cells and lines: texts, cells, lines below a block. -/
import Derived.Test.YteildpeogbenbaaDoorSc
namespace Go.Proofs.YteildpeogbenbaaDoor
open Go.RowKit Go.Tw Go.Sort
set_option maxRecDepth 100000

/-- A piece of a slice of bytes. -/
theorem Rd.cut {w : World} {k0 o0 n cp lo hi : Nat} {bs : List UInt8} (h : Rd w (.slice (some ⟨k0, o0, none⟩) n cp) bs) (h1 : lo ≤ hi) (h2 : hi ≤ bs.length) :
    Rd w (.slice (if cp = lo then some ⟨k0, o0, none⟩ else some ⟨k0, o0 + lo, none⟩) (hi - lo) (cp - lo)) (seg bs lo hi) := by
  have := Rd.dropped (Rd.taken h h2) (k := lo) (by simp; omega)
  have e : (some (⟨k0, o0, none⟩ : Addr)).map (·.add lo) = some ⟨k0, o0 + lo, none⟩ := by cases lo <;> simp [Addr.add]
  rw [e] at this
  exact this
theorem Rd.cutEnd {w : World} {k0 o0 n cp lo : Nat} {bs : List UInt8} (h : Rd w (.slice (some ⟨k0, o0, none⟩) n cp) bs) (h1 : lo ≤ bs.length) :
    Rd w (.slice (if cp = lo then some ⟨k0, o0, none⟩ else some ⟨k0, o0 + lo, none⟩) (n - lo) (cp - lo)) (bs.drop lo) := by
  have := Rd.dropped h h1
  have e : (some (⟨k0, o0, none⟩ : Addr)).map (·.add lo) = some ⟨k0, o0 + lo, none⟩ := by cases lo <;> simp [Addr.add]
  rw [e] at this
  exact this
theorem info_sc : ∃ i, Tryd.prog.info? 55 = some i ∧ i.zero = some (.agg #[.slice none 0 0, .int .i64 0, .int .u8 0]) ∧ i.size = 3 ∧ i.bytes = 40 := by
  exact info_parts (by kernel_rfl)
theorem info_scs : ∃ i, Tryd.prog.info? 39 = some i ∧ i.zero = some (.slice none 0 0) ∧ i.size = 1 ∧ i.bytes = 24 := by
  exact info_parts (by kernel_rfl)

/-- A block's kind. -/
def Kind (w : World) (g : Nat) (e : TypeId) : Prop := ∃ cur fr, w.heap[g]? = some (.cells cur e fr)
/-- A text whose block lies below a bound. -/
structure Tx (w : World) (Bd : Nat) (v : Value) (bs : List UInt8) : Prop where
  rd : Rd w v bs
  lt : ∀ g, v.ownBlock = some g → g < Bd ∧ Kind w g 5
  one : v.oneCell' = true
/-- What a call may turn: blocks from a bound on, and some of other kinds. -/
def Spare (w : World) (Bd : Nat) (F : Nat → Prop) (e : TypeId) : Prop := ∀ g, g < Bd → Kind w g e → ¬ F g
theorem Kind.lt {w : World} {g : Nat} {e : TypeId} (h : Kind w g e) : g < w.heap.size := by
  obtain ⟨cur, fr, hh⟩ := h; exact lt_of_heap hh
theorem Kind.kept {w w' : World} {F : Nat → Prop} {g : Nat} {e : TypeId} (h : Kind w g e) (t : Tch F w w') (hF : ¬ F g) : Kind w' g e := by
  obtain ⟨cur, fr, hh⟩ := h; exact ⟨cur, fr, t.heap hh hF⟩
theorem Kind.ne {w : World} {g : Nat} {e e' : TypeId} (h : Kind w g e) (h' : Kind w g e') : e = e' := by
  obtain ⟨cur, fr, hh⟩ := h; obtain ⟨cur', fr', hh'⟩ := h'
  rw [hh] at hh'; simp at hh'; exact hh'.2.1
theorem Tx.kept {w w' : World} {F : Nat → Prop} {Bd : Nat} {v : Value} {bs : List UInt8} (h : Tx w Bd v bs) (t : Tch F w w') (hF : Spare w Bd F 5) : Tx w' Bd v bs :=
  ⟨h.rd.kept t (fun _ g hg => hF g (h.lt g hg).1 (h.lt g hg).2), fun g hg => ⟨(h.lt g hg).1, (h.lt g hg).2.kept t (hF g (h.lt g hg).1 (h.lt g hg).2)⟩, h.one⟩
theorem Tx.mono {w : World} {Bd Bd' : Nat} {v : Value} {bs : List UInt8} (h : Tx w Bd v bs) (hB : Bd ≤ Bd') : Tx w Bd' v bs :=
  ⟨h.rd, fun g hg => ⟨by have := (h.lt g hg).1; omega, (h.lt g hg).2⟩, h.one⟩
theorem Tx.nil (w : World) (Bd : Nat) : Tx w Bd (.slice none 0 0) [] := ⟨Rd.nil w, fun g hg => by simp [Value.ownBlock] at hg, rfl⟩
theorem Tx.own {w : World} {F : Nat → Prop} {v : Value} {n : Nat} {bs : List UInt8} (h : Own F w 5 1 v n (bvs bs)) : Tx w w.heap.size v bs :=
  ⟨Own.rd h, fun g hg => ⟨h.lt hg, by obtain ⟨cur, hc⟩ := h.block hg; exact ⟨cur, _, hc⟩⟩, by obtain ⟨ao, cp, rfl⟩ := h.shape; rfl⟩

/-- Values that are the cells l, each with its text below a bound. -/
def CV (w : World) (Bd : Nat) : List Value → List SC → Prop
  | vs, [] => vs = []
  | vs, x :: l => ∃ tv r, vs = tv :: .int .i64 x.width :: .int .u8 x.fin.toNat :: r ∧ Tx w Bd tv x.text ∧ CV w Bd r l
theorem CV.length {w : World} {Bd : Nat} : ∀ {l : List SC} {vs : List Value}, CV w Bd vs l → vs.length = 3 * l.length := by
  intro l
  induction l with
  | nil => intro vs h; rw [show vs = [] from h]; rfl
  | cons x l ih =>
    intro vs h
    obtain ⟨tv, r, rfl, _, h2⟩ := h
    simp only [List.length_cons, ih h2]; omega
theorem CV.one {w : World} {Bd : Nat} : ∀ {l : List SC} {vs : List Value}, CV w Bd vs l → ∀ u ∈ vs, u.oneCell' = true := by
  intro l
  induction l with
  | nil => intro vs h; rw [show vs = [] from h]; simp
  | cons x l ih =>
    intro vs h
    obtain ⟨tv, r, rfl, h1, h2⟩ := h
    intro u hu
    simp only [List.mem_cons] at hu
    rcases hu with rfl | rfl | rfl | hu
    · exact h1.one
    · rfl
    · rfl
    · exact ih h2 u hu
theorem CV.kept {w w' : World} {F : Nat → Prop} {Bd : Nat} (t : Tch F w w') (hF : Spare w Bd F 5) : ∀ {l : List SC} {vs : List Value}, CV w Bd vs l → CV w' Bd vs l := by
  intro l
  induction l with
  | nil => intro vs h; exact h
  | cons x l ih =>
    intro vs h
    obtain ⟨tv, r, rfl, h1, h2⟩ := h
    exact ⟨tv, r, rfl, h1.kept t hF, ih h2⟩
theorem CV.mono {w : World} {Bd Bd' : Nat} (hB : Bd ≤ Bd') : ∀ {l : List SC} {vs : List Value}, CV w Bd vs l → CV w Bd' vs l := by
  intro l
  induction l with
  | nil => intro vs h; exact h
  | cons x l ih =>
    intro vs h
    obtain ⟨tv, r, rfl, h1, h2⟩ := h
    exact ⟨tv, r, rfl, h1.mono hB, ih h2⟩
theorem CV.append {w : World} {Bd : Nat} : ∀ {l m : List SC} {vs us : List Value}, CV w Bd vs l → CV w Bd us m → CV w Bd (vs ++ us) (l ++ m) := by
  intro l
  induction l with
  | nil => intro m vs us h hm; rw [show vs = [] from h]; exact hm
  | cons x l ih =>
    intro m vs us h hm
    obtain ⟨tv, r, rfl, h1, h2⟩ := h
    exact ⟨tv, r ++ us, rfl, h1, ih h2 hm⟩
theorem CV.get {w : World} {Bd : Nat} : ∀ {l : List SC} {vs : List Value}, CV w Bd vs l → ∀ j (h : j < l.length), ∃ tv, vs[3 * j]? = some tv ∧ vs[3 * j + 1]? = some (.int .i64 l[j].width) ∧ vs[3 * j + 2]? = some (.int .u8 l[j].fin.toNat) ∧ Tx w Bd tv l[j].text := by
  intro l
  induction l with
  | nil => intro vs _ j h; simp at h
  | cons x l ih =>
    intro vs h j hj
    obtain ⟨tv, r, rfl, h1, h2⟩ := h
    cases j with
    | zero => exact ⟨tv, rfl, rfl, rfl, h1⟩
    | succ j =>
      simp only [List.length_cons] at hj
      obtain ⟨tv', a, b, c, d⟩ := ih h2 j (by omega)
      have e : ∀ k, (tv :: Value.int .i64 x.width :: .int .u8 x.fin.toNat :: r)[3 * (j + 1) + k]? = r[3 * j + k]? := fun k => by
        rw [show 3 * (j + 1) + k = (3 * j + k) + 1 + 1 + 1 by omega]; rfl
      refine ⟨tv', ?_, ?_, ?_, d⟩
      · exact (e 0).trans a
      · exact (e 1).trans b
      · exact (e 2).trans c
theorem CV.take {w : World} {Bd : Nat} : ∀ {l : List SC} {vs : List Value} (k : Nat), CV w Bd vs l → CV w Bd (vs.take (3 * k)) (l.take k) := by
  intro l
  induction l with
  | nil => intro vs k h; rw [show vs = [] from h]; simp [CV]
  | cons x l ih =>
    intro vs k h
    obtain ⟨tv, r, rfl, h1, h2⟩ := h
    cases k with
    | zero => simp [CV]
    | succ k =>
      refine ⟨tv, r.take (3 * k), ?_, h1, ih k h2⟩
      rw [show 3 * (k + 1) = 3 * k + 1 + 1 + 1 by omega]; rfl

/-- A slice of cells, read. -/
structure Ce (w : World) (v : Value) (l : List SC) : Prop where
  val : ∃ ao cp, v = .slice ao l.length cp ∧ l.length ≤ cp ∧ cp ≤ maxLen ∧ (∀ ad, ao = some ad → ad.spot = none) ∧
    ∀ j (h : j < l.length), ∃ ad tv, ao = some ad ∧ w.cell? ⟨ad.block, ad.off + 3 * j, none⟩ = some tv ∧ w.cell? ⟨ad.block, ad.off + 3 * j + 1, none⟩ = some (.int .i64 l[j].width) ∧ w.cell? ⟨ad.block, ad.off + 3 * j + 2, none⟩ = some (.int .u8 l[j].fin.toNat) ∧ Rd w tv l[j].text
theorem Ce.below {w w' : World} {v : Value} {l : List SC} (h : Ce w v l) (t : Below w.heap.size w w') : Ce w' v l := by
  obtain ⟨ao, cp, rfl, h1, h2, h3, h4⟩ := h.val
  refine ⟨ao, cp, rfl, h1, h2, h3, fun j hj => ?_⟩
  obtain ⟨ad, tv, rfl, a, b, c, d⟩ := h4 j hj
  have k : ∀ {p : Addr} {u : Value}, w.cell? p = some u → w'.cell? p = some u := fun hp => (t.cell (block_lt_of_cell hp)).trans hp
  exact ⟨ad, tv, rfl, k a, k b, k c, d.below t⟩
/-- A row of cells of one's own, whose texts lie below a bound. -/
structure Cl (F : Nat → Prop) (w : World) (Bd : Nat) (v : Value) (l : List SC) : Prop where
  val : ∃ vs, Own F w 55 3 v l.length vs ∧ CV w Bd vs l
theorem Cl.ce {F : Nat → Prop} {w : World} {Bd : Nat} {v : Value} {l : List SC} (h : Cl F w Bd v l) : Ce w v l := by
  obtain ⟨vs, ho, hc⟩ := h.val
  rcases ho.row.2 with ⟨rfl, hn⟩ | ⟨g, cap, cur, rfl, _, hg, hcp, hm, hs, ht⟩
  · have : l = [] := List.length_eq_zero_iff.1 hn
    subst this
    exact ⟨none, 0, rfl, Nat.le_refl _, Nat.zero_le _, fun _ e => (by cases e), fun j h => (by simp at h)⟩
  · refine ⟨some ⟨g, 0, none⟩, cap, rfl, hcp, hm, fun ad e => (by cases e; rfl), fun j hj => ?_⟩
    obtain ⟨tv, a, b, c, d⟩ := hc.get j hj
    have k : ∀ {i : Nat} {u : Value}, vs[i]? = some u → w.cell? ⟨g, i, none⟩ = some u := by
      intro i u hu
      rw [← ht, List.getElem?_take] at hu
      split at hu
      · simp only [World.cell?, hg]; simpa using hu
      · cases hu
    refine ⟨⟨g, 0, none⟩, tv, rfl, ?_, ?_, ?_, d.rd⟩
    · rw [Nat.zero_add]; exact k a
    · rw [Nat.zero_add]; exact k b
    · rw [Nat.zero_add]; exact k c
theorem Cl.kept {F G : Nat → Prop} {w w' : World} {Bd : Nat} {v : Value} {l : List SC} (h : Cl F w Bd v l) (t : Tch G w w') (hG : Spare w Bd G 5) (hv : ∀ g, v.ownBlock = some g → ¬ G g) : Cl F w' Bd v l := by
  obtain ⟨vs, ho, hc⟩ := h.val
  exact ⟨vs, ho.kept t hv, hc.kept t hG⟩
theorem Cl.mono {F G : Nat → Prop} {w : World} {Bd Bd' : Nat} {v : Value} {l : List SC} (h : Cl F w Bd v l) (hF : ∀ k, k < w.heap.size → F k → G k) (hB : Bd ≤ Bd') : Cl G w Bd' v l := by
  obtain ⟨vs, ho, hc⟩ := h.val
  exact ⟨vs, ho.mono hF, hc.mono hB⟩
/-- A slice of lines, read. -/
structure Lz (w : World) (v : Value) (LL : List (List SC)) : Prop where
  val : ∃ ao cp, v = .slice ao LL.length cp ∧ LL.length ≤ cp ∧ cp ≤ maxLen ∧ (∀ ad, ao = some ad → ad.spot = none) ∧
    ∀ j (h : j < LL.length), ∃ ad lv, ao = some ad ∧ w.cell? ⟨ad.block, ad.off + j, none⟩ = some lv ∧ Ce w lv LL[j]
theorem Lz.below {w w' : World} {v : Value} {LL : List (List SC)} (h : Lz w v LL) (t : Below w.heap.size w w') : Lz w' v LL := by
  obtain ⟨ao, cp, rfl, h1, h2, h3, h4⟩ := h.val
  refine ⟨ao, cp, rfl, h1, h2, h3, fun j hj => ?_⟩
  obtain ⟨ad, lv, rfl, a, d⟩ := h4 j hj
  exact ⟨ad, lv, rfl, (t.cell (block_lt_of_cell a)).trans a, d.below t⟩
end Go.Proofs.YteildpeogbenbaaDoor
