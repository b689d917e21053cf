/- A region that draws its order, walked once: first the operations that only read (each yields one value in every world of a class C), then the others, which stand in one forced order. -/
import Derived.Deep.QuietTactic
import Derived.StillTail
import Derived.Lib.QuietBelow
namespace Go.Tw

section
variable {P : Program} {ops : Array Oper} {C : World → Prop}

/-- What a reading operation leaves: one value, the world as it was. -/
def sUpon (w : World) (v : Value) : Result Next → Prop
  | .ok (.value u) w' => w' = w ∧ u = v
  | .ok .skip w' => w' = w ∧ v = undef
  | _ => False

def sAt (P : Program) (ops : Array Oper) (C : World → Prop) (o : Oper) (a : Act) (v : Value) : Prop :=
  (Region.wanted o (yielded ops a.tmps) = true ∧ ∀ w, C w → sUpon w v ((execOp a.eval o).run P w)) ∨ (Region.wanted o (yielded ops a.tmps) = false ∧ v = undef)

/-- The readers, one behind the other. -/
def wpR (P : Program) (ops : Array Oper) (C : World → Prop) (Q : Act → Prop) : List Oper → Act → Prop
  | [], a => Q a
  | o :: rest, a => ∃ v, sAt P ops C o a v ∧ wpR P ops C Q rest (a.put o.dst v)

/-- The others: the first m leave a world of the class. -/
def wpE (P : Program) (ops : Array Oper) (C : World → Prop) (Q : Exit → Act → World → Prop) : Nat → List Oper → Act → World → Prop
  | 0, l, a, w => wpList P ops Q l a w
  | _ + 1, [], a, w => Q .normal a w
  | m + 1, o :: rest, a, w => if Region.wanted o (yielded ops a.tmps) then o.wp P a w (fun a' w' => C w' ∧ wpE P ops C Q m rest a' w') Q else C w ∧ wpE P ops C Q m rest (a.put o.dst undef) w

def puts (a : Act) : List (Option Tmp × Value) → Act
  | [] => a
  | p :: ps => puts (a.put p.1 p.2) ps

theorem puts_append (a : Act) (l m : List (Option Tmp × Value)) : puts a (l ++ m) = puts (puts a l) m := by
  induction l generalizing a with
  | nil => rfl
  | cons p l ih => exact ih _

theorem puts_put (a : Act) (x : Option Tmp) (v : Value) (l : List (Option Tmp × Value)) (h : ∀ p ∈ l, ∀ d, x = some d → p.1 ≠ some d) : puts (a.put x v) l = (puts a l).put x v := by
  induction l generalizing a with
  | nil => rfl
  | cons p l ih =>
    simp only [puts]
    rw [Act.put_comm a v p.2 (fun d hd => h p (by simp) d hd)]
    exact ih _ (fun q hq => h q (by simp [hq]))

theorem execOp_puts (o : Oper) (hs : ∀ cs b, o.op ≠ .select cs b) (a : Act) (l : List (Option Tmp × Value)) (h : ∀ p ∈ l, ∀ d, p.1 = some d → d ∉ o.looksAt ops) :
    execOp (puts a l).eval o = execOp a.eval o ∧ Region.wanted o (yielded ops (puts a l).tmps) = Region.wanted o (yielded ops a.tmps) := by
  induction l generalizing a with
  | nil => exact ⟨rfl, rfl⟩
  | cons p l ih =>
    have h1 := ih (a.put p.1 p.2) (fun q hq => h q (by simp [hq]))
    have h2 := execOp_put (ops := ops) o hs a p.1 p.2 (h p (by simp))
    have h3 := wanted_put (ops := ops) o a p.1 p.2 (h p (by simp))
    exact ⟨h1.1.trans h2, h1.2.trans h3⟩

theorem puts_defers (a : Act) (l : List (Option Tmp × Value)) : (puts a l).defers = a.defers := by
  induction l generalizing a with
  | nil => rfl
  | cons p l ih => rw [puts, ih]; cases p.1 <;> rfl

theorem puts_defer (a : Act) (d : Deferred) (l : List (Option Tmp × Value)) : puts { a with defers := d :: a.defers } l = { puts a l with defers := d :: (puts a l).defers } := by
  induction l generalizing a with
  | nil => rfl
  | cons p l ih => simp only [puts]; rw [← ih, ← Act.put_defers]

/-- The slot that operation i writes, and the value. -/
def pv (ops : Array Oper) (val : Nat → Value) (i : Nat) : Option Tmp × Value := ((ops[i]?).bind (·.dst), val i)

/-- Does operation i look at the slot that operation j writes? -/
def sees (ops : Array Oper) (i j : Nat) : Bool :=
  match ops[i]?, ops[j]? with
  | some oi, some oj => (match oj.dst with | some d => (oi.looksAt ops).contains d | none => false)
  | _, _ => false
def sameDst (ops : Array Oper) (i j : Nat) : Bool :=
  match ops[i]?, ops[j]? with
  | some oi, some oj => (match oi.dst with | some d => oj.dst == some d | none => false)
  | _, _ => false

abbrev wt (ops : Array Oper) (j i : Nat) : Bool := Region.waitsFor .any ops j i

/-- What the kernel checks of a region. -/
def rfB (ops : Array Oper) (rs es : List Nat) (m : Nat) : Bool :=
  Region.noSelect ops &&
  (List.range ops.size).all (fun i => rs.contains i || es.contains i) &&
  decide (rs ++ es).Nodup && (rs ++ es).all (fun i => decide (i < ops.size)) &&
  (List.range ops.size).all (fun i => match ops[i]? with | some o => o.after.all (fun e => !Region.binds .any e || decide (e.on < i)) | none => true) &&
  decide (rs.Pairwise (· < ·)) &&
  rs.all (fun i => rs.all (fun j => !sees ops i j || (decide (j < i) && wt ops i j)) && es.all (fun e => !sees ops i e)) &&
  es.all (fun e => rs.all (fun j => !sees ops e j || wt ops e j)) &&
  rs.all (fun i => (rs ++ es).all (fun j => decide (i = j) || !sameDst ops i j)) &&
  (es.zip es.tail).all (fun p => wt ops p.2 p.1) &&
  (match es[m]? with | some L => rs.all (fun i => (L :: rs).any (fun j => decide (i < j ∨ j = L) && wt ops j i)) | none => true)


structure Chk (ops : Array Oper) (rs es : List Nat) (m : Nat) : Prop where
  sel : ∀ (j : Nat) (o : Oper) cs b, ops[j]? = some o → o.op ≠ .select cs b
  cover : ∀ i, i < ops.size → i ∈ rs ∨ i ∈ es
  nodup : (rs ++ es).Nodup
  back : ∀ (i : Nat) (o : Oper), ops[i]? = some o → ∀ e ∈ o.after, Region.binds .any e = true → e.on < i
  sorted : rs.Pairwise (· < ·)
  rr : ∀ i ∈ rs, ∀ j ∈ rs, sees ops i j = true → j < i ∧ wt ops i j = true
  re : ∀ i ∈ rs, ∀ e ∈ es, sees ops i e = false
  er : ∀ e ∈ es, ∀ j ∈ rs, sees ops e j = true → wt ops e j = true
  dd : ∀ i ∈ rs, ∀ j ∈ rs ++ es, i ≠ j → sameDst ops i j = false
  chain : ∀ p ∈ es.zip es.tail, wt ops p.2 p.1 = true
  late : ∀ L, es[m]? = some L → ∀ i ∈ rs, ∃ j, (j = L ∨ (j ∈ rs ∧ i < j)) ∧ wt ops j i = true

theorem chk_of (rs es : List Nat) (m : Nat) (h : rfB ops rs es m = true) : Chk ops rs es m := by
  simp only [rfB, Bool.and_eq_true] at h
  obtain ⟨⟨⟨⟨⟨⟨⟨⟨⟨⟨h1, h2⟩, h3⟩, _⟩, h5⟩, h6⟩, h7⟩, h8⟩, h9⟩, h10⟩, h11⟩ := h
  refine ⟨Region.noSelect_spec h1, ?_, of_decide_eq_true h3, ?_, of_decide_eq_true h6, ?_, ?_, ?_, ?_, ?_, ?_⟩
  · intro i hi
    have := List.all_eq_true.1 h2 i (List.mem_range.2 hi)
    simpa using this
  · intro i o ho e he hb
    have hlt : i < ops.size := (Array.getElem?_eq_some_iff.1 ho).1
    have := List.all_eq_true.1 h5 i (List.mem_range.2 hlt)
    simp only [ho] at this
    have := Array.all_eq_true_iff_forall_mem.1 this e he
    simp only [hb, Bool.not_true, Bool.false_or, decide_eq_true_eq] at this
    exact this
  · intro i hi j hj hs
    have := List.all_eq_true.1 h7 i hi
    simp only [Bool.and_eq_true] at this
    have := List.all_eq_true.1 this.1 j hj
    simpa [hs] using this
  · intro i hi e he
    have := List.all_eq_true.1 h7 i hi
    simp only [Bool.and_eq_true] at this
    have := List.all_eq_true.1 this.2 e he
    simpa using this
  · intro e he j hj hs
    have := List.all_eq_true.1 (List.all_eq_true.1 h8 e he) j hj
    simpa [hs] using this
  · intro i hi j hj hne
    have := List.all_eq_true.1 (List.all_eq_true.1 h9 i hi) j hj
    simpa [hne] using this
  · exact fun p hp => List.all_eq_true.1 h10 p hp
  · intro L hL i hi
    simp only [hL] at h11
    have := List.all_eq_true.1 h11 i hi
    obtain ⟨j, hj, h⟩ := List.any_eq_true.1 this
    simp only [Bool.and_eq_true, decide_eq_true_eq] at h
    refine ⟨j, ?_, h.2⟩
    rcases List.mem_cons.1 hj with e | e
    · exact .inl e
    · rcases h.1 with h' | h'
      · exact .inr ⟨e, h'⟩
      · exact .inl h'

def opsAt (ops : Array Oper) (is : List Nat) : List Oper := is.filterMap (fun i => ops[i]?)

theorem wp_transfer {o : Oper} {a aF : Act} {ps : List (Option Tmp × Value)} {w : World} {K K' : Act → World → Prop} {Q : Exit → Act → World → Prop}
    (hF : puts a ps = aF) (hd : ∀ p ∈ ps, ∀ d, o.dst = some d → p.1 ≠ some d) (he : execOp a.eval o = execOp aF.eval o)
    (hQ : ∀ c (a : Act) d v w, Q (.panic c) (a.put d v) w → Q (.panic c) a w)
    (hK : ∀ a' w', K (puts a' ps) w' → K' a' w') (h : o.wp P aF w K Q) : o.wp P a w K' Q := by
  have hQs : ∀ (ps : List (Option Tmp × Value)) (a : Act) c w, Q (.panic c) (puts a ps) w → Q (.panic c) a w := by
    intro ps
    induction ps with
    | nil => exact fun _ _ _ h => h
    | cons p ps ih => exact fun a c w h => hQ c a p.1 p.2 w (ih _ c w h)
  unfold Oper.wp at *
  rw [he]
  have put1 : ∀ v, (aF.put o.dst v) = puts (a.put o.dst v) ps := fun v => by rw [puts_put a o.dst v ps hd, hF]
  generalize (execOp aF.eval o).run P w = r at *
  cases r with
  | ok n w' =>
    cases n <;> simp only [Oper.upon] at h ⊢
    case value v => exact hK _ _ (by rw [← put1]; exact h)
    case skip => exact hK _ _ (by rw [← put1]; exact h)
    case defer d =>
      refine hK _ _ ?_
      rw [puts_put _ _ _ _ hd, puts_defer, hF]
      exact h
    case enter f args =>
      refine Calls.mono h fun e w'' hh => ?_
      cases e with
      | returned v => exact hK _ _ (by rw [← put1]; exact hh)
      | panicked c => exact hQs ps a c w'' (by rw [hF]; exact hh)
      | outgrown => exact hh
    case row r args =>
      refine Rows.mono h fun v w'' hh => ?_
      exact hK _ _ (by rw [← put1]; exact hh)
  | halt x w' =>
    cases x <;> simp only [Oper.upon] at h ⊢
    case panic v => exact hQs ps a _ w' (by rw [hF]; exact h)

theorem wp_good {o : Oper} {aF : Act} {w : World} {K : Act → World → Prop} {Q : Exit → Act → World → Prop} {G : Act → Prop}
    (h : o.wp P aF w K Q) (h1 : ∀ v, G (aF.put o.dst v)) (h2 : ∀ d v, G (({ aF with defers := d :: aF.defers } : Act).put o.dst v)) : o.wp P aF w (fun a' w' => K a' w' ∧ G a') Q := by
  unfold Oper.wp at *
  generalize (execOp aF.eval o).run P w = r at *
  cases r with
  | ok n w' =>
    cases n <;> simp only [Oper.upon] at h ⊢
    case value v => exact ⟨h, h1 v⟩
    case skip => exact ⟨h, h1 _⟩
    case defer d => exact ⟨h, h2 d _⟩
    case enter f args =>
      refine Calls.mono h fun e w'' hh => ?_
      cases e with
      | returned v => exact ⟨hh, h1 v⟩
      | panicked c => exact hh
      | outgrown =>
        obtain ⟨a', w1, hq⟩ := hh
        exact ⟨a', w1, hq⟩
    case row r args => exact Rows.mono h fun v w'' hh => ⟨hh, h1 v⟩
  | halt x w' =>
    cases x <;> simp only [Oper.upon] at h ⊢
    case panic v => exact h

theorem sees_spec {i j : Nat} {oi oj : Oper} (hi : ops[i]? = some oi) (hj : ops[j]? = some oj) (h : sees ops i j = false) : ∀ d, oj.dst = some d → d ∉ oi.looksAt ops := by
  intro d hd hm
  simp only [sees, hi, hj, hd] at h
  simp [hm] at h
theorem sameDst_spec {i j : Nat} {oi oj : Oper} (hi : ops[i]? = some oi) (hj : ops[j]? = some oj) (h : sameDst ops i j = false) : ∀ d, oi.dst = some d → oj.dst ≠ some d := by
  intro d hd hm
  simp [sameDst, hi, hj, hd, hm] at h

theorem pv_dst {val : Nat → Value} {i : Nat} {o : Oper} (h : ops[i]? = some o) : pv ops val i = (o.dst, val i) := by simp [pv, h]

theorem wpR_vals (rs : List Nat) (hin : ∀ i ∈ rs, i < ops.size) (hnd : rs.Nodup) {Q : Act → Prop} : ∀ (a : Act), wpR P ops C Q (opsAt ops rs) a →
    ∃ val : Nat → Value, (∀ l1 i l2 o, rs = l1 ++ i :: l2 → ops[i]? = some o → sAt P ops C o (puts a (l1.map (pv ops val))) (val i)) ∧ Q (puts a (rs.map (pv ops val))) := by
  induction rs with
  | nil => exact fun a h => ⟨fun _ => undef, fun l1 i l2 o e => by simp at e, h⟩
  | cons i rs ih =>
    intro a h
    have hi := hin i (by simp)
    obtain ⟨o, ho⟩ : ∃ o, ops[i]? = some o := ⟨_, Array.getElem?_eq_getElem hi⟩
    simp only [opsAt, List.filterMap_cons, ho] at h
    obtain ⟨v, hs, hr⟩ := h
    have hnd' := List.nodup_cons.1 hnd
    obtain ⟨val, hv, hq⟩ := ih (fun j hj => hin j (by simp [hj])) hnd'.2 (a.put o.dst v) hr
    let val' : Nat → Value := fun j => if j = i then v else val j
    have hmap : ∀ l : List Nat, (∀ j ∈ l, j ∈ rs) → l.map (pv ops val') = l.map (pv ops val) := by
      intro l hl
      apply List.map_congr_left
      intro j hj
      have : j ≠ i := fun e => hnd'.1 (e ▸ hl j hj)
      simp [pv, val', this]
    have hpi : pv ops val' i = (o.dst, v) := by simp [pv, ho, val']
    refine ⟨val', ?_, ?_⟩
    · intro l1 k l2 ok e hk
      cases l1 with
      | nil =>
        simp only [List.nil_append, List.cons.injEq] at e
        obtain ⟨rfl, rfl⟩ := e
        rw [ho] at hk
        cases hk
        simpa [val', puts] using hs
      | cons x l1 =>
        simp only [List.cons_append, List.cons.injEq] at e
        obtain ⟨rfl, rfl⟩ := e
        have hki : k ≠ i := fun e => hnd'.1 (by subst e; simp)
        have := hv l1 k l2 ok rfl hk
        rw [List.map_cons, hpi, hmap l1 (fun j hj => by simp [hj])]
        simpa [puts, val', hki] using this
    · rw [List.map_cons, hpi, hmap rs (fun j hj => hj)]
      exact hq


/-- Where the walk stands: 'rsU' the readers still to come, 'ed' the others done, 'et' those to come, 'aF' the frame with all readers' values. -/
structure Stand (P : Program) (ops : Array Oper) (C : World → Prop) (Q : Exit → Act → World → Prop) (rs es : List Nat) (m : Nat) (val : Nat → Value) (aR : Act) (fuel : Nat) (listed : Array Bool) (a : Act) (w : World) (rsU ed et : List Nat) (aF : Act) : Prop where
  size : listed.size = ops.size
  closed : ∀ (j : Nat) (oj : Oper), ops[j]? = some oj → listed.getD j false = true → ∀ e ∈ oj.after, Region.binds .any e = true → listed.getD e.on false = true
  esE : es = ed ++ et
  edL : ∀ i ∈ ed, listed.getD i false = true
  etU : ∀ i ∈ et, listed.getD i true = false
  rsM : ∀ j, j ∈ rsU ↔ j ∈ rs ∧ listed.getD j true = false
  rsN : rsU.Nodup
  fuelE : fuel = rsU.length + et.length
  full : puts a (rsU.map (pv ops val)) = aF
  same : rsU ≠ [] → ∀ i ∈ rs, ∀ o, ops[i]? = some o → execOp aF.eval o = execOp aR.eval o ∧ Region.wanted o (yielded ops aF.tmps) = Region.wanted o (yielded ops aR.tmps)
  cls : rsU ≠ [] → C w
  rest : wpE P ops C Q (m - ed.length) (opsAt ops et) aF w

theorem wt_spec {j i : Nat} (h : wt ops j i = true) {oj : Oper} (hj : ops[j]? = some oj) : ∃ e ∈ oj.after, Region.binds .any e = true ∧ e.on = i := by
  obtain ⟨o, ho, e, he, hb, hon⟩ := Region.waitsFor_spec h
  rw [hj] at ho; cases ho
  exact ⟨e, he, hb, hon⟩

theorem getD_false_of {listed : Array Bool} {i : Nat} (h : listed.getD i true = false) : listed.getD i false = false := getD_both h

theorem wpE_cons_zero {o : Oper} {rest : List Oper} {a : Act} {w : World} {Q : Exit → Act → World → Prop} : wpE P ops C Q 0 (o :: rest) a w = wpList P ops Q (o :: rest) a w := rfl

theorem stand_any {Q : Exit → Act → World → Prop} {rs es : List Nat} {m : Nat} {val : Nat → Value} {a0 aR : Act} (c : Chk ops rs es m)
    (hQ : ∀ c (a : Act) d v w, Q (.panic c) (a.put d v) w → Q (.panic c) a w)
    (haR : aR = puts a0 (rs.map (pv ops val)))
    (hval : ∀ l1 i l2 o, rs = l1 ++ i :: l2 → ops[i]? = some o → sAt P ops C o (puts a0 (l1.map (pv ops val))) (val i)) :
    ∀ (fuel : Nat) (listed : Array Bool) (a : Act) (w : World) (rsU ed et : List Nat) (aF : Act), Stand P ops C Q rs es m val aR fuel listed a w rsU ed et aF → wpAny P .any ops Q fuel listed a w := by
  intro fuel
  induction fuel with
  | zero =>
    intro listed a w rsU ed et aF st
    have h0 := st.fuelE
    have hr : rsU = [] := List.length_eq_zero_iff.1 (by omega)
    have he : et = [] := List.length_eq_zero_iff.1 (by omega)
    subst hr he
    refine ⟨?_, ?_⟩
    · rw [List.eq_nil_iff_forall_not_mem]
      intro i hi
      obtain ⟨hun, o, ho, _⟩ := mem_ready.1 hi
      have hlt : i < ops.size := (Array.getElem?_eq_some_iff.1 ho).1
      rcases c.cover i hlt with h | h
      · have := (st.rsM i).2 ⟨h, hun⟩; simp at this
      · rw [st.esE] at h
        have := st.edL i (by simpa using h)
        rw [getD_both hun] at this; cases this
    · have := st.rest
      have hF := st.full
      simp only [List.map_nil, puts] at hF
      subst hF
      simp only [opsAt, List.filterMap_nil] at this
      cases hm : m - ed.length with
      | zero => rw [hm] at this; exact this
      | succ k => rw [hm] at this; exact this
  | succ fuel ih =>
    intro listed a w rsU ed et aF st
    have hunl : ∀ i, i < ops.size → listed.getD i false = false → listed.getD i true = false := fun i hi h => getD_in (by rw [st.size]; exact hi) h
    refine ⟨?_, ?_⟩
    · -- something is ready
      intro hnil
      exfalso
      have hex : ∃ i, i < ops.size ∧ listed.getD i true = false := by
        cases hr : rsU with
        | cons i l =>
          have := (st.rsM i).1 (by rw [hr]; simp)
          rcases Nat.lt_or_ge i ops.size with h | h
          · exact ⟨i, h, this.2⟩
          · have h2 := this.2
            rw [Array.getD_eq_getD_getElem?, Array.getElem?_eq_none (by rw [st.size]; exact h)] at h2
            simp at h2
        | nil =>
          cases he : et with
          | nil => have := st.fuelE; rw [hr, he] at this; simp at this
          | cons i l =>
            have h2 := st.etU i (by rw [he]; simp)
            rcases Nat.lt_or_ge i ops.size with h | h
            · exact ⟨i, h, h2⟩
            · rw [Array.getD_eq_getD_getElem?, Array.getElem?_eq_none (by rw [st.size]; exact h)] at h2
              simp at h2
      have least : ∀ n i, i ≤ n → i < ops.size → listed.getD i true = false → ∃ j, j ∈ Region.ready .any ops listed := by
        intro n
        induction n with
        | zero =>
          intro i hi hlt hun
          obtain ⟨o, ho⟩ : ∃ o, ops[i]? = some o := ⟨_, Array.getElem?_eq_getElem hlt⟩
          exact ⟨i, mem_ready.2 ⟨hun, o, ho, fun e he hb => by have := c.back i o ho e he hb; omega⟩⟩
        | succ n ihn =>
          intro i hi hlt hun
          obtain ⟨o, ho⟩ : ∃ o, ops[i]? = some o := ⟨_, Array.getElem?_eq_getElem hlt⟩
          by_cases hall : ∀ e ∈ o.after, Region.binds .any e = true → listed.getD e.on false = true
          · exact ⟨i, mem_ready.2 ⟨hun, o, ho, hall⟩⟩
          · simp only [Classical.not_forall] at hall
            obtain ⟨e, he, hb, hne⟩ := hall
            have hlt2 := c.back i o ho e he hb
            exact ihn e.on (by omega) (by omega) (hunl _ (by omega) (by simpa using hne))
      obtain ⟨i, hi, hun⟩ := hex
      obtain ⟨j, hj⟩ := least i i (Nat.le_refl _) hi hun
      rw [hnil] at hj; cases hj
    · intro i hi
      obtain ⟨hun, o, ho, hall⟩ := mem_ready.1 hi
      have hlt : i < ops.size := (Array.getElem?_eq_some_iff.1 ho).1
      have isNotL : listed.getD i false = false := getD_both hun
      have clos' : ∀ (j : Nat) (oj : Oper), ops[j]? = some oj → (listed.setIfInBounds i true).getD j false = true → ∀ e ∈ oj.after, Region.binds .any e = true → (listed.setIfInBounds i true).getD e.on false = true := by
        intro j oj hj hl e he hb
        by_cases hij : i = j
        · subst hij
          rw [ho] at hj; cases hj
          exact getD_set_true (hall e he hb)
        · rw [getD_set_ne false hij] at hl
          exact getD_set_true (st.closed j oj hj hl e he hb)
      have setI : (listed.setIfInBounds i true).getD i false = true := by
        simp [Array.getD_eq_getD_getElem?, st.size, hlt]
      have setI' : (listed.setIfInBounds i true).getD i true = true := by
        simp [Array.getD_eq_getD_getElem?, st.size, hlt]
      rcases c.cover i hlt with hrs | hes
      · -- a reader
        have hiU : i ∈ rsU := (st.rsM i).2 ⟨hrs, hun⟩
        have hne : rsU ≠ [] := fun e => by rw [e] at hiU; cases hiU
        have hCw := st.cls hne
        have hsame := st.same hne i hrs o ho
        -- what it looks at
        have huns : ∀ p ∈ rsU.map (pv ops val), ∀ d, p.1 = some d → d ∉ o.looksAt ops := by
          intro p hp d hd
          obtain ⟨j, hj, rfl⟩ := List.mem_map.1 hp
          have hj' := (st.rsM j).1 hj
          obtain ⟨oj, hoj⟩ : ∃ oj, ops[j]? = some oj := by
            cases hx : ops[j]? with
            | none => simp [pv, hx] at hd
            | some oj => exact ⟨oj, rfl⟩
          rw [pv_dst hoj] at hd
          cases hs : sees ops i j with
          | false => exact sees_spec ho hoj hs d hd
          | true =>
            have := c.rr i hrs j hj'.1 hs
            obtain ⟨e, he, hb, hon⟩ := wt_spec this.2 ho
            have := hall e he hb
            rw [hon, getD_both hj'.2] at this; cases this
        obtain ⟨l1, l2, hsplit⟩ := List.append_of_mem hrs
        have hlater : ∀ p ∈ (i :: l2).map (pv ops val), ∀ d, p.1 = some d → d ∉ o.looksAt ops := by
          intro p hp d hd
          obtain ⟨j, hj, rfl⟩ := List.mem_map.1 hp
          obtain ⟨oj, hoj⟩ : ∃ oj, ops[j]? = some oj := by
            cases hx : ops[j]? with
            | none => simp [pv, hx] at hd
            | some oj => exact ⟨oj, rfl⟩
          rw [pv_dst hoj] at hd
          have hjr : j ∈ rs := by rw [hsplit]; exact List.mem_append_right _ hj
          have hij : i ≤ j := by
            rcases List.mem_cons.1 hj with e | e
            · omega
            · have hp2 := c.sorted
              rw [hsplit] at hp2
              have := (List.pairwise_append.1 hp2).2.1
              exact Nat.le_of_lt ((List.pairwise_cons.1 this).1 j e)
          cases hs : sees ops i j with
          | false => exact sees_spec ho hoj hs d hd
          | true => have := (c.rr i hrs j hjr hs).1; omega
        have e1 := execOp_puts (ops := ops) o (fun cs b => c.sel i o cs b ho) a (rsU.map (pv ops val)) huns
        rw [st.full] at e1
        have e2 := execOp_puts (ops := ops) o (fun cs b => c.sel i o cs b ho) (puts a0 (l1.map (pv ops val))) ((i :: l2).map (pv ops val)) hlater
        rw [← puts_append, ← List.map_append, ← hsplit, ← haR] at e2
        have hs := hval l1 i l2 o hsplit ho
        have hs' : sAt P ops C o a (val i) := by
          unfold sAt at hs ⊢
          rw [← e1.1, ← e1.2, hsame.1, hsame.2, e2.1, e2.2]
          exact hs
        -- the new stand
        obtain ⟨u1, u2, hU⟩ := List.append_of_mem hiU
        have hnd := st.rsN
        rw [hU] at hnd
        have hi12 : i ∉ u1 ∧ i ∉ u2 := by
          have := List.nodup_append.1 hnd
          refine ⟨fun h => this.2.2 i h i (by simp) rfl, (List.nodup_cons.1 this.2.1).1⟩
        have hdst : ∀ p ∈ u1.map (pv ops val), ∀ d, o.dst = some d → p.1 ≠ some d := by
          intro p hp d hd hpd
          obtain ⟨j, hj, rfl⟩ := List.mem_map.1 hp
          obtain ⟨oj, hoj⟩ : ∃ oj, ops[j]? = some oj := by
            cases hx : ops[j]? with
            | none => simp [pv, hx] at hpd
            | some oj => exact ⟨oj, rfl⟩
          rw [pv_dst hoj] at hpd
          have hjr : j ∈ rs := ((st.rsM j).1 (by rw [hU]; simp [hj])).1
          have hji : i ≠ j := fun e => hi12.1 (e ▸ hj)
          exact sameDst_spec ho hoj (c.dd i hrs j (by simp [hjr]) hji) d hd hpd
        have hfull : puts (a.put o.dst (val i)) ((u1 ++ u2).map (pv ops val)) = aF := by
          rw [List.map_append, puts_append, puts_put a o.dst (val i) _ hdst, ← st.full, hU, List.map_append, puts_append, List.map_cons, puts, pv_dst ho]
        have hmem : ∀ j, j ∈ u1 ++ u2 ↔ j ∈ rsU ∧ j ≠ i := by
          intro j
          rw [hU]
          simp only [List.mem_append, List.mem_cons]
          constructor
          · rintro (h | h)
            · exact ⟨.inl h, fun e => hi12.1 (e ▸ h)⟩
            · exact ⟨.inr (.inr h), fun e => hi12.2 (e ▸ h)⟩
          · rintro ⟨h | h | h, hn⟩
            · exact .inl h
            · exact absurd h hn
            · exact .inr h
        have hwp : ∀ (K : Act → World → Prop), K (a.put o.dst (val i)) w → wpOp P ops Q i K a w := by
          intro K hK
          unfold wpOp
          simp only [ho]
          rcases hs' with ⟨hw, hv⟩ | ⟨hw, hv⟩
          · rw [if_pos hw]
            left
            have := hv w hCw
            unfold Oper.wp
            generalize (execOp a.eval o).run P w = r at *
            cases r with
            | ok n w' =>
              cases n <;> simp only [sUpon] at this <;> simp only [Oper.upon]
              case value u => rw [this.1, this.2]; exact hK
              case skip => rw [this.1, ← this.2]; exact hK
            | halt x w' => simp only [sUpon] at this
          · rw [if_neg (by rw [hw]; simp), ← hv]; exact hK
        refine hwp _ (ih _ _ _ (u1 ++ u2) ed et aF ⟨by simp [st.size], clos', st.esE, fun j hj => getD_set_true (st.edL j hj), ?_, ?_, ?_, ?_, hfull, ?_, ?_, st.rest⟩)
        · intro j hj
          have hji : i ≠ j := by
            intro e; subst e
            have := List.nodup_append.1 c.nodup
            exact this.2.2 i hrs i (by rw [st.esE]; simp [hj]) rfl
          rw [getD_set_ne true hji]; exact st.etU j hj
        · intro j
          rw [hmem, st.rsM]
          constructor
          · rintro ⟨⟨h1, h2⟩, h3⟩
            exact ⟨h1, by rw [getD_set_ne true (Ne.symm h3)]; exact h2⟩
          · rintro ⟨h1, h2⟩
            have hji : j ≠ i := fun e => by subst e; rw [setI'] at h2; cases h2
            rw [getD_set_ne true (Ne.symm hji)] at h2
            exact ⟨⟨h1, h2⟩, hji⟩
        · have := List.nodup_append.1 hnd
          have h2 := (List.nodup_cons.1 this.2.1)
          exact List.nodup_append.2 ⟨this.1, h2.2, fun x hx y hy => this.2.2 x hx y (by simp [hy])⟩
        · have := st.fuelE
          rw [hU] at this
          simp only [List.length_append, List.length_cons] at this ⊢
          omega
        · intro _ j hj oj hoj; exact st.same hne j hj oj hoj
        · intro _; exact hCw
      · -- one of the others: the first that is to come
        have hnotd : i ∉ ed := fun h => by have := st.edL i h; rw [isNotL] at this; cases this
        have hiet : i ∈ et := by
          rw [st.esE] at hes
          rcases List.mem_append.1 hes with h | h
          · exact absurd h hnotd
          · exact h
        obtain ⟨et', rfl⟩ : ∃ et', et = i :: et' := by
          obtain ⟨p1, p2, hp⟩ := List.append_of_mem hiet
          cases hp1 : p1.reverse with
          | nil =>
            have : p1 = [] := by simpa using hp1
            subst this
            exact ⟨p2, by simpa using hp⟩
          | cons q qs =>
            have hq : p1 = qs.reverse ++ [q] := by have := congrArg List.reverse hp1; simpa using this
            have hes2 : es = (ed ++ qs.reverse) ++ q :: i :: p2 := by rw [st.esE, hp, hq]; simp
            have hz : (q, i) ∈ es.zip es.tail := by
              rw [hes2]
              have : ∀ (l : List Nat) (x y : Nat) (r : List Nat), (x, y) ∈ (l ++ x :: y :: r).zip (l ++ x :: y :: r).tail := by
                intro l x y r
                induction l with
                | nil => simp
                | cons z l ihl =>
                  cases l with
                  | nil => simp
                  | cons z2 l2 =>
                    simp only [List.cons_append, List.tail_cons, List.zip_cons_cons] at ihl ⊢
                    exact List.mem_cons_of_mem _ ihl
              exact this _ q i p2
            have hw := c.chain _ hz
            obtain ⟨e, he, hb, hon⟩ := wt_spec hw ho
            have h1 := hall e he hb
            have h2 := st.etU q (by rw [hp, hq]; simp)
            rw [hon, getD_both h2] at h1; cases h1
        have hrest := st.rest
        have hopsE : opsAt ops (i :: et') = o :: opsAt ops et' := by simp [opsAt, ho]
        rw [hopsE] at hrest
        have hes3 : es = (ed ++ [i]) ++ et' := by rw [st.esE]; simp
        have hndes : es.Nodup := (List.nodup_append.1 c.nodup).2.1
        have hiet' : i ∉ et' := by
          have := hndes
          rw [st.esE] at this
          exact (List.nodup_cons.1 (List.nodup_append.1 this).2.1).1
        have edL' : ∀ j ∈ ed ++ [i], (listed.setIfInBounds i true).getD j false = true := by
          intro j hj
          rcases List.mem_append.1 hj with h | h
          · exact getD_set_true (st.edL j h)
          · have : j = i := by simpa using h
            subst this; exact setI
        have etU' : ∀ j ∈ et', (listed.setIfInBounds i true).getD j true = false := by
          intro j hj
          rw [getD_set_ne true (fun e : i = j => hiet' (by rw [e]; exact hj))]
          exact st.etU j (by simp [hj])
        have hirs : i ∉ rs := fun h => (List.nodup_append.1 c.nodup).2.2 i h i hes rfl
        have rsM' : ∀ j, j ∈ rsU ↔ j ∈ rs ∧ (listed.setIfInBounds i true).getD j true = false := by
          intro j
          rw [st.rsM]
          constructor
          · rintro ⟨h1, h2⟩
            exact ⟨h1, by rw [getD_set_ne true (fun e : i = j => hirs (by rw [e]; exact h1))]; exact h2⟩
          · rintro ⟨h1, h2⟩
            exact ⟨h1, by rw [getD_set_ne true (fun e : i = j => hirs (by rw [e]; exact h1))] at h2; exact h2⟩
        have fuelE' : fuel = rsU.length + et'.length := by have := st.fuelE; simp only [List.length_cons] at this; omega
        have hseen : ∀ p ∈ rsU.map (pv ops val), ∀ d, p.1 = some d → d ∉ o.looksAt ops := by
          intro p hp d hd
          obtain ⟨j, hj, rfl⟩ := List.mem_map.1 hp
          have hj' := (st.rsM j).1 hj
          obtain ⟨oj, hoj⟩ : ∃ oj, ops[j]? = some oj := by
            cases hx : ops[j]? with
            | none => simp [pv, hx] at hd
            | some oj => exact ⟨oj, rfl⟩
          rw [pv_dst hoj] at hd
          cases hs : sees ops i j with
          | false => exact sees_spec ho hoj hs d hd
          | true =>
            have := c.er i hes j hj'.1 hs
            obtain ⟨e, he, hb, hon⟩ := wt_spec this ho
            have := hall e he hb
            rw [hon, getD_both hj'.2] at this; cases this
        have hdst : ∀ p ∈ rsU.map (pv ops val), ∀ d, o.dst = some d → p.1 ≠ some d := by
          intro p hp d hd hpd
          obtain ⟨j, hj, rfl⟩ := List.mem_map.1 hp
          have hj' := (st.rsM j).1 hj
          obtain ⟨oj, hoj⟩ : ∃ oj, ops[j]? = some oj := by
            cases hx : ops[j]? with
            | none => simp [pv, hx] at hpd
            | some oj => exact ⟨oj, rfl⟩
          rw [pv_dst hoj] at hpd
          exact sameDst_spec hoj ho (c.dd j hj'.1 i (by simp [hes]) (fun e => hirs (e ▸ hj'.1))) d hpd hd
        have e1 := execOp_puts (ops := ops) o (fun cs b => c.sel i o cs b ho) a (rsU.map (pv ops val)) hseen
        rw [st.full] at e1
        unfold wpOp
        simp only [ho]
        cases hmk : m - ed.length with
        | zero =>
          -- late: every reader is done
          have hall_r : rsU = [] := by
            have hL : ∃ L, es[m]? = some L ∧ (L = i ∨ listed.getD L false = true) := by
              have hme : m ≤ ed.length := by omega
              rcases Nat.lt_or_ge m ed.length with h | h
              · refine ⟨ed[m], by rw [st.esE, List.getElem?_append_left h]; simp, .inr (st.edL _ (List.getElem_mem h))⟩
              · have : m = ed.length := by omega
                subst this
                exact ⟨i, by rw [st.esE]; simp, .inl rfl⟩
            obtain ⟨L, hLm, hLd⟩ := hL
            have hdone : ∀ n j, ops.size - j ≤ n → j ∈ rs → listed.getD j false = true := by
              intro n
              induction n with
              | zero =>
                intro j hj hjr
                obtain ⟨k, hk, hw⟩ := c.late L hLm j hjr
                obtain ⟨ok, hok, _⟩ := Region.waitsFor_spec hw
                obtain ⟨e, he, hb, hon⟩ := wt_spec hw hok
                rcases hk with rfl | ⟨hkr, hlt2⟩
                · rcases hLd with rfl | hLd
                  · rw [ho] at hok; cases hok
                    rw [← hon]; exact hall e he hb
                  · rw [← hon]; exact st.closed _ _ hok hLd e he hb
                · have : k < ops.size := (Array.getElem?_eq_some_iff.1 hok).1
                  omega
              | succ n ihn =>
                intro j hj hjr
                obtain ⟨k, hk, hw⟩ := c.late L hLm j hjr
                obtain ⟨ok, hok, _⟩ := Region.waitsFor_spec hw
                obtain ⟨e, he, hb, hon⟩ := wt_spec hw hok
                rcases hk with rfl | ⟨hkr, hlt2⟩
                · rcases hLd with rfl | hLd
                  · rw [ho] at hok; cases hok
                    rw [← hon]; exact hall e he hb
                  · rw [← hon]; exact st.closed _ _ hok hLd e he hb
                · have h3 := ihn k (by omega) hkr
                  rw [← hon]; exact st.closed _ _ hok h3 e he hb
            rw [List.eq_nil_iff_forall_not_mem]
            intro j hj
            have hj' := (st.rsM j).1 hj
            have := hdone _ j (Nat.le_refl _) hj'.1
            rw [getD_both hj'.2] at this; cases this
          have hF := st.full
          rw [hall_r] at hF
          simp only [List.map_nil, puts] at hF
          subst hF
          rw [hmk, wpE_cons_zero] at hrest
          simp only [wpList] at hrest
          have mk : ∀ a' w', wpList P ops Q (opsAt ops et') a' w' → wpAny P .any ops Q fuel (listed.setIfInBounds i true) a' w' := by
            intro a' w' h
            refine ih _ _ _ [] (ed ++ [i]) et' a' ⟨by simp [st.size], clos', hes3, edL', etU', ?_, List.nodup_nil, ?_, rfl, fun h => absurd rfl h, fun h => absurd rfl h, ?_⟩
            · rw [← hall_r]; exact rsM'
            · rw [fuelE', hall_r]
            · rw [List.length_append, show m - (ed.length + [i].length) = 0 by simp; omega]; exact h
          split
          · rename_i hw
            rw [if_pos hw] at hrest
            rcases hrest with h | h
            · exact .inl (Oper.wp_mono mk h)
            · exact .inr h
          · rename_i hw
            rw [if_neg hw] at hrest
            exact mk _ _ hrest
        | succ k =>
          rw [hmk] at hrest
          simp only [wpE] at hrest
          have hkk : m - (ed ++ [i]).length = k := by simp only [List.length_append, List.length_cons, List.length_nil]; omega
          have mk : ∀ (aF' : Act) (a' : Act) w', puts a' (rsU.map (pv ops val)) = aF' → (rsU ≠ [] → ∀ j ∈ rs, ∀ oj, ops[j]? = some oj → execOp aF'.eval oj = execOp aR.eval oj ∧ Region.wanted oj (yielded ops aF'.tmps) = Region.wanted oj (yielded ops aR.tmps)) → C w' → wpE P ops C Q k (opsAt ops et') aF' w' → wpAny P .any ops Q fuel (listed.setIfInBounds i true) a' w' := by
            intro aF' a' w' hp hs hc hr
            exact ih _ _ _ rsU (ed ++ [i]) et' aF' ⟨by simp [st.size], clos', hes3, edL', etU', rsM', st.rsN, fuelE', hp, hs, fun _ => hc, by rw [hkk]; exact hr⟩
          have sameP : ∀ (x : Act) (v : Value), (rsU ≠ [] → ∀ j ∈ rs, ∀ oj, ops[j]? = some oj → execOp x.eval oj = execOp aR.eval oj ∧ Region.wanted oj (yielded ops x.tmps) = Region.wanted oj (yielded ops aR.tmps)) →
              (rsU ≠ [] → ∀ j ∈ rs, ∀ oj, ops[j]? = some oj → execOp (x.put o.dst v).eval oj = execOp aR.eval oj ∧ Region.wanted oj (yielded ops (x.put o.dst v).tmps) = Region.wanted oj (yielded ops aR.tmps)) := by
            intro x v hx hne j hj oj hoj
            have h1 := sees_spec hoj ho (c.re j hj i hes)
            have h2 := execOp_put (ops := ops) oj (fun cs b => c.sel j oj cs b hoj) x o.dst v h1
            have h3 := wanted_put (ops := ops) oj x o.dst v h1
            have h4 := hx hne j hj oj hoj
            exact ⟨h2.trans h4.1, h3.trans h4.2⟩
          have sameF := st.same
          by_cases hw : Region.wanted o (yielded ops aF.tmps) = true
          · rw [if_pos hw] at hrest
            rw [if_pos (by rw [← e1.2]; exact hw)]
            left
            have hg := wp_good (G := fun x => rsU ≠ [] → ∀ j ∈ rs, ∀ oj, ops[j]? = some oj → execOp x.eval oj = execOp aR.eval oj ∧ Region.wanted oj (yielded ops x.tmps) = Region.wanted oj (yielded ops aR.tmps)) hrest (fun v => sameP aF v sameF)
              (fun d v => sameP _ v (fun hne j hj oj hoj => by
                have h4 := sameF hne j hj oj hoj
                exact ⟨by rw [← h4.1]; rfl, h4.2⟩))
            exact wp_transfer st.full hdst e1.1.symm hQ (fun a' w' hK => mk _ a' w' rfl hK.2 hK.1.1 hK.1.2) hg
          · rw [if_neg hw] at hrest
            rw [if_neg (by rw [← e1.2]; exact hw)]
            exact mk _ _ _ (by rw [puts_put a o.dst undef _ hdst, st.full]) (sameP aF undef sameF) hrest.1 hrest.2

/-- A REGION THAT DRAWS ITS ORDER: the readers first (each yields one value in every world of C), then the others in their one order. -/
theorem wp_region_rf {id : Nat} {l : List Oper} {Q : Exit → Act → World → Prop} {a : Act} {w : World} (C : World → Prop) (rs es : List Nat) (m : Nat) (lr le : List Oper) (hm : P.follows .mixedOrders = true) (hB : rfB l.toArray rs es m = true)
    (hlr : opsAt l.toArray rs = lr) (hle : opsAt l.toArray es = le) (hQ : ∀ c (a : Act) d v w, Q (.panic c) (a.put d v) w → Q (.panic c) a w) (hC : C w.drew)
    (h : wpR P l.toArray C (fun aF => wpE P l.toArray C Q m le aF w.drew) lr a) : (Code.region id l.toArray true).wp P Q a w := by
  have c := chk_of rs es m hB
  have hlt : ∀ i ∈ rs, i < l.toArray.size := by
    intro i hi
    simp only [rfB, Bool.and_eq_true] at hB
    have := List.all_eq_true.1 hB.1.1.1.1.1.1.1.2 i (by simp [hi])
    exact of_decide_eq_true this
  subst hlr hle
  have hnd := (List.nodup_append.1 c.nodup).1
  obtain ⟨val, hv, hq⟩ := wpR_vals rs hlt hnd a h
  refine wp_region_any hm ?_
  have hrep : ∀ i, (Array.replicate l.toArray.size false).getD i false = false := fun i => getD_replicate_false _ _
  refine stand_any (val := val) (a0 := a) (aR := puts a (rs.map (pv l.toArray val))) c hQ rfl hv _ _ _ _ rs [] es (puts a (rs.map (pv l.toArray val)))
    ⟨by simp, fun j oj _ hl => (by rw [hrep] at hl; cases hl), rfl, fun i hi => (by cases hi), ?_, ?_, hnd, ?_, rfl, fun _ i _ o _ => ⟨rfl, rfl⟩, fun _ => hC, hq⟩
  · intro i hi
    have : i < l.toArray.size := by
      simp only [rfB, Bool.and_eq_true] at hB
      exact of_decide_eq_true (List.all_eq_true.1 hB.1.1.1.1.1.1.1.2 i (by simp [hi]))
    exact getD_in (by simpa using this) (hrep i)
  · intro j
    exact ⟨fun hj => ⟨hj, getD_in (by simpa using hlt j hj) (hrep j)⟩, fun h => h.1⟩
  · -- as many as there are
    have hperm : (rs ++ es).length = l.toArray.size := by
      have h1 : ∀ i, i ∈ rs ++ es ↔ i ∈ List.range l.toArray.size := by
        intro i
        constructor
        · intro hi
          simp only [rfB, Bool.and_eq_true] at hB
          exact List.mem_range.2 (of_decide_eq_true (List.all_eq_true.1 hB.1.1.1.1.1.1.1.2 i hi))
        · intro hi
          rcases c.cover i (List.mem_range.1 hi) with h | h
          · exact List.mem_append_left _ h
          · exact List.mem_append_right _ h
      have := (List.perm_ext_iff_of_nodup c.nodup List.nodup_range).2 h1
      rw [this.length_eq, List.length_range]
    rw [← hperm, List.length_append]


theorem wpR_step {Q : Act → Prop} {a : Act} {o : Oper} {rest : List Oper} (hg : o.guard = none)
    (h : ∀ K : Act → Prop, (∀ a, wpR P ops C Q rest a → K a) → ∃ v, (∀ w, C w → sUpon w v ((execOp a.eval o).run P w)) ∧ K (a.put o.dst v)) : wpR P ops C Q (o :: rest) a := by
  obtain ⟨v, h1, h2⟩ := h _ (fun _ h => h)
  exact ⟨v, .inl ⟨by simp [Region.wanted, hg], h1⟩, h2⟩
theorem wpR_nil {Q : Act → Prop} {a : Act} (h : Q a) : wpR P ops C Q [] a := h
theorem wpE_step {Q : Exit → Act → World → Prop} {m : Nat} {a : Act} {w : World} {o : Oper} {rest : List Oper} (hg : o.guard = none)
    (h : ∀ K : Act → World → Prop, (∀ a w, C w → wpE P ops C Q m rest a w → K a w) → o.wp P a w K Q) : wpE P ops C Q (m + 1) (o :: rest) a w := by
  simp only [wpE]
  rw [if_pos (by simp [Region.wanted, hg])]
  exact h _ (fun _ _ h1 h2 => ⟨h1, h2⟩)
theorem wpE_zero {Q : Exit → Act → World → Prop} {a : Act} {w : World} {l : List Oper} (h : wpList P ops Q l a w) : wpE P ops C Q 0 l a w := h
theorem wp_append_eq {K : Act → World → Prop} {Q : Exit → Act → World → Prop} {a : Act} {w : World} {o : Oper} (s x : Operand) (t : TypeId)
    (ho : o.op = .call { callee := .builtin .append, args := #[s, x], argTypes := #[t, t] }) {v u v' : Value} {w' : World} (hs : a.eval s = v) (hx : a.eval x = u)
    (hr : (Builtin.append_ #[t, t] o.type #[v, u]).run P w = .ok v' w') (h : K (a.put o.dst v') w') : o.wp P a w K Q := by
  unfold Oper.wp execOp
  simp only [ho, resolve, invoke, builtin, Sem.run_bind, Sem.run_pure, Result.andThen_ok, List.map_toArray, List.map_cons, List.map_nil, hs, hx, hr]
  exact h
theorem wpList_append_eq {Q : Exit → Act → World → Prop} {a : Act} {w : World} {o : Oper} {rest : List Oper} (hgd : o.guard = none) (s x : Operand) (t : TypeId)
    (ho : o.op = .call { callee := .builtin .append, args := #[s, x], argTypes := #[t, t] }) {v u v' : Value} {w' : World} (hs : a.eval s = v) (hx : a.eval x = u)
    (hr : (Builtin.append_ #[t, t] o.type #[v, u]).run P w = .ok v' w') (h : wpList P ops Q rest (a.put o.dst v') w') : wpList P ops Q (o :: rest) a w :=
  wpList_plain hgd fun _ hK => wp_append_eq s x t ho hs hx hr (hK _ _ h)
theorem wp_make_eq {K : Act → World → Prop} {Q : Exit → Act → World → Prop} {a : Act} {w : World} {o : Oper} (l c : Operand) (t : TypeId) (ho : o.op = .makeSlice t l c) {v u v' : Value} {w' : World} (hl : a.eval l = v) (hc : a.eval c = u)
    (hr : (Instr.makeSlice t v u).run P w = .ok v' w') (h : K (a.put o.dst v') w') : o.wp P a w K Q := by
  unfold Oper.wp
  simp only [execOp, ho, hl, hc, Sem.run_bind, hr, Result.andThen_ok, Sem.run_pure, Oper.upon]
  exact h
attribute [go_sem] sUpon

end
end Go.Tw
