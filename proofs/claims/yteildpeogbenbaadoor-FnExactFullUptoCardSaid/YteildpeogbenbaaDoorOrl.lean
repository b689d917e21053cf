/- A region that draws its order, walked once: the operations that only read; then the others, in one forced order; then operations that only look at slots, behind all of them. Printed by gen_XOrl.py. -/
import Derived.Test.YteildpeogbenbaaDoorOrd
namespace Go.Tw

section
variable {P : Program} {ops : Array Oper} {C : World → Prop}

/-- What the others leave: the late ones are still to come. -/
def QL (P : Program) (ops : Array Oper) (ls : List Nat) (Q : Exit → Act → World → Prop) : Exit → Act → World → Prop
  | .normal, a, w => wpR P ops (fun w' => w' = w) (fun aF => Q .normal aF w) (opsAt ops ls) a
  | e, a, w => Q e a w

theorem wp_QL {o : Oper} {a : Act} {w : World} {K : Act → World → Prop} {Q : Exit → Act → World → Prop} {ls : List Nat} (h : o.wp P a w K (QL P ops ls Q)) : o.wp P a w K Q := by
  unfold Oper.wp at *
  generalize (execOp a.eval o).run P w = r at *
  cases r with
  | ok n w' =>
    cases n <;> simp only [Oper.upon] at h ⊢
    case value v => exact h
    case skip => exact h
    case defer d => exact h
    case enter f args =>
      refine Calls.mono h fun e w'' hh => ?_
      cases e with
      | returned v => exact hh
      | panicked c => exact hh
      | outgrown => exact hh
    case row r args => exact Rows.mono h fun v w'' hh => hh
  | halt x w' =>
    cases x <;> simp only [Oper.upon] at h ⊢
    case panic v => exact h
theorem lets_QL {Q : Exit → Act → World → Prop} {ls : List Nat} (h : LetsOut (QL P ops ls Q)) : LetsOut Q := h

/-- What the kernel checks of a region besides. -/
def rlB (ops : Array Oper) (rs es ls : List Nat) (m : Nat) : Bool :=
  Region.noSelect ops &&
  (List.range ops.size).all (fun i => rs.contains i || es.contains i || ls.contains i) &&
  decide (rs ++ (es ++ ls)).Nodup && (rs ++ (es ++ ls)).all (fun i => decide (i < ops.size)) &&
  (List.range ops.size).all (fun i => match ops[i]? with | some o => o.after.all (fun e => !Region.binds .any e || decide (e.on < i)) | none => true) &&
  decide (rs.Pairwise (· < ·)) && decide (ls.Pairwise (· < ·)) &&
  rs.all (fun i => rs.all (fun j => !sees ops i j || (decide (j < i) && wt ops i j)) && es.all (fun e => !sees ops i e)) &&
  es.all (fun e => rs.all (fun j => !sees ops e j || wt ops e j)) &&
  rs.all (fun i => (rs ++ es).all (fun j => decide (i = j) || !sameDst ops i j)) &&
  (es.zip es.tail).all (fun p => wt ops p.2 p.1) &&
  (match es[m]? with | some L => rs.all (fun i => (L :: es.take m).any (fun j => wt ops j i) || rs.any (fun j => decide (i < j) && wt ops j i)) | none => false) &&
  ls.all (fun i => ls.all (fun j => !sees ops i j || (decide (j < i) && wt ops i j)) && ls.all (fun j => decide (i = j) || !sameDst ops i j) && (match es.getLast? with | some L => wt ops i L | none => false))

structure ChkL (ops : Array Oper) (rs es ls : List Nat) (m : Nat) : Prop where
  sel : ∀ (j : Nat) (o : Oper) cs b, ops[j]? = some o → o.op ≠ .select cs b
  cover : ∀ i, i < ops.size → i ∈ rs ∨ i ∈ es ∨ i ∈ ls
  nodup : (rs ++ (es ++ ls)).Nodup
  lt : ∀ i ∈ rs ++ (es ++ ls), i < ops.size
  back : ∀ (i : Nat) (o : Oper), ops[i]? = some o → ∀ e ∈ o.after, Region.binds .any e = true → e.on < i
  sorted : rs.Pairwise (· < ·)
  rr : ∀ i ∈ rs, ∀ j ∈ rs, sees ops i j = true → j < i ∧ wt ops i j = true
  re : ∀ i ∈ rs, ∀ e ∈ es, sees ops i e = false
  er : ∀ e ∈ es, ∀ j ∈ rs, sees ops e j = true → wt ops e j = true
  dd : ∀ i ∈ rs, ∀ j ∈ rs ++ es, i ≠ j → sameDst ops i j = false
  chain : ∀ p ∈ es.zip es.tail, wt ops p.2 p.1 = true
  late : ∃ L, es[m]? = some L ∧ ∀ i ∈ rs, ∃ j, (j = L ∨ j ∈ es.take m ∨ (j ∈ rs ∧ i < j)) ∧ wt ops j i = true
  lsorted : ls.Pairwise (· < ·)
  ll : ∀ i ∈ ls, ∀ j ∈ ls, sees ops i j = true → j < i ∧ wt ops i j = true
  ld : ∀ i ∈ ls, ∀ j ∈ ls, i ≠ j → sameDst ops i j = false
  lw : ∀ i ∈ ls, ∃ L, es.getLast? = some L ∧ wt ops i L = true

theorem chkL_of (rs es ls : List Nat) (m : Nat) (h : rlB ops rs es ls m = true) : ChkL ops rs es ls m := by
  simp only [rlB, Bool.and_eq_true] at h
  obtain ⟨⟨⟨⟨⟨⟨⟨⟨⟨⟨⟨⟨h1, h2⟩, h3⟩, h4⟩, h5⟩, h6⟩, h6'⟩, h7⟩, h8⟩, h9⟩, h10⟩, h11⟩, h12⟩ := h
  refine ⟨Region.noSelect_spec h1, ?_, of_decide_eq_true h3, ?_, ?_, of_decide_eq_true h6, ?_, ?_, ?_, ?_, ?_, ?_, of_decide_eq_true h6', ?_, ?_, ?_⟩
  · intro i hi
    have := List.all_eq_true.1 h2 i (List.mem_range.2 hi)
    simpa [or_assoc] using this
  · intro i hi
    exact of_decide_eq_true (List.all_eq_true.1 h4 i hi)
  · intro i o ho e he hb
    have hlt : i < ops.size := (Array.getElem?_eq_some_iff.1 ho).1
    have := List.all_eq_true.1 h5 i (List.mem_range.2 hlt)
    simp only [ho] at this
    have := Array.all_eq_true_iff_forall_mem.1 this e he
    simp only [hb, Bool.not_true, Bool.false_or, decide_eq_true_eq] at this
    exact this
  · intro i hi j hj hs
    have := List.all_eq_true.1 h7 i hi
    simp only [Bool.and_eq_true] at this
    have := List.all_eq_true.1 this.1 j hj
    simpa [hs] using this
  · intro i hi e he
    have := List.all_eq_true.1 h7 i hi
    simp only [Bool.and_eq_true] at this
    have := List.all_eq_true.1 this.2 e he
    simpa using this
  · intro e he j hj hs
    have := List.all_eq_true.1 (List.all_eq_true.1 h8 e he) j hj
    simpa [hs] using this
  · intro i hi j hj hne
    have := List.all_eq_true.1 (List.all_eq_true.1 h9 i hi) j hj
    simpa [hne] using this
  · exact fun p hp => List.all_eq_true.1 h10 p hp
  · cases hL : es[m]? with
    | none => rw [hL] at h11; cases h11
    | some L =>
      refine ⟨L, rfl, fun i hi => ?_⟩
      simp only [hL] at h11
      have := List.all_eq_true.1 h11 i hi
      rcases Bool.or_eq_true_iff.1 this with h | h
      · obtain ⟨j, hj, h⟩ := List.any_eq_true.1 h
        rcases List.mem_cons.1 hj with e | e
        · exact ⟨j, .inl e, h⟩
        · exact ⟨j, .inr (.inl e), h⟩
      · obtain ⟨j, hj, h⟩ := List.any_eq_true.1 h
        simp only [Bool.and_eq_true, decide_eq_true_eq] at h
        exact ⟨j, .inr (.inr ⟨hj, h.1⟩), h.2⟩
  · intro i hi j hj hs
    have := List.all_eq_true.1 h12 i hi
    simp only [Bool.and_eq_true] at this
    have := List.all_eq_true.1 this.1.1 j hj
    simpa [hs] using this
  · intro i hi j hj hne
    have := List.all_eq_true.1 h12 i hi
    simp only [Bool.and_eq_true] at this
    have := List.all_eq_true.1 this.1.2 j hj
    simpa [hne] using this
  · intro i hi
    have := List.all_eq_true.1 h12 i hi
    simp only [Bool.and_eq_true] at this
    have := this.2
    cases hL : es.getLast? with
    | none => rw [hL] at this; cases this
    | some L => rw [hL] at this; exact ⟨L, rfl, this⟩

/-- The late ones: all others are done. -/
theorem late_any {Q : Exit → Act → World → Prop} {rs es ls : List Nat} {m : Nat} {val : Nat → Value} {a0 aF : Act} {w : World} (c : ChkL ops rs es ls m) (hQ : Q .normal aF w)
    (haF : aF = puts a0 (ls.map (pv ops val)))
    (hval : ∀ l1 i l2 o, ls = l1 ++ i :: l2 → ops[i]? = some o → sAt P ops (fun w' => w' = w) o (puts a0 (l1.map (pv ops val))) (val i)) :
    ∀ (fuel : Nat) (listed : Array Bool) (a : Act) (lsU : List Nat), listed.size = ops.size → (∀ i, i < ops.size → i ∉ ls → listed.getD i false = true) → (∀ j, j ∈ lsU ↔ j ∈ ls ∧ listed.getD j true = false) → lsU.Nodup → fuel = lsU.length → puts a (lsU.map (pv ops val)) = aF → wpAny P .any ops Q fuel listed a w := by
  intro fuel
  induction fuel with
  | zero =>
    intro listed a lsU hsz hdn hM hN hf hF
    obtain rfl : lsU = [] := List.length_eq_zero_iff.1 (by omega)
    refine ⟨?_, by simp only [List.map_nil, puts] at hF; rw [hF]; exact hQ⟩
    rw [List.eq_nil_iff_forall_not_mem]
    intro i hi
    obtain ⟨hun, o, ho, _⟩ := mem_ready.1 hi
    have hlt : i < ops.size := (Array.getElem?_eq_some_iff.1 ho).1
    by_cases h : i ∈ ls
    · have := (hM i).2 ⟨h, hun⟩; simp at this
    · have := hdn i hlt h
      rw [getD_both hun] at this; cases this
  | succ fuel ih =>
    intro listed a lsU hsz hdn hM hN hf hF
    refine ⟨?_, ?_⟩
    · intro hnil
      exfalso
      have hex : ∃ i, i < ops.size ∧ listed.getD i true = false := by
        cases hr : lsU with
        | nil => rw [hr] at hf; simp at hf
        | cons i l =>
          have := (hM i).1 (by rw [hr]; simp)
          exact ⟨i, c.lt i (by simp [this.1]), this.2⟩
      have least : ∀ n i, i ≤ n → i < ops.size → listed.getD i true = false → ∃ j, j ∈ Region.ready .any ops listed := by
        intro n
        induction n with
        | zero =>
          intro i hi hlt hun
          obtain ⟨o, ho⟩ : ∃ o, ops[i]? = some o := ⟨_, Array.getElem?_eq_getElem hlt⟩
          exact ⟨i, mem_ready.2 ⟨hun, o, ho, fun e he hb => by have := c.back i o ho e he hb; omega⟩⟩
        | succ n ihn =>
          intro i hi hlt hun
          obtain ⟨o, ho⟩ : ∃ o, ops[i]? = some o := ⟨_, Array.getElem?_eq_getElem hlt⟩
          by_cases hall : ∀ e ∈ o.after, Region.binds .any e = true → listed.getD e.on false = true
          · exact ⟨i, mem_ready.2 ⟨hun, o, ho, hall⟩⟩
          · simp only [Classical.not_forall] at hall
            obtain ⟨e, he, hb, hne⟩ := hall
            have hlt2 := c.back i o ho e he hb
            exact ihn e.on (by omega) (by omega) (getD_in (by rw [hsz]; omega) (by simpa using hne))
      obtain ⟨i, hi, hun⟩ := hex
      obtain ⟨j, hj⟩ := least i i (Nat.le_refl _) hi hun
      rw [hnil] at hj; cases hj
    · intro i hi
      obtain ⟨hun, o, ho, hall⟩ := mem_ready.1 hi
      have hlt : i < ops.size := (Array.getElem?_eq_some_iff.1 ho).1
      have isNotL : listed.getD i false = false := getD_both hun
      have setI' : (listed.setIfInBounds i true).getD i true = true := by
        simp [Array.getD_eq_getD_getElem?, hsz, hlt]
      have hrs : i ∈ ls := by
        by_cases h : i ∈ ls
        · exact h
        · have := hdn i hlt h; rw [isNotL] at this; cases this
      have hiU : i ∈ lsU := (hM i).2 ⟨hrs, hun⟩
      have huns : ∀ p ∈ lsU.map (pv ops val), ∀ d, p.1 = some d → d ∉ o.looksAt ops := by
        intro p hp d hd
        obtain ⟨j, hj, rfl⟩ := List.mem_map.1 hp
        have hj' := (hM j).1 hj
        obtain ⟨oj, hoj⟩ : ∃ oj, ops[j]? = some oj := by
          cases hx : ops[j]? with
          | none => simp [pv, hx] at hd
          | some oj => exact ⟨oj, rfl⟩
        rw [pv_dst hoj] at hd
        cases hs : sees ops i j with
        | false => exact sees_spec ho hoj hs d hd
        | true =>
          have := c.ll i hrs j hj'.1 hs
          obtain ⟨e, he, hb, hon⟩ := wt_spec this.2 ho
          have := hall e he hb
          rw [hon, getD_both hj'.2] at this; cases this
      obtain ⟨l1, l2, hsplit⟩ := List.append_of_mem hrs
      have hlater : ∀ p ∈ (i :: l2).map (pv ops val), ∀ d, p.1 = some d → d ∉ o.looksAt ops := by
        intro p hp d hd
        obtain ⟨j, hj, rfl⟩ := List.mem_map.1 hp
        obtain ⟨oj, hoj⟩ : ∃ oj, ops[j]? = some oj := by
          cases hx : ops[j]? with
          | none => simp [pv, hx] at hd
          | some oj => exact ⟨oj, rfl⟩
        rw [pv_dst hoj] at hd
        have hjr : j ∈ ls := by rw [hsplit]; exact List.mem_append_right _ hj
        have hij : i ≤ j := by
          rcases List.mem_cons.1 hj with e | e
          · omega
          · have hp2 := c.lsorted
            rw [hsplit] at hp2
            have := (List.pairwise_append.1 hp2).2.1
            exact Nat.le_of_lt ((List.pairwise_cons.1 this).1 j e)
        cases hs : sees ops i j with
        | false => exact sees_spec ho hoj hs d hd
        | true => have := (c.ll i hrs j hjr hs).1; omega
      have e1 := execOp_puts (ops := ops) o (fun cs b => c.sel i o cs b ho) a (lsU.map (pv ops val)) huns
      rw [hF] at e1
      have e2 := execOp_puts (ops := ops) o (fun cs b => c.sel i o cs b ho) (puts a0 (l1.map (pv ops val))) ((i :: l2).map (pv ops val)) hlater
      rw [← puts_append, ← List.map_append, ← hsplit, ← haF] at e2
      have hs := hval l1 i l2 o hsplit ho
      have hs' : sAt P ops (fun w' => w' = w) o a (val i) := by
        unfold sAt at hs ⊢
        rw [← e1.1, ← e1.2, e2.1, e2.2]
        exact hs
      obtain ⟨u1, u2, hU⟩ := List.append_of_mem hiU
      have hnd := hN
      rw [hU] at hnd
      have hi12 : i ∉ u1 ∧ i ∉ u2 := by
        have := List.nodup_append.1 hnd
        refine ⟨fun h => this.2.2 i h i (by simp) rfl, (List.nodup_cons.1 this.2.1).1⟩
      have hdst : ∀ p ∈ u1.map (pv ops val), ∀ d, o.dst = some d → p.1 ≠ some d := by
        intro p hp d hd hpd
        obtain ⟨j, hj, rfl⟩ := List.mem_map.1 hp
        obtain ⟨oj, hoj⟩ : ∃ oj, ops[j]? = some oj := by
          cases hx : ops[j]? with
          | none => simp [pv, hx] at hpd
          | some oj => exact ⟨oj, rfl⟩
        rw [pv_dst hoj] at hpd
        have hjr : j ∈ ls := ((hM j).1 (by rw [hU]; simp [hj])).1
        have hji : i ≠ j := fun e => hi12.1 (e ▸ hj)
        exact sameDst_spec ho hoj (c.ld i hrs j hjr hji) d hd hpd
      have hfull : puts (a.put o.dst (val i)) ((u1 ++ u2).map (pv ops val)) = aF := by
        rw [List.map_append, puts_append, puts_put a o.dst (val i) _ hdst, ← hF, hU, List.map_append, puts_append, List.map_cons, puts, pv_dst ho]
      have hmem : ∀ j, j ∈ u1 ++ u2 ↔ j ∈ lsU ∧ j ≠ i := by
        intro j
        rw [hU]
        simp only [List.mem_append, List.mem_cons]
        constructor
        · rintro (h | h)
          · exact ⟨.inl h, fun e => hi12.1 (e ▸ h)⟩
          · exact ⟨.inr (.inr h), fun e => hi12.2 (e ▸ h)⟩
        · rintro ⟨h | h | h, hn⟩
          · exact .inl h
          · exact absurd h hn
          · exact .inr h
      have hwp : ∀ (K : Act → World → Prop), K (a.put o.dst (val i)) w → wpOp P ops Q i K a w := by
        intro K hK
        unfold wpOp
        simp only [ho]
        rcases hs' with ⟨hw, hv⟩ | ⟨hw, hv⟩
        · rw [if_pos hw]
          left
          have := hv w rfl
          unfold Oper.wp
          generalize (execOp a.eval o).run P w = r at *
          cases r with
          | ok n w' =>
            cases n <;> simp only [sUpon] at this <;> simp only [Oper.upon]
            case value u => rw [this.1, this.2]; exact hK
            case skip => rw [this.1, ← this.2]; exact hK
          | halt x w' => simp only [sUpon] at this
        · rw [if_neg (by rw [hw]; simp), ← hv]; exact hK
      refine hwp _ (ih _ _ (u1 ++ u2) (by simp [hsz]) ?_ ?_ ?_ ?_ hfull)
      · intro j hj hjl
        exact getD_set_true (hdn j hj hjl)
      · intro j
        rw [hmem, hM]
        constructor
        · rintro ⟨⟨h1, h2⟩, h3⟩
          exact ⟨h1, by rw [getD_set_ne true (Ne.symm h3)]; exact h2⟩
        · rintro ⟨h1, h2⟩
          have hji : j ≠ i := fun e => by subst e; rw [setI'] at h2; cases h2
          rw [getD_set_ne true (Ne.symm hji)] at h2
          exact ⟨⟨h1, h2⟩, hji⟩
      · have := List.nodup_append.1 hnd
        have h2 := (List.nodup_cons.1 this.2.1)
        exact List.nodup_append.2 ⟨this.1, h2.2, fun x hx y hy => this.2.2 x hx y (by simp [hy])⟩
      · rw [hU] at hf
        simp only [List.length_append, List.length_cons] at hf ⊢
        omega

/-- Where the walk stands. -/
structure StandL (P : Program) (ops : Array Oper) (C : World → Prop) (Q : Exit → Act → World → Prop) (rs es ls : List Nat) (m : Nat) (val : Nat → Value) (aR : Act) (fuel : Nat) (listed : Array Bool) (a : Act) (w : World) (rsU ed et : List Nat) (aF : Act) : Prop where
  size : listed.size = ops.size
  closed : ∀ (j : Nat) (oj : Oper), ops[j]? = some oj → listed.getD j false = true → ∀ e ∈ oj.after, Region.binds .any e = true → listed.getD e.on false = true
  esE : es = ed ++ et
  edL : ∀ i ∈ ed, listed.getD i false = true
  etU : ∀ i ∈ et, listed.getD i true = false
  rsM : ∀ j, j ∈ rsU ↔ j ∈ rs ∧ listed.getD j true = false
  rsN : rsU.Nodup
  lsU : ∀ i ∈ ls, listed.getD i true = false
  fuelE : fuel = rsU.length + et.length + ls.length
  full : puts a (rsU.map (pv ops val)) = aF
  same : rsU ≠ [] → ∀ i ∈ rs, ∀ o, ops[i]? = some o → execOp aF.eval o = execOp aR.eval o ∧ Region.wanted o (yielded ops aF.tmps) = Region.wanted o (yielded ops aR.tmps)
  cls : rsU ≠ [] → C w
  rest : wpE P ops C (QL P ops ls Q) (m - ed.length) (opsAt ops et) aF w

/-- All others are done: the late ones. -/
theorem StandL.late {Q : Exit → Act → World → Prop} {rs es ls : List Nat} {m : Nat} {val : Nat → Value} {aR : Act} {fuel : Nat} {listed : Array Bool} {a : Act} {w : World} {rsU ed et : List Nat} {aF : Act} (c : ChkL ops rs es ls m) (st : StandL P ops C Q rs es ls m val aR fuel listed a w rsU ed et aF) (h1 : rsU = []) (h2 : et = []) : wpAny P .any ops Q fuel listed a w := by
  subst h1 h2
  have hF := st.full
  simp only [List.map_nil, puts] at hF
  subst hF
  have hr : QL P ops ls Q .normal a w := by
    have := st.rest
    simp only [opsAt, List.filterMap_nil] at this
    cases hm : m - ed.length with
    | zero => rw [hm] at this; exact this
    | succ k => rw [hm] at this; exact this
  have hlt : ∀ i ∈ ls, i < ops.size := fun i hi => c.lt i (by simp [hi])
  have hnd : ls.Nodup := (List.nodup_append.1 (List.nodup_append.1 c.nodup).2.1).2.1
  obtain ⟨val', hv, hq⟩ := wpR_vals ls hlt hnd a hr
  have hfu := st.fuelE
  simp only [List.length_nil, Nat.zero_add] at hfu
  refine late_any c hq rfl hv fuel listed a ls st.size ?_ (fun j => ⟨fun h => ⟨h, st.lsU j h⟩, fun h => h.1⟩) hnd hfu rfl
  intro i hi hl
  rcases c.cover i hi with h | h | h
  · have := st.rsM i
    simp only [List.not_mem_nil, false_iff, not_and] at this
    have h3 := this h
    cases hb : listed.getD i false with
    | true => rfl
    | false => exact absurd (getD_in (by rw [st.size]; exact hi) hb) h3
  · have he := st.esE
    rw [List.append_nil] at he
    exact st.edL i (he ▸ h)
  · exact absurd h hl

theorem standL_any {Q : Exit → Act → World → Prop} {rs es ls : List Nat} {m : Nat} {val : Nat → Value} {a0 aR : Act} (c : ChkL ops rs es ls m)
    (hQ : ∀ c (a : Act) d v w, Q (.panic c) (a.put d v) w → Q (.panic c) a w)
    (haR : aR = puts a0 (rs.map (pv ops val)))
    (hval : ∀ l1 i l2 o, rs = l1 ++ i :: l2 → ops[i]? = some o → sAt P ops C o (puts a0 (l1.map (pv ops val))) (val i)) :
    ∀ (fuel : Nat) (listed : Array Bool) (a : Act) (w : World) (rsU ed et : List Nat) (aF : Act), StandL P ops C Q rs es ls m val aR fuel listed a w rsU ed et aF → wpAny P .any ops Q fuel listed a w := by
  intro fuel
  induction fuel with
  | zero =>
    intro listed a w rsU ed et aF st
    have h0 := st.fuelE
    exact st.late c (List.length_eq_zero_iff.1 (by omega)) (List.length_eq_zero_iff.1 (by omega))
  | succ fuel ih =>
    intro listed a w rsU ed et aF st
    by_cases hfin : rsU = [] ∧ et = []
    · exact st.late c hfin.1 hfin.2
    have hunl : ∀ i, i < ops.size → listed.getD i false = false → listed.getD i true = false := fun i hi h => getD_in (by rw [st.size]; exact hi) h
    refine ⟨?_, ?_⟩
    · -- something is ready
      intro hnil
      exfalso
      have hex : ∃ i, i < ops.size ∧ listed.getD i true = false := by
        cases hr : rsU with
        | cons i l =>
          have := (st.rsM i).1 (by rw [hr]; simp)
          rcases Nat.lt_or_ge i ops.size with h | h
          · exact ⟨i, h, this.2⟩
          · have h2 := this.2
            rw [Array.getD_eq_getD_getElem?, Array.getElem?_eq_none (by rw [st.size]; exact h)] at h2
            simp at h2
        | nil =>
          cases he : et with
          | nil => exact absurd ⟨hr, he⟩ hfin
          | cons i l =>
            have h2 := st.etU i (by rw [he]; simp)
            rcases Nat.lt_or_ge i ops.size with h | h
            · exact ⟨i, h, h2⟩
            · rw [Array.getD_eq_getD_getElem?, Array.getElem?_eq_none (by rw [st.size]; exact h)] at h2
              simp at h2
      have least : ∀ n i, i ≤ n → i < ops.size → listed.getD i true = false → ∃ j, j ∈ Region.ready .any ops listed := by
        intro n
        induction n with
        | zero =>
          intro i hi hlt hun
          obtain ⟨o, ho⟩ : ∃ o, ops[i]? = some o := ⟨_, Array.getElem?_eq_getElem hlt⟩
          exact ⟨i, mem_ready.2 ⟨hun, o, ho, fun e he hb => by have := c.back i o ho e he hb; omega⟩⟩
        | succ n ihn =>
          intro i hi hlt hun
          obtain ⟨o, ho⟩ : ∃ o, ops[i]? = some o := ⟨_, Array.getElem?_eq_getElem hlt⟩
          by_cases hall : ∀ e ∈ o.after, Region.binds .any e = true → listed.getD e.on false = true
          · exact ⟨i, mem_ready.2 ⟨hun, o, ho, hall⟩⟩
          · simp only [Classical.not_forall] at hall
            obtain ⟨e, he, hb, hne⟩ := hall
            have hlt2 := c.back i o ho e he hb
            exact ihn e.on (by omega) (by omega) (hunl _ (by omega) (by simpa using hne))
      obtain ⟨i, hi, hun⟩ := hex
      obtain ⟨j, hj⟩ := least i i (Nat.le_refl _) hi hun
      rw [hnil] at hj; cases hj
    · intro i hi
      obtain ⟨hun, o, ho, hall⟩ := mem_ready.1 hi
      have hlt : i < ops.size := (Array.getElem?_eq_some_iff.1 ho).1
      have isNotL : listed.getD i false = false := getD_both hun
      have clos' : ∀ (j : Nat) (oj : Oper), ops[j]? = some oj → (listed.setIfInBounds i true).getD j false = true → ∀ e ∈ oj.after, Region.binds .any e = true → (listed.setIfInBounds i true).getD e.on false = true := by
        intro j oj hj hl e he hb
        by_cases hij : i = j
        · subst hij
          rw [ho] at hj; cases hj
          exact getD_set_true (hall e he hb)
        · rw [getD_set_ne false hij] at hl
          exact getD_set_true (st.closed j oj hj hl e he hb)
      have setI : (listed.setIfInBounds i true).getD i false = true := by
        simp [Array.getD_eq_getD_getElem?, st.size, hlt]
      have setI' : (listed.setIfInBounds i true).getD i true = true := by
        simp [Array.getD_eq_getD_getElem?, st.size, hlt]
      rcases c.cover i hlt with hrs | hes | hls
      · -- a reader
        have hiU : i ∈ rsU := (st.rsM i).2 ⟨hrs, hun⟩
        have hne : rsU ≠ [] := fun e => by rw [e] at hiU; cases hiU
        have hCw := st.cls hne
        have hsame := st.same hne i hrs o ho
        -- what it looks at
        have huns : ∀ p ∈ rsU.map (pv ops val), ∀ d, p.1 = some d → d ∉ o.looksAt ops := by
          intro p hp d hd
          obtain ⟨j, hj, rfl⟩ := List.mem_map.1 hp
          have hj' := (st.rsM j).1 hj
          obtain ⟨oj, hoj⟩ : ∃ oj, ops[j]? = some oj := by
            cases hx : ops[j]? with
            | none => simp [pv, hx] at hd
            | some oj => exact ⟨oj, rfl⟩
          rw [pv_dst hoj] at hd
          cases hs : sees ops i j with
          | false => exact sees_spec ho hoj hs d hd
          | true =>
            have := c.rr i hrs j hj'.1 hs
            obtain ⟨e, he, hb, hon⟩ := wt_spec this.2 ho
            have := hall e he hb
            rw [hon, getD_both hj'.2] at this; cases this
        obtain ⟨l1, l2, hsplit⟩ := List.append_of_mem hrs
        have hlater : ∀ p ∈ (i :: l2).map (pv ops val), ∀ d, p.1 = some d → d ∉ o.looksAt ops := by
          intro p hp d hd
          obtain ⟨j, hj, rfl⟩ := List.mem_map.1 hp
          obtain ⟨oj, hoj⟩ : ∃ oj, ops[j]? = some oj := by
            cases hx : ops[j]? with
            | none => simp [pv, hx] at hd
            | some oj => exact ⟨oj, rfl⟩
          rw [pv_dst hoj] at hd
          have hjr : j ∈ rs := by rw [hsplit]; exact List.mem_append_right _ hj
          have hij : i ≤ j := by
            rcases List.mem_cons.1 hj with e | e
            · omega
            · have hp2 := c.sorted
              rw [hsplit] at hp2
              have := (List.pairwise_append.1 hp2).2.1
              exact Nat.le_of_lt ((List.pairwise_cons.1 this).1 j e)
          cases hs : sees ops i j with
          | false => exact sees_spec ho hoj hs d hd
          | true => have := (c.rr i hrs j hjr hs).1; omega
        have e1 := execOp_puts (ops := ops) o (fun cs b => c.sel i o cs b ho) a (rsU.map (pv ops val)) huns
        rw [st.full] at e1
        have e2 := execOp_puts (ops := ops) o (fun cs b => c.sel i o cs b ho) (puts a0 (l1.map (pv ops val))) ((i :: l2).map (pv ops val)) hlater
        rw [← puts_append, ← List.map_append, ← hsplit, ← haR] at e2
        have hs := hval l1 i l2 o hsplit ho
        have hs' : sAt P ops C o a (val i) := by
          unfold sAt at hs ⊢
          rw [← e1.1, ← e1.2, hsame.1, hsame.2, e2.1, e2.2]
          exact hs
        -- the new stand
        obtain ⟨u1, u2, hU⟩ := List.append_of_mem hiU
        have hnd := st.rsN
        rw [hU] at hnd
        have hi12 : i ∉ u1 ∧ i ∉ u2 := by
          have := List.nodup_append.1 hnd
          refine ⟨fun h => this.2.2 i h i (by simp) rfl, (List.nodup_cons.1 this.2.1).1⟩
        have hdst : ∀ p ∈ u1.map (pv ops val), ∀ d, o.dst = some d → p.1 ≠ some d := by
          intro p hp d hd hpd
          obtain ⟨j, hj, rfl⟩ := List.mem_map.1 hp
          obtain ⟨oj, hoj⟩ : ∃ oj, ops[j]? = some oj := by
            cases hx : ops[j]? with
            | none => simp [pv, hx] at hpd
            | some oj => exact ⟨oj, rfl⟩
          rw [pv_dst hoj] at hpd
          have hjr : j ∈ rs := ((st.rsM j).1 (by rw [hU]; simp [hj])).1
          have hji : i ≠ j := fun e => hi12.1 (e ▸ hj)
          exact sameDst_spec ho hoj (c.dd i hrs j (by simp [hjr]) hji) d hd hpd
        have hfull : puts (a.put o.dst (val i)) ((u1 ++ u2).map (pv ops val)) = aF := by
          rw [List.map_append, puts_append, puts_put a o.dst (val i) _ hdst, ← st.full, hU, List.map_append, puts_append, List.map_cons, puts, pv_dst ho]
        have hmem : ∀ j, j ∈ u1 ++ u2 ↔ j ∈ rsU ∧ j ≠ i := by
          intro j
          rw [hU]
          simp only [List.mem_append, List.mem_cons]
          constructor
          · rintro (h | h)
            · exact ⟨.inl h, fun e => hi12.1 (e ▸ h)⟩
            · exact ⟨.inr (.inr h), fun e => hi12.2 (e ▸ h)⟩
          · rintro ⟨h | h | h, hn⟩
            · exact .inl h
            · exact absurd h hn
            · exact .inr h
        have hwp : ∀ (K : Act → World → Prop), K (a.put o.dst (val i)) w → wpOp P ops Q i K a w := by
          intro K hK
          unfold wpOp
          simp only [ho]
          rcases hs' with ⟨hw, hv⟩ | ⟨hw, hv⟩
          · rw [if_pos hw]
            left
            have := hv w hCw
            unfold Oper.wp
            generalize (execOp a.eval o).run P w = r at *
            cases r with
            | ok n w' =>
              cases n <;> simp only [sUpon] at this <;> simp only [Oper.upon]
              case value u => rw [this.1, this.2]; exact hK
              case skip => rw [this.1, ← this.2]; exact hK
            | halt x w' => simp only [sUpon] at this
          · rw [if_neg (by rw [hw]; simp), ← hv]; exact hK
        refine hwp _ (ih _ _ _ (u1 ++ u2) ed et aF ⟨by simp [st.size], clos', st.esE, fun j hj => getD_set_true (st.edL j hj), ?_, ?_, ?_, ?_, ?_, hfull, ?_, ?_, st.rest⟩)
        · intro j hj
          have hji : i ≠ j := by
            intro e; subst e
            have := List.nodup_append.1 c.nodup
            exact this.2.2 i hrs i (by rw [st.esE]; simp [hj]) rfl
          rw [getD_set_ne true hji]; exact st.etU j hj
        · intro j
          rw [hmem, st.rsM]
          constructor
          · rintro ⟨⟨h1, h2⟩, h3⟩
            exact ⟨h1, by rw [getD_set_ne true (Ne.symm h3)]; exact h2⟩
          · rintro ⟨h1, h2⟩
            have hji : j ≠ i := fun e => by subst e; rw [setI'] at h2; cases h2
            rw [getD_set_ne true (Ne.symm hji)] at h2
            exact ⟨⟨h1, h2⟩, hji⟩
        · have := List.nodup_append.1 hnd
          have h2 := (List.nodup_cons.1 this.2.1)
          exact List.nodup_append.2 ⟨this.1, h2.2, fun x hx y hy => this.2.2 x hx y (by simp [hy])⟩
        · intro j hj
          rw [getD_set_ne true (fun e : i = j => (List.nodup_append.1 c.nodup).2.2 i hrs j (by simp [hj]) e)]; exact st.lsU j hj
        · have := st.fuelE
          rw [hU] at this
          simp only [List.length_append, List.length_cons] at this ⊢
          omega
        · intro _ j hj oj hoj; exact st.same hne j hj oj hoj
        · intro _; exact hCw
      · -- one of the others: the first that is to come
        have hnotd : i ∉ ed := fun h => by have := st.edL i h; rw [isNotL] at this; cases this
        have hiet : i ∈ et := by
          rw [st.esE] at hes
          rcases List.mem_append.1 hes with h | h
          · exact absurd h hnotd
          · exact h
        obtain ⟨et', rfl⟩ : ∃ et', et = i :: et' := by
          obtain ⟨p1, p2, hp⟩ := List.append_of_mem hiet
          cases hp1 : p1.reverse with
          | nil =>
            have : p1 = [] := by simpa using hp1
            subst this
            exact ⟨p2, by simpa using hp⟩
          | cons q qs =>
            have hq : p1 = qs.reverse ++ [q] := by have := congrArg List.reverse hp1; simpa using this
            have hes2 : es = (ed ++ qs.reverse) ++ q :: i :: p2 := by rw [st.esE, hp, hq]; simp
            have hz : (q, i) ∈ es.zip es.tail := by
              rw [hes2]
              have : ∀ (l : List Nat) (x y : Nat) (r : List Nat), (x, y) ∈ (l ++ x :: y :: r).zip (l ++ x :: y :: r).tail := by
                intro l x y r
                induction l with
                | nil => simp
                | cons z l ihl =>
                  cases l with
                  | nil => simp
                  | cons z2 l2 =>
                    simp only [List.cons_append, List.tail_cons, List.zip_cons_cons] at ihl ⊢
                    exact List.mem_cons_of_mem _ ihl
              exact this _ q i p2
            have hw := c.chain _ hz
            obtain ⟨e, he, hb, hon⟩ := wt_spec hw ho
            have h1 := hall e he hb
            have h2 := st.etU q (by rw [hp, hq]; simp)
            rw [hon, getD_both h2] at h1; cases h1
        have hrest := st.rest
        have hopsE : opsAt ops (i :: et') = o :: opsAt ops et' := by simp [opsAt, ho]
        rw [hopsE] at hrest
        have hes3 : es = (ed ++ [i]) ++ et' := by rw [st.esE]; simp
        have hndes : es.Nodup := (List.nodup_append.1 (List.nodup_append.1 c.nodup).2.1).1
        have hiet' : i ∉ et' := by
          have := hndes
          rw [st.esE] at this
          exact (List.nodup_cons.1 (List.nodup_append.1 this).2.1).1
        have edL' : ∀ j ∈ ed ++ [i], (listed.setIfInBounds i true).getD j false = true := by
          intro j hj
          rcases List.mem_append.1 hj with h | h
          · exact getD_set_true (st.edL j h)
          · have : j = i := by simpa using h
            subst this; exact setI
        have etU' : ∀ j ∈ et', (listed.setIfInBounds i true).getD j true = false := by
          intro j hj
          rw [getD_set_ne true (fun e : i = j => hiet' (by rw [e]; exact hj))]
          exact st.etU j (by simp [hj])
        have hirs : i ∉ rs := fun h => (List.nodup_append.1 c.nodup).2.2 i h i (by simp [hes]) rfl
        have lsU' : ∀ j ∈ ls, (listed.setIfInBounds i true).getD j true = false := by
          intro j hj
          rw [getD_set_ne true (fun e : i = j => (List.nodup_append.1 (List.nodup_append.1 c.nodup).2.1).2.2 i hes j hj e)]; exact st.lsU j hj
        have rsM' : ∀ j, j ∈ rsU ↔ j ∈ rs ∧ (listed.setIfInBounds i true).getD j true = false := by
          intro j
          rw [st.rsM]
          constructor
          · rintro ⟨h1, h2⟩
            exact ⟨h1, by rw [getD_set_ne true (fun e : i = j => hirs (by rw [e]; exact h1))]; exact h2⟩
          · rintro ⟨h1, h2⟩
            exact ⟨h1, by rw [getD_set_ne true (fun e : i = j => hirs (by rw [e]; exact h1))] at h2; exact h2⟩
        have fuelE' : fuel = rsU.length + et'.length + ls.length := by have := st.fuelE; simp only [List.length_cons] at this; omega
        have hseen : ∀ p ∈ rsU.map (pv ops val), ∀ d, p.1 = some d → d ∉ o.looksAt ops := by
          intro p hp d hd
          obtain ⟨j, hj, rfl⟩ := List.mem_map.1 hp
          have hj' := (st.rsM j).1 hj
          obtain ⟨oj, hoj⟩ : ∃ oj, ops[j]? = some oj := by
            cases hx : ops[j]? with
            | none => simp [pv, hx] at hd
            | some oj => exact ⟨oj, rfl⟩
          rw [pv_dst hoj] at hd
          cases hs : sees ops i j with
          | false => exact sees_spec ho hoj hs d hd
          | true =>
            have := c.er i hes j hj'.1 hs
            obtain ⟨e, he, hb, hon⟩ := wt_spec this ho
            have := hall e he hb
            rw [hon, getD_both hj'.2] at this; cases this
        have hdst : ∀ p ∈ rsU.map (pv ops val), ∀ d, o.dst = some d → p.1 ≠ some d := by
          intro p hp d hd hpd
          obtain ⟨j, hj, rfl⟩ := List.mem_map.1 hp
          have hj' := (st.rsM j).1 hj
          obtain ⟨oj, hoj⟩ : ∃ oj, ops[j]? = some oj := by
            cases hx : ops[j]? with
            | none => simp [pv, hx] at hpd
            | some oj => exact ⟨oj, rfl⟩
          rw [pv_dst hoj] at hpd
          exact sameDst_spec hoj ho (c.dd j hj'.1 i (by simp [hes]) (fun e => hirs (e ▸ hj'.1))) d hpd hd
        have e1 := execOp_puts (ops := ops) o (fun cs b => c.sel i o cs b ho) a (rsU.map (pv ops val)) hseen
        rw [st.full] at e1
        unfold wpOp
        simp only [ho]
        cases hmk : m - ed.length with
        | zero =>
          -- late: every reader is done
          have hall_r : rsU = [] := by
            have hL : ∃ L, es[m]? = some L ∧ (L = i ∨ listed.getD L false = true) := by
              have hme : m ≤ ed.length := by omega
              rcases Nat.lt_or_ge m ed.length with h | h
              · refine ⟨ed[m], by rw [st.esE, List.getElem?_append_left h]; simp, .inr (st.edL _ (List.getElem_mem h))⟩
              · have : m = ed.length := by omega
                subst this
                exact ⟨i, by rw [st.esE]; simp, .inl rfl⟩
            obtain ⟨L, hLm, hLd⟩ := hL
            obtain ⟨L', hLm', hlate⟩ := c.late
            rw [hLm] at hLm'; cases hLm'
            have hed : ∀ k ∈ es.take m, listed.getD k false = true := by
              intro k hk
              have hk2 : k ∈ ed := by
                rw [st.esE, List.take_append_of_le_length (by omega)] at hk
                exact List.mem_of_mem_take hk
              exact st.edL k hk2
            have hdone : ∀ n j, ops.size - j ≤ n → j ∈ rs → listed.getD j false = true := by
              intro n
              induction n with
              | zero =>
                intro j hj hjr
                obtain ⟨k, hk, hw⟩ := hlate j hjr
                obtain ⟨ok, hok, _⟩ := Region.waitsFor_spec hw
                obtain ⟨e, he, hb, hon⟩ := wt_spec hw hok
                rcases hk with rfl | hke | ⟨hkr, hlt2⟩
                · rcases hLd with rfl | hLd
                  · rw [ho] at hok; cases hok
                    rw [← hon]; exact hall e he hb
                  · rw [← hon]; exact st.closed _ _ hok hLd e he hb
                · rw [← hon]; exact st.closed _ _ hok (hed k hke) e he hb
                · have : k < ops.size := (Array.getElem?_eq_some_iff.1 hok).1
                  omega
              | succ n ihn =>
                intro j hj hjr
                obtain ⟨k, hk, hw⟩ := hlate j hjr
                obtain ⟨ok, hok, _⟩ := Region.waitsFor_spec hw
                obtain ⟨e, he, hb, hon⟩ := wt_spec hw hok
                rcases hk with rfl | hke | ⟨hkr, hlt2⟩
                · rcases hLd with rfl | hLd
                  · rw [ho] at hok; cases hok
                    rw [← hon]; exact hall e he hb
                  · rw [← hon]; exact st.closed _ _ hok hLd e he hb
                · rw [← hon]; exact st.closed _ _ hok (hed k hke) e he hb
                · have h3 := ihn k (by omega) hkr
                  rw [← hon]; exact st.closed _ _ hok h3 e he hb
            rw [List.eq_nil_iff_forall_not_mem]
            intro j hj
            have hj' := (st.rsM j).1 hj
            have := hdone _ j (Nat.le_refl _) hj'.1
            rw [getD_both hj'.2] at this; cases this
          have hF := st.full
          rw [hall_r] at hF
          simp only [List.map_nil, puts] at hF
          subst hF
          rw [hmk, wpE_cons_zero] at hrest
          simp only [wpList] at hrest
          have mk : ∀ a' w', wpList P ops (QL P ops ls Q) (opsAt ops et') a' w' → wpAny P .any ops Q fuel (listed.setIfInBounds i true) a' w' := by
            intro a' w' h
            refine ih _ _ _ [] (ed ++ [i]) et' a' ⟨by simp [st.size], clos', hes3, edL', etU', ?_, List.nodup_nil, lsU', ?_, rfl, fun h => absurd rfl h, fun h => absurd rfl h, ?_⟩
            · rw [← hall_r]; exact rsM'
            · rw [fuelE', hall_r]
            · rw [List.length_append, show m - (ed.length + [i].length) = 0 by simp; omega]; exact h
          split
          · rename_i hw
            rw [if_pos hw] at hrest
            rcases hrest with h | h
            · exact .inl (Oper.wp_mono mk (wp_QL h))
            · exact .inr ⟨h.1, lets_QL h.2⟩
          · rename_i hw
            rw [if_neg hw] at hrest
            exact mk _ _ hrest
        | succ k =>
          rw [hmk] at hrest
          simp only [wpE] at hrest
          have hkk : m - (ed ++ [i]).length = k := by simp only [List.length_append, List.length_cons, List.length_nil]; omega
          have mk : ∀ (aF' : Act) (a' : Act) w', puts a' (rsU.map (pv ops val)) = aF' → (rsU ≠ [] → ∀ j ∈ rs, ∀ oj, ops[j]? = some oj → execOp aF'.eval oj = execOp aR.eval oj ∧ Region.wanted oj (yielded ops aF'.tmps) = Region.wanted oj (yielded ops aR.tmps)) → C w' → wpE P ops C (QL P ops ls Q) k (opsAt ops et') aF' w' → wpAny P .any ops Q fuel (listed.setIfInBounds i true) a' w' := by
            intro aF' a' w' hp hs hc hr
            exact ih _ _ _ rsU (ed ++ [i]) et' aF' ⟨by simp [st.size], clos', hes3, edL', etU', rsM', st.rsN, lsU', fuelE', hp, hs, fun _ => hc, by rw [hkk]; exact hr⟩
          have sameP : ∀ (x : Act) (v : Value), (rsU ≠ [] → ∀ j ∈ rs, ∀ oj, ops[j]? = some oj → execOp x.eval oj = execOp aR.eval oj ∧ Region.wanted oj (yielded ops x.tmps) = Region.wanted oj (yielded ops aR.tmps)) →
              (rsU ≠ [] → ∀ j ∈ rs, ∀ oj, ops[j]? = some oj → execOp (x.put o.dst v).eval oj = execOp aR.eval oj ∧ Region.wanted oj (yielded ops (x.put o.dst v).tmps) = Region.wanted oj (yielded ops aR.tmps)) := by
            intro x v hx hne j hj oj hoj
            have h1 := sees_spec hoj ho (c.re j hj i hes)
            have h2 := execOp_put (ops := ops) oj (fun cs b => c.sel j oj cs b hoj) x o.dst v h1
            have h3 := wanted_put (ops := ops) oj x o.dst v h1
            have h4 := hx hne j hj oj hoj
            exact ⟨h2.trans h4.1, h3.trans h4.2⟩
          have sameF := st.same
          by_cases hw : Region.wanted o (yielded ops aF.tmps) = true
          · rw [if_pos hw] at hrest
            rw [if_pos (by rw [← e1.2]; exact hw)]
            left
            have hg := wp_good (G := fun x => rsU ≠ [] → ∀ j ∈ rs, ∀ oj, ops[j]? = some oj → execOp x.eval oj = execOp aR.eval oj ∧ Region.wanted oj (yielded ops x.tmps) = Region.wanted oj (yielded ops aR.tmps)) (wp_QL hrest) (fun v => sameP aF v sameF)
              (fun d v => sameP _ v (fun hne j hj oj hoj => by
                have h4 := sameF hne j hj oj hoj
                exact ⟨by rw [← h4.1]; rfl, h4.2⟩))
            exact wp_transfer st.full hdst e1.1.symm hQ (fun a' w' hK => mk _ a' w' rfl hK.2 hK.1.1 hK.1.2) hg
          · rw [if_neg hw] at hrest
            rw [if_neg (by rw [← e1.2]; exact hw)]
            exact mk _ _ _ (by rw [puts_put a o.dst undef _ hdst, st.full]) (sameP aF undef sameF) hrest.1 hrest.2
      · -- a late one: all others are done
        exfalso
        obtain ⟨L, hL, hwL⟩ := c.lw i hls
        obtain ⟨e, he, hb, hon⟩ := wt_spec hwL ho
        have hLl := hall e he hb
        rw [hon] at hLl
        have het : et = [] := by
          cases h : et with
          | nil => rfl
          | cons x l =>
            have hLe : L ∈ et := by
              have h2 : es.getLast? = et.getLast? := by rw [st.esE, List.getLast?_append, h]; cases hx : (x :: l).getLast? with
                | none => simp at hx
                | some y => rfl
              rw [h2] at hL
              exact List.mem_of_getLast? hL
            have := st.etU L hLe
            rw [getD_both this] at hLl; cases hLl
        have hrs0 : rsU = [] := by
          obtain ⟨L', hLm, hlate⟩ := c.late
          have hL'd : listed.getD L' false = true := by
            have h2 := List.mem_of_getElem? hLm
            rw [st.esE, het, List.append_nil] at h2
            exact st.edL L' h2
          have hed : ∀ k ∈ es.take m, listed.getD k false = true := by
            intro k hk
            have hk2 := List.mem_of_mem_take hk
            rw [st.esE, het, List.append_nil] at hk2
            exact st.edL k hk2
          have hdone : ∀ n j, ops.size - j ≤ n → j ∈ rs → listed.getD j false = true := by
            intro n
            induction n with
            | zero =>
              intro j hj hjr
              obtain ⟨k, hk, hw⟩ := hlate j hjr
              obtain ⟨ok, hok, _⟩ := Region.waitsFor_spec hw
              obtain ⟨e, he, hb, hon⟩ := wt_spec hw hok
              rcases hk with rfl | hke | ⟨hkr, hlt2⟩
              · rw [← hon]; exact st.closed _ _ hok hL'd e he hb
              · rw [← hon]; exact st.closed _ _ hok (hed k hke) e he hb
              · have : k < ops.size := (Array.getElem?_eq_some_iff.1 hok).1
                omega
            | succ n ihn =>
              intro j hj hjr
              obtain ⟨k, hk, hw⟩ := hlate j hjr
              obtain ⟨ok, hok, _⟩ := Region.waitsFor_spec hw
              obtain ⟨e, he, hb, hon⟩ := wt_spec hw hok
              rcases hk with rfl | hke | ⟨hkr, hlt2⟩
              · rw [← hon]; exact st.closed _ _ hok hL'd e he hb
              · rw [← hon]; exact st.closed _ _ hok (hed k hke) e he hb
              · have h3 := ihn k (by omega) hkr
                rw [← hon]; exact st.closed _ _ hok h3 e he hb
          rw [List.eq_nil_iff_forall_not_mem]
          intro j hj
          have hj' := (st.rsM j).1 hj
          have := hdone _ j (Nat.le_refl _) hj'.1
          rw [getD_both hj'.2] at this; cases this
        exact hfin ⟨hrs0, het⟩

/-- A REGION THAT DRAWS ITS ORDER, with operations that only look at slots behind all others. -/
theorem wp_region_rl {id : Nat} {l : List Oper} {Q : Exit → Act → World → Prop} {a : Act} {w : World} (C : World → Prop) (rs es ls : List Nat) (m : Nat) (lr le : List Oper) (hm : P.follows .mixedOrders = true) (hB : rlB l.toArray rs es ls m = true)
    (hlr : opsAt l.toArray rs = lr) (hle : opsAt l.toArray es = le) (hQ : ∀ c (a : Act) d v w, Q (.panic c) (a.put d v) w → Q (.panic c) a w) (hC : C w.drew)
    (h : wpR P l.toArray C (fun aF => wpE P l.toArray C (QL P l.toArray ls Q) m le aF w.drew) lr a) : (Code.region id l.toArray true).wp P Q a w := by
  have c := chkL_of rs es ls m hB
  have hlt : ∀ i ∈ rs, i < l.toArray.size := fun i hi => c.lt i (by simp [hi])
  subst hlr hle
  have hnd := (List.nodup_append.1 c.nodup).1
  obtain ⟨val, hv, hq⟩ := wpR_vals rs hlt hnd a h
  refine wp_region_any hm ?_
  have hrep : ∀ i, (Array.replicate l.toArray.size false).getD i false = false := fun i => getD_replicate_false _ _
  refine standL_any (val := val) (a0 := a) (aR := puts a (rs.map (pv l.toArray val))) c hQ rfl hv _ _ _ _ rs [] es (puts a (rs.map (pv l.toArray val)))
    ⟨by simp, fun j oj _ hl => (by rw [hrep] at hl; cases hl), rfl, fun i hi => (by cases hi), ?_, ?_, hnd, ?_, ?_, rfl, fun _ i _ o _ => ⟨rfl, rfl⟩, fun _ => hC, hq⟩
  · intro i hi
    exact getD_in (by simpa using c.lt i (by simp [hi])) (hrep i)
  · intro j
    exact ⟨fun hj => ⟨hj, getD_in (by simpa using hlt j hj) (hrep j)⟩, fun h => h.1⟩
  · intro i hi
    exact getD_in (by simpa using c.lt i (by simp [hi])) (hrep i)
  · -- as many as there are
    have hperm : (rs ++ (es ++ ls)).length = l.toArray.size := by
      have h1 : ∀ i, i ∈ rs ++ (es ++ ls) ↔ i ∈ List.range l.toArray.size := by
        intro i
        constructor
        · intro hi
          exact List.mem_range.2 (c.lt i hi)
        · intro hi
          rcases c.cover i (List.mem_range.1 hi) with h | h | h <;> simp [h]
      have := (List.perm_ext_iff_of_nodup c.nodup List.nodup_range).2 h1
      rw [this.length_eq, List.length_range]
    rw [← hperm, List.length_append, List.length_append]; omega

/-- The end of the others: the late ones. -/
theorem wpL_end {Q : Exit → Act → World → Prop} {ls : List Nat} {lr : List Oper} {a : Act} {w : World} (hlr : opsAt ops ls = lr) (h : wpR P ops (fun w' => w' = w) (fun aF => Q .normal aF w) lr a) : QL P ops ls Q .normal a w := by
  subst hlr; exact h
end
end Go.Tw
