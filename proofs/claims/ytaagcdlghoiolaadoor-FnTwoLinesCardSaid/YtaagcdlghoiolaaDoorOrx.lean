/- A region that draws its order, in stages: in each the readers first, then the others in any order that the region allows; the next stage waits for the last operation of the one ahead. -/
import Derived.Test.YtaagcdlghoiolaaDoorOrd
namespace Go.Tw

section
variable {P : Program} {ops : Array Oper} {C : World → Prop}

/-- Those that wait for none of the others. -/
def heads (ops : Array Oper) (et : List Nat) : List Nat := et.filter fun i => et.all fun j => !wt ops i j
/-- The others, in any order; each leaves a world of the class; behind them K. -/
def wpX (P : Program) (ops : Array Oper) (C : World → Prop) (Q : Exit → Act → World → Prop) (K : Act → World → Prop) : Nat → List Nat → Act → World → Prop
  | 0, _, a, w => K a w
  | n + 1, et, a, w => ∀ i ∈ heads ops et, ∀ o, ops[i]? = some o →
      if Region.wanted o (yielded ops a.tmps) then o.wp P a w (fun a' w' => C w' ∧ wpX P ops C Q K n (et.erase i) a' w') Q else C w ∧ wpX P ops C Q K n (et.erase i) (a.put o.dst undef) w
def lastOf (l : List Nat) : Nat := l.foldl max 0
/-- What the kernel checks of a stage. -/
def rxB (ops : Array Oper) (rs es S2 : List Nat) : Bool :=
  Region.noSelect ops &&
  decide (rs ++ es ++ S2).Nodup && (rs ++ es ++ S2).all (fun i => decide (i < ops.size)) &&
  (List.range ops.size).all (fun i => match ops[i]? with | some o => o.after.all (fun e => !Region.binds .any e || decide (e.on < i)) | none => true) &&
  decide (rs.Pairwise (· < ·)) &&
  rs.all (fun i => rs.all (fun j => !sees ops i j || (decide (j < i) && wt ops i j)) && es.all (fun e => !sees ops i e)) &&
  es.all (fun e => rs.all (fun j => !sees ops e j || wt ops e j)) &&
  rs.all (fun i => (rs ++ es).all (fun j => decide (i = j) || !sameDst ops i j)) &&
  S2.all (fun i => (lastOf (rs ++ es) :: S2).any (fun j => wt ops i j)) &&
  (rs ++ es).all (fun i => decide (i = lastOf (rs ++ es)) || (rs ++ es).any (fun j => decide (i < j) && wt ops j i))

structure Chx (ops : Array Oper) (rs es S2 : List Nat) (L : Nat) : Prop where
  sel : ∀ (j : Nat) (o : Oper) cs b, ops[j]? = some o → o.op ≠ .select cs b
  nodup : (rs ++ es ++ S2).Nodup
  inb : ∀ i ∈ rs ++ es ++ S2, i < ops.size
  back : ∀ (i : Nat) (o : Oper), ops[i]? = some o → ∀ e ∈ o.after, Region.binds .any e = true → e.on < i
  sorted : rs.Pairwise (· < ·)
  rr : ∀ i ∈ rs, ∀ j ∈ rs, sees ops i j = true → j < i ∧ wt ops i j = true
  re : ∀ i ∈ rs, ∀ e ∈ es, sees ops i e = false
  er : ∀ e ∈ es, ∀ j ∈ rs, sees ops e j = true → wt ops e j = true
  dd : ∀ i ∈ rs, ∀ j ∈ rs ++ es, i ≠ j → sameDst ops i j = false
  s2 : ∀ i ∈ S2, ∃ j, (j = L ∨ j ∈ S2) ∧ wt ops i j = true
  up : ∀ i ∈ rs ++ es, i = L ∨ ∃ j ∈ rs ++ es, i < j ∧ wt ops j i = true

theorem chx_of (rs es S2 : List Nat) (h : rxB ops rs es S2 = true) : Chx ops rs es S2 (lastOf (rs ++ es)) := by
  simp only [rxB, Bool.and_eq_true] at h
  obtain ⟨⟨⟨⟨⟨⟨⟨⟨⟨h1, h3⟩, h4⟩, h5⟩, h6⟩, h7⟩, h8⟩, h9⟩, h10⟩, h11⟩ := h
  refine ⟨Region.noSelect_spec h1, of_decide_eq_true h3, ?_, ?_, of_decide_eq_true h6, ?_, ?_, ?_, ?_, ?_, ?_⟩
  · intro i hi
    exact of_decide_eq_true (List.all_eq_true.1 h4 i hi)
  · intro i o ho e he hb
    have hlt : i < ops.size := (Array.getElem?_eq_some_iff.1 ho).1
    have := List.all_eq_true.1 h5 i (List.mem_range.2 hlt)
    simp only [ho] at this
    have := Array.all_eq_true_iff_forall_mem.1 this e he
    simp only [hb, Bool.not_true, Bool.false_or, decide_eq_true_eq] at this
    exact this
  · intro i hi j hj hs
    have := List.all_eq_true.1 h7 i hi
    simp only [Bool.and_eq_true] at this
    have := List.all_eq_true.1 this.1 j hj
    simpa [hs] using this
  · intro i hi e he
    have := List.all_eq_true.1 h7 i hi
    simp only [Bool.and_eq_true] at this
    have := List.all_eq_true.1 this.2 e he
    simpa using this
  · intro e he j hj hs
    have := List.all_eq_true.1 (List.all_eq_true.1 h8 e he) j hj
    simpa [hs] using this
  · intro i hi j hj hne
    have := List.all_eq_true.1 (List.all_eq_true.1 h9 i hi) j hj
    simpa [hne] using this
  · intro i hi
    have := List.all_eq_true.1 h10 i hi
    obtain ⟨j, hj, h⟩ := List.any_eq_true.1 this
    exact ⟨j, List.mem_cons.1 hj, h⟩
  · intro i hi
    have := List.all_eq_true.1 h11 i hi
    simp only [Bool.or_eq_true, decide_eq_true_eq] at this
    rcases this with h | h
    · exact .inl h
    · obtain ⟨j, hj, h⟩ := List.any_eq_true.1 h
      simp only [Bool.and_eq_true, decide_eq_true_eq] at h
      exact .inr ⟨j, hj, h.1, h.2⟩

def Closed (ops : Array Oper) (listed : Array Bool) : Prop := ∀ (j : Nat) (oj : Oper), ops[j]? = some oj → listed.getD j false = true → ∀ e ∈ oj.after, Region.binds .any e = true → listed.getD e.on false = true

/-- Where the walk stands: 'rsU' the readers still to come, 'et' the others to come, 'aF' the frame with all readers' values. -/
structure StandX (P : Program) (ops : Array Oper) (C : World → Prop) (Q : Exit → Act → World → Prop) (K : Act → World → Prop) (rs es S2 : List Nat) (val : Nat → Value) (aR : Act) (fuel n2 : Nat) (listed : Array Bool) (a : Act) (w : World) (rsU et : List Nat) (aF : Act) : Prop where
  size : listed.size = ops.size
  closed : Closed ops listed
  un : ∀ i, i < ops.size → (listed.getD i true = false ↔ i ∈ rsU ∨ i ∈ et ∨ i ∈ S2)
  rsS : ∀ i ∈ rsU, i ∈ rs
  etS : ∀ i ∈ et, i ∈ es
  rsN : rsU.Nodup
  etN : et.Nodup
  fuelE : fuel = rsU.length + et.length + n2
  full : puts a (rsU.map (pv ops val)) = aF
  same : rsU ≠ [] → ∀ i ∈ rs, ∀ o, ops[i]? = some o → execOp aF.eval o = execOp aR.eval o ∧ Region.wanted o (yielded ops aF.tmps) = Region.wanted o (yielded ops aR.tmps)
  cls : C w
  rest : wpX P ops C Q K et.length et aF w

theorem standx_any {Q : Exit → Act → World → Prop} {K : Act → World → Prop} {rs es S2 : List Nat} {L n2 : Nat} {val : Nat → Value} {a0 aR : Act} (c : Chx ops rs es S2 L) (hne0 : L ∈ rs ++ es)
    (hQ : ∀ c (a : Act) d v w, Q (.panic c) (a.put d v) w → Q (.panic c) a w)
    (hK : ∀ (listed : Array Bool) a w, listed.size = ops.size → Closed ops listed → (∀ i, i < ops.size → (listed.getD i true = false ↔ i ∈ S2)) → K a w → wpAny P .any ops Q n2 listed a w)
    (haR : aR = puts a0 (rs.map (pv ops val)))
    (hval : ∀ l1 i l2 o, rs = l1 ++ i :: l2 → ops[i]? = some o → sAt P ops C o (puts a0 (l1.map (pv ops val))) (val i)) :
    ∀ (fuel : Nat) (listed : Array Bool) (a : Act) (w : World) (rsU et : List Nat) (aF : Act), StandX P ops C Q K rs es S2 val aR fuel n2 listed a w rsU et aF → wpAny P .any ops Q fuel listed a w := by
  intro fuel
  induction fuel with
  | zero =>
    intro listed a w rsU et aF st
    have h0 := st.fuelE
    have hr : rsU = [] := List.length_eq_zero_iff.1 (by omega)
    have he : et = [] := List.length_eq_zero_iff.1 (by omega)
    subst hr he
    obtain rfl : n2 = 0 := by simpa using h0.symm
    have hF := st.full
    simp only [List.map_nil, puts] at hF
    subst hF
    exact hK listed a w st.size st.closed (fun i hi => by rw [st.un i hi]; simp) st.rest
  | succ fuel ih =>
    intro listed a w rsU et aF st
    by_cases hend : rsU = [] ∧ et = []
    · obtain ⟨hr, he⟩ := hend
      subst hr he
      have h0 : fuel + 1 = n2 := by have := st.fuelE; simpa using this
      have hF := st.full
      simp only [List.map_nil, puts] at hF
      subst hF
      rw [h0]
      exact hK listed a w st.size st.closed (fun i hi => by rw [st.un i hi]; simp) st.rest
    have hunl : ∀ i, i < ops.size → listed.getD i false = false → listed.getD i true = false := fun i hi h => getD_in (by rw [st.size]; exact hi) h
    have hsub : ∀ i, i ∈ rsU ∨ i ∈ et → i ∈ rs ++ es := fun i h => by
      rcases h with h | h
      · exact List.mem_append_left _ (st.rsS i h)
      · exact List.mem_append_right _ (st.etS i h)
    have hltU : ∀ i, i ∈ rsU ∨ i ∈ et → i < ops.size := fun i h => c.inb i (List.mem_append_left _ (hsub i h))
    -- the last one is not done
    have hLun : listed.getD L true = false := by
      have key : ∀ n i, ops.size - i ≤ n → i ∈ rs ++ es → listed.getD i true = false → listed.getD L true = false := by
        intro n
        induction n with
        | zero =>
          intro i hi hm _
          have := c.inb i (List.mem_append_left _ hm)
          omega
        | succ n ihn =>
          intro i hi hm hu
          rcases c.up i hm with rfl | ⟨j, hj, hij, hw⟩
          · exact hu
          · have hjlt := c.inb j (List.mem_append_left _ hj)
            refine ihn j (by omega) hj ?_
            obtain ⟨oj, hoj⟩ : ∃ oj, ops[j]? = some oj := ⟨_, Array.getElem?_eq_getElem hjlt⟩
            obtain ⟨e, he, hb, hon⟩ := wt_spec hw hoj
            cases hx : listed.getD j false with
            | false => exact hunl j hjlt hx
            | true =>
              have := st.closed j oj hoj hx e he hb
              rw [hon, getD_both hu] at this; cases this
      have hex : ∃ i, i ∈ rsU ∨ i ∈ et := by
        cases hr : rsU with
        | cons i l => exact ⟨i, .inl (by simp)⟩
        | nil =>
          cases he : et with
          | cons i l => exact ⟨i, .inr (by simp)⟩
          | nil => exact absurd ⟨hr, he⟩ hend
      obtain ⟨i, hi⟩ := hex
      exact key _ i (Nat.le_refl _) (hsub i hi) ((st.un i (hltU i hi)).2 (by rcases hi with h | h; exact .inl h; exact .inr (.inl h)))
    have hLlt : L < ops.size := c.inb L (List.mem_append_left _ hne0)
    refine ⟨?_, ?_⟩
    · -- something is ready
      intro hnil
      exfalso
      have least : ∀ n i, i ≤ n → i < ops.size → listed.getD i true = false → ∃ j, j ∈ Region.ready .any ops listed := by
        intro n
        induction n with
        | zero =>
          intro i hi hlt hun
          obtain ⟨o, ho⟩ : ∃ o, ops[i]? = some o := ⟨_, Array.getElem?_eq_getElem hlt⟩
          exact ⟨i, mem_ready.2 ⟨hun, o, ho, fun e he hb => by have := c.back i o ho e he hb; omega⟩⟩
        | succ n ihn =>
          intro i hi hlt hun
          obtain ⟨o, ho⟩ : ∃ o, ops[i]? = some o := ⟨_, Array.getElem?_eq_getElem hlt⟩
          by_cases hall : ∀ e ∈ o.after, Region.binds .any e = true → listed.getD e.on false = true
          · exact ⟨i, mem_ready.2 ⟨hun, o, ho, hall⟩⟩
          · simp only [Classical.not_forall] at hall
            obtain ⟨e, he, hb, hne⟩ := hall
            have hlt2 := c.back i o ho e he hb
            exact ihn e.on (by omega) (by omega) (hunl _ (by omega) (by simpa using hne))
      obtain ⟨j, hj⟩ := least L L (Nat.le_refl _) hLlt hLun
      rw [hnil] at hj; cases hj
    · intro i hi
      obtain ⟨hun, o, ho, hall⟩ := mem_ready.1 hi
      have hlt : i < ops.size := (Array.getElem?_eq_some_iff.1 ho).1
      have clos' : Closed ops (listed.setIfInBounds i true) := by
        intro j oj hj hl e he hb
        by_cases hij : i = j
        · subst hij
          rw [ho] at hj; cases hj
          exact getD_set_true (hall e he hb)
        · rw [getD_set_ne false hij] at hl
          exact getD_set_true (st.closed j oj hj hl e he hb)
      have setI' : (listed.setIfInBounds i true).getD i true = true := by
        simp [Array.getD_eq_getD_getElem?, st.size, hlt]
      have hnd3 := c.nodup
      rcases (st.un i hlt).1 hun with hiU | hiet | hS2
      · -- a reader
        have hrs := st.rsS i hiU
        have hne : rsU ≠ [] := fun e => by rw [e] at hiU; cases hiU
        have hCw := st.cls
        have hsame := st.same hne i hrs o ho
        have huns : ∀ p ∈ rsU.map (pv ops val), ∀ d, p.1 = some d → d ∉ o.looksAt ops := by
          intro p hp d hd
          obtain ⟨j, hj, rfl⟩ := List.mem_map.1 hp
          obtain ⟨oj, hoj⟩ : ∃ oj, ops[j]? = some oj := by
            cases hx : ops[j]? with
            | none => simp [pv, hx] at hd
            | some oj => exact ⟨oj, rfl⟩
          rw [pv_dst hoj] at hd
          cases hs : sees ops i j with
          | false => exact sees_spec ho hoj hs d hd
          | true =>
            have := c.rr i hrs j (st.rsS j hj) hs
            obtain ⟨e, he, hb, hon⟩ := wt_spec this.2 ho
            have := hall e he hb
            rw [hon, getD_both ((st.un j (hltU j (.inl hj))).2 (.inl hj))] at this; cases this
        obtain ⟨l1, l2, hsplit⟩ := List.append_of_mem hrs
        have hlater : ∀ p ∈ (i :: l2).map (pv ops val), ∀ d, p.1 = some d → d ∉ o.looksAt ops := by
          intro p hp d hd
          obtain ⟨j, hj, rfl⟩ := List.mem_map.1 hp
          obtain ⟨oj, hoj⟩ : ∃ oj, ops[j]? = some oj := by
            cases hx : ops[j]? with
            | none => simp [pv, hx] at hd
            | some oj => exact ⟨oj, rfl⟩
          rw [pv_dst hoj] at hd
          have hjr : j ∈ rs := by rw [hsplit]; exact List.mem_append_right _ hj
          have hij : i ≤ j := by
            rcases List.mem_cons.1 hj with e | e
            · omega
            · have hp2 := c.sorted
              rw [hsplit] at hp2
              have := (List.pairwise_append.1 hp2).2.1
              exact Nat.le_of_lt ((List.pairwise_cons.1 this).1 j e)
          cases hs : sees ops i j with
          | false => exact sees_spec ho hoj hs d hd
          | true => have := (c.rr i hrs j hjr hs).1; omega
        have e1 := execOp_puts (ops := ops) o (fun cs b => c.sel i o cs b ho) a (rsU.map (pv ops val)) huns
        rw [st.full] at e1
        have e2 := execOp_puts (ops := ops) o (fun cs b => c.sel i o cs b ho) (puts a0 (l1.map (pv ops val))) ((i :: l2).map (pv ops val)) hlater
        rw [← puts_append, ← List.map_append, ← hsplit, ← haR] at e2
        have hs := hval l1 i l2 o hsplit ho
        have hs' : sAt P ops C o a (val i) := by
          unfold sAt at hs ⊢
          rw [← e1.1, ← e1.2, hsame.1, hsame.2, e2.1, e2.2]
          exact hs
        obtain ⟨u1, u2, hU⟩ := List.append_of_mem hiU
        have hnd := st.rsN
        rw [hU] at hnd
        have hi12 : i ∉ u1 ∧ i ∉ u2 := by
          have := List.nodup_append.1 hnd
          refine ⟨fun h => this.2.2 i h i (by simp) rfl, (List.nodup_cons.1 this.2.1).1⟩
        have hdst : ∀ p ∈ u1.map (pv ops val), ∀ d, o.dst = some d → p.1 ≠ some d := by
          intro p hp d hd hpd
          obtain ⟨j, hj, rfl⟩ := List.mem_map.1 hp
          obtain ⟨oj, hoj⟩ : ∃ oj, ops[j]? = some oj := by
            cases hx : ops[j]? with
            | none => simp [pv, hx] at hpd
            | some oj => exact ⟨oj, rfl⟩
          rw [pv_dst hoj] at hpd
          have hjr : j ∈ rs := st.rsS j (by rw [hU]; simp [hj])
          have hji : i ≠ j := fun e => hi12.1 (e ▸ hj)
          exact sameDst_spec ho hoj (c.dd i hrs j (by simp [hjr]) hji) d hd hpd
        have hfull : puts (a.put o.dst (val i)) ((u1 ++ u2).map (pv ops val)) = aF := by
          rw [List.map_append, puts_append, puts_put a o.dst (val i) _ hdst, ← st.full, hU, List.map_append, puts_append, List.map_cons, puts, pv_dst ho]
        have hmem : ∀ j, j ∈ u1 ++ u2 ↔ j ∈ rsU ∧ j ≠ i := by
          intro j
          rw [hU]
          simp only [List.mem_append, List.mem_cons]
          constructor
          · rintro (h | h)
            · exact ⟨.inl h, fun e => hi12.1 (e ▸ h)⟩
            · exact ⟨.inr (.inr h), fun e => hi12.2 (e ▸ h)⟩
          · rintro ⟨h | h | h, hn⟩
            · exact .inl h
            · exact absurd h hn
            · exact .inr h
        have hwp : ∀ (K : Act → World → Prop), K (a.put o.dst (val i)) w → wpOp P ops Q i K a w := by
          intro K hK
          unfold wpOp
          simp only [ho]
          rcases hs' with ⟨hw, hv⟩ | ⟨hw, hv⟩
          · rw [if_pos hw]
            left
            have := hv w hCw
            unfold Oper.wp
            generalize (execOp a.eval o).run P w = r at *
            cases r with
            | ok n w' =>
              cases n <;> simp only [sUpon] at this <;> simp only [Oper.upon]
              case value u => rw [this.1, this.2]; exact hK
              case skip => rw [this.1, ← this.2]; exact hK
            | halt x w' => simp only [sUpon] at this
          · rw [if_neg (by rw [hw]; simp), ← hv]; exact hK
        have hiet : i ∉ et ∧ i ∉ S2 := by
          have h1 := List.nodup_append.1 hnd3
          have h2 := List.nodup_append.1 h1.1
          exact ⟨fun h => h2.2.2 i hrs i (st.etS i h) rfl, fun h => h1.2.2 i (List.mem_append_left _ hrs) i h rfl⟩
        refine hwp _ (ih _ _ _ (u1 ++ u2) et aF ⟨by simp [st.size], clos', ?_, fun j hj => st.rsS j ((hmem j).1 hj).1, st.etS, ?_, st.etN, ?_, hfull, ?_, hCw, st.rest⟩)
        · intro j hj
          by_cases hij : j = i
          · subst hij
            rw [setI']
            constructor
            · intro h; cases h
            · rintro (h | h | h)
              · exact absurd rfl ((hmem j).1 h).2
              · exact absurd h hiet.1
              · exact absurd h hiet.2
          · rw [getD_set_ne true (Ne.symm hij), st.un j hj, hmem]
            simp [hij]
        · have := List.nodup_append.1 hnd
          have h2 := (List.nodup_cons.1 this.2.1)
          exact List.nodup_append.2 ⟨this.1, h2.2, fun x hx y hy => this.2.2 x hx y (by simp [hy])⟩
        · have := st.fuelE
          rw [hU] at this
          simp only [List.length_append, List.length_cons] at this ⊢
          omega
        · intro _ j hj oj hoj; exact st.same hne j hj oj hoj
      · -- one of the others
        have hes := st.etS i hiet
        have hirs : i ∉ rs := fun h => (List.nodup_append.1 (List.nodup_append.1 hnd3).1).2.2 i h i hes rfl
        have hiS2 : i ∉ S2 := fun h => (List.nodup_append.1 hnd3).2.2 i (List.mem_append_right _ hes) i h rfl
        have hhead : i ∈ heads ops et := by
          refine List.mem_filter.2 ⟨hiet, ?_⟩
          rw [List.all_eq_true]
          intro j hj
          cases hw : wt ops i j with
          | false => rfl
          | true =>
            obtain ⟨e, he, hb, hon⟩ := wt_spec hw ho
            have := hall e he hb
            rw [hon, getD_both ((st.un j (hltU j (.inr hj))).2 (.inr (.inl hj)))] at this; cases this
        have hlen : et.length = (et.erase i).length + 1 := by
          rw [List.length_erase_of_mem hiet]
          have := List.length_pos_of_mem hiet
          omega
        have hrest := st.rest
        rw [hlen] at hrest
        have hrest2 := hrest i hhead o ho
        have hseen : ∀ p ∈ rsU.map (pv ops val), ∀ d, p.1 = some d → d ∉ o.looksAt ops := by
          intro p hp d hd
          obtain ⟨j, hj, rfl⟩ := List.mem_map.1 hp
          obtain ⟨oj, hoj⟩ : ∃ oj, ops[j]? = some oj := by
            cases hx : ops[j]? with
            | none => simp [pv, hx] at hd
            | some oj => exact ⟨oj, rfl⟩
          rw [pv_dst hoj] at hd
          cases hs : sees ops i j with
          | false => exact sees_spec ho hoj hs d hd
          | true =>
            have := c.er i hes j (st.rsS j hj) hs
            obtain ⟨e, he, hb, hon⟩ := wt_spec this ho
            have := hall e he hb
            rw [hon, getD_both ((st.un j (hltU j (.inl hj))).2 (.inl hj))] at this; cases this
        have hdst : ∀ p ∈ rsU.map (pv ops val), ∀ d, o.dst = some d → p.1 ≠ some d := by
          intro p hp d hd hpd
          obtain ⟨j, hj, rfl⟩ := List.mem_map.1 hp
          obtain ⟨oj, hoj⟩ : ∃ oj, ops[j]? = some oj := by
            cases hx : ops[j]? with
            | none => simp [pv, hx] at hpd
            | some oj => exact ⟨oj, rfl⟩
          rw [pv_dst hoj] at hpd
          have hjr := st.rsS j hj
          exact sameDst_spec hoj ho (c.dd j hjr i (by simp [hes]) (fun e => hirs (e ▸ hjr))) d hpd hd
        have e1 := execOp_puts (ops := ops) o (fun cs b => c.sel i o cs b ho) a (rsU.map (pv ops val)) hseen
        rw [st.full] at e1
        have mk : ∀ (aF' : Act) (a' : Act) w', puts a' (rsU.map (pv ops val)) = aF' → (rsU ≠ [] → ∀ j ∈ rs, ∀ oj, ops[j]? = some oj → execOp aF'.eval oj = execOp aR.eval oj ∧ Region.wanted oj (yielded ops aF'.tmps) = Region.wanted oj (yielded ops aR.tmps)) → C w' → wpX P ops C Q K (et.erase i).length (et.erase i) aF' w' → wpAny P .any ops Q fuel (listed.setIfInBounds i true) a' w' := by
          intro aF' a' w' hp hs hc hr
          refine ih _ _ _ rsU (et.erase i) aF' ⟨by simp [st.size], clos', ?_, st.rsS, fun j hj => st.etS j (List.mem_of_mem_erase hj), st.rsN, st.etN.erase i, ?_, hp, hs, hc, hr⟩
          · intro j hj
            by_cases hij : j = i
            · subst hij
              rw [setI']
              constructor
              · intro h; cases h
              · rintro (h | h | h)
                · exact absurd (st.rsS j h) hirs
                · exact absurd h (List.Nodup.not_mem_erase st.etN)
                · exact absurd h hiS2
            · rw [getD_set_ne true (Ne.symm hij), st.un j hj, List.mem_erase_of_ne hij]
          · have := st.fuelE
            omega
        have sameP : ∀ (x : Act) (v : Value), (rsU ≠ [] → ∀ j ∈ rs, ∀ oj, ops[j]? = some oj → execOp x.eval oj = execOp aR.eval oj ∧ Region.wanted oj (yielded ops x.tmps) = Region.wanted oj (yielded ops aR.tmps)) →
            (rsU ≠ [] → ∀ j ∈ rs, ∀ oj, ops[j]? = some oj → execOp (x.put o.dst v).eval oj = execOp aR.eval oj ∧ Region.wanted oj (yielded ops (x.put o.dst v).tmps) = Region.wanted oj (yielded ops aR.tmps)) := by
          intro x v hx hne j hj oj hoj
          have h1 := sees_spec hoj ho (c.re j hj i hes)
          have h2 := execOp_put (ops := ops) oj (fun cs b => c.sel j oj cs b hoj) x o.dst v h1
          have h3 := wanted_put (ops := ops) oj x o.dst v h1
          have h4 := hx hne j hj oj hoj
          exact ⟨h2.trans h4.1, h3.trans h4.2⟩
        have sameF := st.same
        unfold wpOp
        simp only [ho]
        by_cases hw : Region.wanted o (yielded ops aF.tmps) = true
        · rw [if_pos hw] at hrest2
          rw [if_pos (by rw [← e1.2]; exact hw)]
          left
          have hg := wp_good (G := fun x => rsU ≠ [] → ∀ j ∈ rs, ∀ oj, ops[j]? = some oj → execOp x.eval oj = execOp aR.eval oj ∧ Region.wanted oj (yielded ops x.tmps) = Region.wanted oj (yielded ops aR.tmps)) hrest2 (fun v => sameP aF v sameF)
            (fun d v => sameP _ v (fun hne j hj oj hoj => by
              have h4 := sameF hne j hj oj hoj
              exact ⟨by rw [← h4.1]; rfl, h4.2⟩))
          exact wp_transfer st.full hdst e1.1.symm hQ (fun a' w' hK => mk _ a' w' rfl hK.2 hK.1.1 hK.1.2) hg
        · rw [if_neg hw] at hrest2
          rw [if_neg (by rw [← e1.2]; exact hw)]
          exact mk _ _ _ (by rw [puts_put a o.dst undef _ hdst, st.full]) (sameP aF undef sameF) hrest2.1 hrest2.2
      · -- one of the next stage: it waits
        exfalso
        obtain ⟨j, hj, hw⟩ := c.s2 i hS2
        obtain ⟨e, he, hb, hon⟩ := wt_spec hw ho
        have h1 := hall e he hb
        have h2 : listed.getD j true = false := by
          rcases hj with rfl | hj
          · exact hLun
          · exact (st.un j (c.inb j (List.mem_append_right _ hj))).2 (.inr (.inr hj))
        rw [hon, getD_both h2] at h1; cases h1

/-- The stages that are to come. -/
def Stg (P : Program) (ops : Array Oper) (Q : Exit → Act → World → Prop) : List (List Nat × List Nat) → Act → World → Prop
  | [], a, w => Q .normal a w
  | s :: more, a, w => ∃ C : World → Prop, C w ∧ wpR P ops C (fun aF => wpX P ops C Q (Stg P ops Q more) s.2.length s.2 aF w) (opsAt ops s.1) a
def restOf (l : List (List Nat × List Nat)) : List Nat := l.flatMap fun s => s.1 ++ s.2
def stagesB (ops : Array Oper) : List (List Nat × List Nat) → Bool
  | [] => true
  | s :: more => rxB ops s.1 s.2 (restOf more) && (s.1 ++ s.2).contains (lastOf (s.1 ++ s.2)) && stagesB ops more
theorem stg_any {Q : Exit → Act → World → Prop} (hQ : ∀ c (a : Act) d v w, Q (.panic c) (a.put d v) w → Q (.panic c) a w) : ∀ (l : List (List Nat × List Nat)), stagesB ops l = true → ∀ (listed : Array Bool) a w, listed.size = ops.size → Closed ops listed → (∀ i, i < ops.size → (listed.getD i true = false ↔ i ∈ restOf l)) → Stg P ops Q l a w → wpAny P .any ops Q (restOf l).length listed a w := by
  intro l
  induction l with
  | nil =>
    intro _ listed a w _ _ hun h
    refine ⟨?_, h⟩
    rw [List.eq_nil_iff_forall_not_mem]
    intro i hi
    obtain ⟨hu, o, ho, _⟩ := mem_ready.1 hi
    have := (hun i (Array.getElem?_eq_some_iff.1 ho).1).1 hu
    simp [restOf] at this
  | cons s more ih =>
    intro hB listed a w hsz hcl hun h
    obtain ⟨rs, es⟩ := s
    simp only [stagesB, Bool.and_eq_true] at hB
    obtain ⟨⟨h1, h2⟩, h3⟩ := hB
    obtain ⟨C, hC, hr⟩ := h
    have c := chx_of rs es (restOf more) h1
    have hne0 : lastOf (rs ++ es) ∈ rs ++ es := by simpa using h2
    have hlt : ∀ i ∈ rs, i < ops.size := fun i hi => c.inb i (by simp [hi])
    have hnd := (List.nodup_append.1 (List.nodup_append.1 c.nodup).1).1
    obtain ⟨val, hv, hq⟩ := wpR_vals rs hlt hnd a hr
    have hl : (restOf ((rs, es) :: more)).length = rs.length + es.length + (restOf more).length := by simp [restOf]; omega
    rw [hl]
    refine standx_any (val := val) (a0 := a) (aR := puts a (rs.map (pv ops val))) c hne0 hQ (fun listed a w s1 s2 s3 hk => ih h3 listed a w s1 s2 s3 hk) rfl hv _ _ _ _ rs es (puts a (rs.map (pv ops val)))
      ⟨hsz, hcl, fun i hi => by rw [hun i hi]; simp [restOf], fun _ h => h, fun _ h => h, hnd, (List.nodup_append.1 (List.nodup_append.1 c.nodup).1).2.1, rfl, rfl, fun _ i _ o _ => ⟨rfl, rfl⟩, hC, hq⟩

/-- A REGION THAT DRAWS ITS ORDER, IN STAGES. -/
theorem wp_region_stages {id : Nat} {l : List Oper} {Q : Exit → Act → World → Prop} {a : Act} {w : World} (stages : List (List Nat × List Nat)) (hm : P.follows .mixedOrders = true) (hB : stagesB l.toArray stages = true) (hcov : (List.range l.toArray.size).all (fun i => (restOf stages).contains i) && decide ((restOf stages).length = l.toArray.size) = true)
    (hQ : ∀ c (a : Act) d v w, Q (.panic c) (a.put d v) w → Q (.panic c) a w) (h : Stg P l.toArray Q stages a w.drew) : (Code.region id l.toArray true).wp P Q a w := by
  simp only [Bool.and_eq_true, decide_eq_true_eq] at hcov
  refine wp_region_any hm ?_
  have hrep : ∀ i, (Array.replicate l.toArray.size false).getD i false = false := fun i => getD_replicate_false _ _
  have := stg_any (P := P) (ops := l.toArray) hQ stages hB (Array.replicate l.toArray.size false) a w.drew (by simp) (fun j oj _ hl => by rw [hrep] at hl; cases hl) (fun i hi => by
    have h1 := List.all_eq_true.1 hcov.1 i (List.mem_range.2 hi)
    exact ⟨fun _ => by simpa using h1, fun _ => getD_in (by simpa using hi) (hrep i)⟩) h
  rw [hcov.2] at this
  exact this

variable {Q : Exit → Act → World → Prop} {K : Act → World → Prop}
theorem wpR_of {rs : List Nat} {lr : List Oper} {Q' : Act → Prop} {a : Act} (h : opsAt ops rs = lr) (h2 : wpR P ops C Q' lr a) : wpR P ops C Q' (opsAt ops rs) a := by rw [h]; exact h2
theorem wpR_stepG {Q' : Act → Prop} {a : Act} {o : Oper} {rest : List Oper} (hg : Region.wanted o (yielded ops a.tmps) = true)
    (h : ∀ K : Act → Prop, (∀ a, wpR P ops C Q' rest a → K a) → ∃ v, (∀ w, C w → sUpon w v ((execOp a.eval o).run P w)) ∧ K (a.put o.dst v)) : wpR P ops C Q' (o :: rest) a := by
  obtain ⟨v, h1, h2⟩ := h _ (fun _ h => h)
  exact ⟨v, .inl ⟨hg, h1⟩, h2⟩
theorem wpR_skip {Q' : Act → Prop} {a : Act} {o : Oper} {rest : List Oper} (hg : Region.wanted o (yielded ops a.tmps) = false) (h : wpR P ops C Q' rest (a.put o.dst undef)) : wpR P ops C Q' (o :: rest) a := ⟨undef, .inr ⟨hg, rfl⟩, h⟩
theorem wpX_one {n : Nat} {et : List Nat} {a : Act} {w : World} (i : Nat) (o : Oper) (hh : heads ops et = [i]) (ho : ops[i]? = some o) (hg : Region.wanted o (yielded ops a.tmps) = true)
    (h : ∀ K' : Act → World → Prop, (∀ a w, C w → wpX P ops C Q K n (et.erase i) a w → K' a w) → o.wp P a w K' Q) : wpX P ops C Q K (n + 1) et a w := by
  intro j hj o' ho'
  rw [hh] at hj
  obtain rfl := List.mem_singleton.1 hj
  rw [ho] at ho'; cases ho'
  rw [if_pos hg]
  exact h _ (fun _ _ h1 h2 => ⟨h1, h2⟩)
theorem wpX_skip {n : Nat} {et : List Nat} {a : Act} {w : World} (i : Nat) (o : Oper) (hh : heads ops et = [i]) (ho : ops[i]? = some o) (hg : Region.wanted o (yielded ops a.tmps) = false) (hC : C w)
    (h : wpX P ops C Q K n (et.erase i) (a.put o.dst undef) w) : wpX P ops C Q K (n + 1) et a w := by
  intro j hj o' ho'
  rw [hh] at hj
  obtain rfl := List.mem_singleton.1 hj
  rw [ho] at ho'; cases ho'
  rw [if_neg (by rw [hg]; simp)]
  exact ⟨hC, h⟩
theorem wpX_two {n : Nat} {et : List Nat} {a : Act} {w : World} (i j : Nat) (o p : Oper) (hh : heads ops et = [i, j]) (ho : ops[i]? = some o) (hp : ops[j]? = some p) (hg : Region.wanted o (yielded ops a.tmps) = true) (hg' : Region.wanted p (yielded ops a.tmps) = true)
    (h : ∀ K' : Act → World → Prop, (∀ a w, C w → wpX P ops C Q K n (et.erase i) a w → K' a w) → o.wp P a w K' Q)
    (h' : ∀ K' : Act → World → Prop, (∀ a w, C w → wpX P ops C Q K n (et.erase j) a w → K' a w) → p.wp P a w K' Q) : wpX P ops C Q K (n + 1) et a w := by
  intro k hk o' ho'
  rw [hh] at hk
  rcases List.mem_cons.1 hk with rfl | hk
  · rw [ho] at ho'; cases ho'
    rw [if_pos hg]
    exact h _ (fun _ _ h1 h2 => ⟨h1, h2⟩)
  · obtain rfl := List.mem_singleton.1 hk
    rw [hp] at ho'; cases ho'
    rw [if_pos hg']
    exact h' _ (fun _ _ h1 h2 => ⟨h1, h2⟩)
theorem stg_nil {a : Act} {w : World} (h : Q .normal a w) : Stg P ops Q [] a w := h
theorem wpX_end {et : List Nat} {a : Act} {w : World} (h : K a w) : wpX P ops C Q K 0 et a w := h
end
end Go.Tw
