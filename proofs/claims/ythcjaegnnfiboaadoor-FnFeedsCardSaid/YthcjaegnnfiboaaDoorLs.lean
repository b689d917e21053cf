/- Walks: spec.Split: the memory of its lines. Walks: spec.Shape, Feeds, Bars. A set-up that came in, its flags within an int; flags that without one are flags were flags. Walks: texts that a law puts together. -/
import Derived.Test.YthcjaegnnfiboaaDoorVe
import Derived.Test.YthcjaegnnfiboaaDoorQe
import Derived.Test.YthcjaegnnfiboaaDoorPj
namespace Go.Proofs.YthcjaegnnfiboaaDoor
open Go.RowKit Go.Tw Go.Sort
set_option maxRecDepth 100000

theorem tame_Tm {s : List UInt8} (h : tame s = true) : Tm s := fun b hb => by
  have := List.all_eq_true.1 h b hb
  simp only [Bool.and_eq_true, bne_iff_ne, ne_eq] at this
  exact ⟨this.1.1, this.1.2, this.2⟩
theorem info_bs : (Tryd.prog.info? 24).map (fun i => (i.zero, i.size, i.bytes)) = some (some (.slice none 0 0), 1, 24) := by kernel_rfl
/-- Values that are texts below TB. -/
def TV (w : World) (TB : Nat) : List Value → List (List UInt8) → Prop
  | vs, [] => vs = []
  | vs, l :: LL => ∃ lv r, vs = lv :: r ∧ Tx w TB lv l ∧ TV w TB r LL
theorem TV.length {w : World} {TB : Nat} : ∀ {LL : List (List UInt8)} {vs : List Value}, TV w TB vs LL → vs.length = LL.length := by
  intro LL
  induction LL with
  | nil => intro vs h; rw [show vs = [] from h]; rfl
  | cons l LL ih =>
    intro vs h
    obtain ⟨lv, r, rfl, h1, h2⟩ := h
    simp [ih h2]
theorem TV.kept {w w' : World} {F : Nat → Prop} {TB : Nat} (t : Tch F w w') (h8 : Spare w TB F 5) : ∀ {LL : List (List UInt8)} {vs : List Value}, TV w TB vs LL → TV w' TB vs LL := by
  intro LL
  induction LL with
  | nil => intro vs h; exact h
  | cons l LL ih =>
    intro vs h
    obtain ⟨lv, r, rfl, h1, h2⟩ := h
    exact ⟨lv, r, rfl, h1.kept t h8, ih h2⟩
theorem TV.mono {w : World} {TB TB' : Nat} (hT : TB ≤ TB') : ∀ {LL : List (List UInt8)} {vs : List Value}, TV w TB vs LL → TV w TB' vs LL := by
  intro LL
  induction LL with
  | nil => intro vs h; exact h
  | cons l LL ih =>
    intro vs h
    obtain ⟨lv, r, rfl, h1, h2⟩ := h
    exact ⟨lv, r, rfl, h1.mono hT, ih h2⟩
theorem TV.append {w : World} {TB : Nat} : ∀ {LL MM : List (List UInt8)} {vs us : List Value}, TV w TB vs LL → TV w TB us MM → TV w TB (vs ++ us) (LL ++ MM) := by
  intro LL
  induction LL with
  | nil => intro MM vs us h hm; rw [show vs = [] from h]; exact hm
  | cons l LL ih =>
    intro MM vs us h hm
    obtain ⟨lv, r, rfl, h1, h2⟩ := h
    exact ⟨lv, r ++ us, rfl, h1, ih h2 hm⟩
theorem TV.get {w : World} {TB : Nat} : ∀ {LL : List (List UInt8)} {vs : List Value}, TV w TB vs LL → ∀ j (h : j < LL.length), ∃ lv, vs[j]? = some lv ∧ Tx w TB lv LL[j] := by
  intro LL
  induction LL with
  | nil => intro vs _ j h; simp at h
  | cons l LL ih =>
    intro vs h j hj
    obtain ⟨lv, r, rfl, h1, h2⟩ := h
    cases j with
    | zero => exact ⟨lv, rfl, h1⟩
    | succ j =>
      simp only [List.length_cons] at hj
      obtain ⟨lv', a, b⟩ := ih h2 j (by omega)
      exact ⟨lv', a, b⟩
/-- A row of texts of one's own that ends in a text that grows. -/
structure Sl (F : Nat → Prop) (w : World) (TB : Nat) (v : Value) (done : List (List UInt8)) (cur : List UInt8) : Prop where
  val : ∃ vs ul, Own F w 24 1 v (done.length + 1) (vs ++ [ul]) ∧ TV w TB vs done ∧ Own (fun k => F k ∧ TB ≤ k) w 5 1 ul cur.length (bvs cur)
/-- A slice of texts, each read. -/
structure Ts (w : World) (v : Value) (bss : List (List UInt8)) : Prop where
  val : ∃ ao cp, v = .slice ao bss.length cp ∧ bss.length ≤ 9223372036854775807 ∧ ∀ j (h : j < bss.length), ∃ ad u, ao = some ad ∧ ad.spot = none ∧ w.cell? ⟨ad.block, ad.off + j, none⟩ = some u ∧ Rd w u bss[j]
theorem Ts.below {w w' : World} {v : Value} {bss : List (List UInt8)} (h : Ts w v bss) (t : Below w.heap.size w w') : Ts w' v bss := by
  obtain ⟨ao, cp, rfl, h1, h2⟩ := h.val
  refine ⟨ao, cp, rfl, h1, fun j hj => ?_⟩
  obtain ⟨ad, u, e, hs, hc, hr⟩ := h2 j hj
  exact ⟨ad, u, e, hs, (t.cell (p := ⟨ad.block, ad.off + j, none⟩) (block_lt_of_cell hc)).trans hc, hr.below t⟩
section
variable {F : Nat → Prop} {w : World} {TB : Nat} {v : Value} {done : List (List UInt8)} {cur : List UInt8}
theorem Sl.shape (h : Sl F w TB v done cur) : ∃ g cap, v = .slice (some ⟨g, 0, none⟩) (done.length + 1) cap ∧ done.length + 1 ≤ cap ∧ cap ≤ maxLen := by
  obtain ⟨vs, ul, ho, _⟩ := h.val
  rcases ho.row.2 with ⟨_, hn⟩ | ⟨g, cap, cur', rfl, _, hg, hcp, hm, hs, ht⟩
  · omega
  · exact ⟨g, cap, rfl, hcp, hm⟩
theorem Sl.last {g cap : Nat} (h : Sl F w TB (.slice (some ⟨g, 0, none⟩) (done.length + 1) cap) done cur) : ∃ ul, w.cell? ⟨g, done.length, none⟩ = some ul ∧ w.frozen? ⟨g, done.length, none⟩ = false ∧ F g ∧
    (∃ ao cp, ul = .slice ao cur.length cp) ∧
    ∀ (b : UInt8), (∀ k, w.heap.size ≤ k → F k) → TB ≤ w.heap.size → cur.length ≤ 1000000000000 → ∀ ty, ∃ u' w', (Builtin.append_ #[24, 24] ty #[ul, .slice (some ⟨w.heap.size, 0, none⟩) 1 1]).run Tryd.prog (w.alloc (.cells #[.int .u8 b.toNat] 5)) = .ok u' w' ∧
      Sl F (w'.setCell ⟨g, done.length, none⟩ u') TB (.slice (some ⟨g, 0, none⟩) (done.length + 1) cap) done (cur ++ [b]) ∧ Tch F w (w'.setCell ⟨g, done.length, none⟩ u') ∧ w'.frozen? ⟨g, done.length, none⟩ = false ∧ (∃ x, w'.cell? ⟨g, done.length, none⟩ = some x) ∧ (∃ ao cp, u' = .slice ao (cur.length + 1) cp) := by
  obtain ⟨vs, ul, ho, htv, hu⟩ := h.val
  have hlen := htv.length
  have hF : F g := ho.mem g rfl
  rcases ho.row.2 with ⟨e, _⟩ | ⟨g', cap', cs, e, _, hg, hcp, hm, hs, ht⟩
  · cases e
  simp only [Value.slice.injEq, Option.some.injEq, Addr.mk.injEq] at e
  obtain ⟨⟨rfl, _⟩, _, rfl⟩ := e
  have hul : cs[done.length]? = some ul := by
    have h2 : (vs ++ [ul])[done.length]? = some ul := by rw [← hlen]; simp
    rw [← ht, List.getElem?_take] at h2
    split at h2
    · simpa using h2
    · cases h2
  refine ⟨ul, by simp only [World.cell?, hg]; exact hul, by simp [World.frozen?, hg], hF, hu.shape, ?_⟩
  intro b hFk hTB hl ty
  obtain ⟨u', w', hr, ho2, -, hgr, -⟩ := run_append_one (F := fun k => F k ∧ TB ≤ k) (fun k hk => ⟨hFk k hk, by omega⟩) hu b (by omega) ty
  have hkg : Kind w g 24 := ⟨cs, (0, 0), hg⟩
  have hne : ul.ownBlock ≠ some g := by
    intro e
    obtain ⟨cur2, hc2⟩ := hu.block e
    exact absurd (hkg.ne ⟨cur2, _, hc2⟩) (by decide)
  have t1 : Tch (fun k => ul.ownBlock = some k) w w' := (Tch.alloc _ w _).trans (Tch.grown hgr (fun k e => e))
  have hg' : w'.heap[g]? = some (.cells cs 24 (0, 0)) := t1.heap hg hne
  have ho' := ho.kept t1 (fun k e e2 => by
    have : k = g := by simpa [Value.ownBlock] using e.symm
    subst this; exact hne e2)
  have htv' := htv.kept t1 (fun k hk _ e => by have := (hu.mem k e).2; omega)
  have hne' : u'.ownBlock ≠ some g := by
    intro e
    obtain ⟨cur2, hc2⟩ := ho2.block e
    rw [hg'] at hc2
    simp at hc2
  obtain ⟨ao', cp', hsh⟩ := ho2.shape
  have t2 : Tch (fun k => k = g) w' (w'.setCell ⟨g, done.length, none⟩ u') := Tch.setCell (F := fun k => k = g) (a := ⟨g, done.length, none⟩) w' rfl u'
  refine ⟨u', w', hr, ⟨vs, u', ?_, htv'.kept t2 (fun k _ hk e => ?_), ?_⟩, (t1.mono (fun k e => (hu.mem k e).1)).trans (t2.mono (fun k e => by subst e; exact hF)), by simp [World.frozen?, hg'], ⟨ul, by simp only [World.cell?, hg']; exact hul⟩, ao', cp', hsh⟩
  · -- the row
    refine ⟨⟨by simp [hlen], .inr ⟨g, cap, cs.setIfInBounds done.length u', rfl, Nat.zero_le _, ?_, hcp, hm, by simpa using hs, ?_⟩⟩, fun k hk => ho.mem k hk⟩
    · simp [World.setCell, Array.getElem?_modify, hg']
    · rw [Array.toList_setIfInBounds, List.take_set, ht]
      have e : (vs ++ [ul]).set done.length u' = vs ++ [u'] := by
        rw [List.set_append_right _ _ (by omega), ← hlen, Nat.sub_self]; rfl
      exact e
  · subst e
    exact absurd (hk.ne ⟨cs, _, hg'⟩) (by decide)
  · have h3 := ho2.kept t2 (fun k e e2 => by subst e2; exact hne' e)
    have hl2 : (cur ++ [b]).length = cur.length + 1 := by simp
    rw [hl2, bvs_append]
    exact h3
theorem Sl.newline (hFk : ∀ k, w.heap.size ≤ k → F k) (hTB : TB ≤ w.heap.size) (h : Sl F w TB v done cur) (hl : done.length ≤ 1000000000000) (ty : TypeId) :
    ∃ v' w', (Builtin.append_ #[29, 29] ty #[v, .slice (some ⟨w.heap.size, 0, none⟩) 1 1]).run Tryd.prog (w.alloc (.cells #[.slice none 0 0] 24)) = .ok v' w' ∧ Sl F w' w.heap.size v' (done ++ [cur]) [] ∧ Tch F w w' := by
  obtain ⟨vs, ul, ho, htv, hu⟩ := h.val
  obtain ⟨i0, hi, hz0, hz1, hz2⟩ := info_parts info_bs
  have ta : Tch (fun _ => False) w (w.alloc (.cells #[.slice none 0 0] 24)) := Tch.alloc _ _ _
  have h0 := ho.kept ta (fun _ _ => id)
  obtain ⟨v', w', hr, ho', hg, hblk, _⟩ := run_append_Own (P := Tryd.prog) _ F 29 ty 24 i0 _ 1 24 Tryd.underlying29 hi hz0 hz1 hz2 rfl (by decide) v (done.length + 1) (vs ++ [ul]) h0 ⟨w.heap.size, 0, none⟩ 1 1 [.slice none 0 0] rfl (fun j u hj => by
      match j, hj with
      | 0, hj => simp at hj; subst hj; exact cell_of_blk (heap_alloc_new w _) 0) (by simp [Value.oneCell']) (by unfold maxLen; omega) (by omega) (fun k hk => hFk k (by simp at hk; omega))
  have tg : Tch (fun k => v.ownBlock = some k) (w.alloc (.cells #[.slice none 0 0] 24)) w' := Tch.grown hg (fun k e => e)
  have tt : Tch (fun k => v.ownBlock = some k) w w' := (ta.mono (fun _ h => h.elim)).trans tg
  have h8 : ∀ B, Spare w B (fun k => v.ownBlock = some k) 5 := fun B g _ hk2 e => by
    obtain ⟨cur2, hc2⟩ := ho.block e
    exact absurd ((show Kind w g 24 from ⟨cur2, _, hc2⟩).ne hk2) (by decide)
  have hl2 : (done ++ [cur]).length + 1 = done.length + 1 + 1 := by simp
  refine ⟨v', w', hr, ⟨vs ++ [ul], .slice none 0 0, by rw [hl2]; exact ho', ?_, Own.nil _ _ _ _⟩, tt.mono (fun k e => ho.mem k e)⟩
  exact ((htv.mono hTB).kept tt (h8 _)).append ⟨ul, [], rfl, (Tx.own hu).kept tt (h8 _), rfl⟩
theorem Sl.start (w : World) (hF : F w.heap.size) : Sl F (w.alloc (.cells #[.slice none 0 0] 24)) TB (.slice (some ⟨w.heap.size, 0, none⟩) 1 1) [] [] := by
  refine ⟨[], .slice none 0 0, ⟨⟨rfl, .inr ⟨w.heap.size, 1, #[.slice none 0 0], rfl, Nat.zero_le _, heap_alloc_new w _, Nat.le_refl _, by unfold maxLen; omega, rfl, rfl⟩⟩, fun k hk => by simp [Value.ownBlock] at hk; subst hk; exact hF⟩, rfl, Own.nil _ _ _ _⟩
theorem Sl.ts (h : Sl F w TB v done cur) (hl : done.length ≤ 1000000000000) : Ts w v (done ++ [cur]) := by
  obtain ⟨vs, ul, ho, htv, hu⟩ := h.val
  have htv2 : TV w (max TB w.heap.size) (vs ++ [ul]) (done ++ [cur]) := (htv.mono (Nat.le_max_left _ _)).append ⟨ul, [], rfl, (Tx.own hu).mono (Nat.le_max_right _ _), rfl⟩
  have hl2 : (done ++ [cur]).length = done.length + 1 := by simp
  rcases ho.row.2 with ⟨_, hn⟩ | ⟨g, cap, cs, rfl, _, hg, hcp, hm, hs, ht⟩
  · omega
  · refine ⟨some ⟨g, 0, none⟩, cap, by rw [hl2], by rw [hl2]; omega, fun j hj => ?_⟩
    obtain ⟨lv, a, b⟩ := htv2.get j hj
    refine ⟨⟨g, 0, none⟩, lv, rfl, rfl, ?_, b.rd⟩
    rw [← ht, List.getElem?_take] at a
    split at a
    · simp only [World.cell?, hg, Nat.zero_add]; simpa using a
    · cases a
end

theorem splitG_le : ∀ (s cur : List UInt8), ∀ x ∈ splitG cur s, x.length ≤ cur.length + s.length := by
  intro s
  induction s with
  | nil => intro cur x hx; simp [splitG] at hx; subst hx; simp
  | cons b t ih =>
    intro cur x hx
    rw [splitG] at hx
    split at hx
    · rcases List.mem_cons.1 hx with rfl | hx
      · simp
      · have := ih [] x hx
        simp only [List.length_nil, List.length_cons] at this ⊢
        omega
    · have := ih _ x hx
      simp only [List.length_append, List.length_cons, List.length_nil] at this ⊢
      omega
theorem Wrs.kept1 {w w' : World} {v : Value} {bss : List (List UInt8)} (h : Wrs w v bss) (t : Below w.heap.size w w') : Wrs w' v bss := by
  obtain ⟨ao, cp, rfl, h1, h2⟩ := h.val
  refine ⟨ao, cp, rfl, h1, fun j hj => ?_⟩
  obtain ⟨ad, u, e, hs, hc, hr⟩ := h2 j hj
  exact ⟨ad, u, e, hs, (t.cell (p := ⟨ad.block, ad.off + j, none⟩) (block_lt_of_cell hc)).trans hc, hr.below t⟩
/-- A text of a slice of texts. -/
theorem Ts.at {w : World} {n cp : Nat} {ao : Option Addr} {bss : List (List UInt8)} (h : Ts w (.slice ao n cp) bss) {j : Nat} (hj : j < bss.length) : ∃ k o au cu, ao = some ⟨k, o, none⟩ ∧ w.cell? ⟨k, o + j, none⟩ = some (.slice au bss[j].length cu) ∧ Rd w (.slice au bss[j].length cu) bss[j] := by
  obtain ⟨ao', cp', e, _, h2⟩ := h.val
  simp only [Value.slice.injEq] at e
  obtain ⟨rfl, _, _⟩ := e
  obtain ⟨⟨k, o, sp⟩, u, rfl, hs, hc, hr⟩ := h2 j hj
  simp only at hs
  subst hs
  obtain ⟨au, cu, rfl, _⟩ := hr.val
  exact ⟨k, o, au, cu, rfl, hc, hr⟩
def SplRel (w : World) (s : List UInt8) (t3 t9 : Value) (wr : World) : Prop :=
  ∃ (i : Nat) (done : List (List UInt8)) (cur : List UInt8) (TB : Nat) (v3 : Value), v3 = t3 ∧ i ≤ s.length ∧ t9 = .int .i64 i ∧ done ++ splitG cur (s.drop i) = splitG [] s ∧ TB ≤ wr.heap.size ∧ Sl (New w) wr TB v3 done cur ∧ Tch (New w) w wr ∧ done.length ≤ i ∧ cur.length ≤ i
def SplPost (w : World) (ls : List (List UInt8)) (e : Ending) (w' : World) : Prop := ∃ v, e = .returned v ∧ Ts w' v ls ∧ Below w.heap.size w w'
set_option maxHeartbeats 4000000 in
theorem split_calls (w : World) {v : Value} {s : List UInt8} (h : Rd w v s) (hl : s.length ≤ 200000000000) : Calls Tryd.prog 24 #[v] w (SplPost w (splitG [] s)) := by
  obtain ⟨ao, cp, rfl, h1, h2, h3, h4, h5⟩ := h.val
  unfold maxLen at h2
  have H4 := Lib.hid h4
  have H5 := Lib.hid h5
  have HST := Lib.hid (show SplRel w s (.slice (some ⟨w.heap.size, 0, none⟩) 1 1) (.int .i64 0) (w.alloc (.cells #[.slice none 0 0] 24)) from ⟨0, [], [], w.heap.size, _, rfl, Nat.zero_le _, rfl, by simp, by simp, Sl.start w (Nat.le_refl _), Tch.alloc _ _ _, Nat.le_refl _, Nat.le_refl _⟩)
  clear h h3 h4 h5
  go_enter Tryd.func24, Tryd.ntmps24
  go_wp2_with fail
  go_loopw [3, 9] (fun t3 t9 wr => SplRel w s t3 t9 wr) (fun _ t9 _ => s.length - (intOf t9).toNat)
  case atStart => exact HST.out
  case round =>
    clear HST
    obtain ⟨i, done, cur, TB, v3, rfl, hi, rfl, hgo, hTB, hsl, tt, hd, hc⟩ := hrel
    obtain ⟨g, cap, rfl, hcap, hcap2⟩ := hsl.shape
    unfold maxLen at hcap2
    have HGO := Lib.hid hgo
    have HSL := Lib.hid hsl
    have T := Lib.hid tt
    clear hgo hsl tt
    by_cases hlt : i < s.length
    · obtain ⟨ad, rfl, hce⟩ := H5.out i hlt
      have hsp := H4.out ad rfl
      obtain ⟨k0, o0, sp0⟩ := ad
      simp only at hsp hce
      subst hsp
      have hc2 : wr.cell? ⟨k0, o0 + i, none⟩ = some (.int .u8 s[i].toNat) := T.out.cell hce (by have := block_lt_of_cell hce; unfold New; simpa using this)
      have hdr : s.drop i = s[i] :: s.drop (i + 1) := List.drop_eq_getElem_cons hlt
      clear hce
      generalize s[i] = x at hc2 hdr
      have HDR := Lib.hid hdr
      clear hdr
      by_cases hx : x = 10
      · subst hx
        obtain ⟨v', w', hr, hs2, tt2⟩ := Sl.newline (fun k hk => Nat.le_trans T.out.size hk) hTB HSL.out (by omega) 29
        have HRUN := Lib.hid hr
        have HS2 := Lib.hid hs2
        have T2 := Lib.hid (T.out.trans tt2)
        have HSZ := Lib.hid tt2.size
        clear hr hs2 tt2
        go_wp2_with (at_builtin; refine wpList_append_eq rfl (.tmp 15) (.tmp 16) 29 rfl rfl rfl HRUN.out ?_)
        go_roundw
        case rel =>
          exact ⟨i + 1, done ++ [cur], [], wr.heap.size, _, rfl, by omega, by go_num, by rw [← HGO.out, HDR.out, splitG, if_pos rfl]; simp, HSZ.out, HS2.out, T2.out, by simp; omega, Nat.zero_le _⟩
        case measure => simp [intOf]; omega
      · have hx1 := u8_eq (b := x) (c := 10) (n := 10) rfl
        rw [decide_eq_false hx] at hx1
        obtain ⟨ul, c1, f1, -, ⟨ua, uc, rfl⟩, hap⟩ := HSL.out.last
        obtain ⟨u', w', hr, hs2, tt2, f2, ⟨x2, c2⟩, ⟨ua', uc', rfl⟩⟩ := hap x (fun k hk => Nat.le_trans T.out.size hk) hTB (by omega) 24
        have HX := Lib.hid hx
        have HRUN := Lib.hid hr
        have HS2 := Lib.hid hs2
        have T2 := Lib.hid (T.out.trans tt2)
        have HSZ := Lib.hid tt2.size
        clear hr hs2 tt2 hap hx
        go_wp2_with (at_builtin; refine wpList_append_eq rfl (.tmp 27) (.tmp 29) 24 rfl rfl rfl HRUN.out ?_)
        go_roundw
        case rel =>
          exact ⟨i + 1, done, cur ++ [x], TB, _, rfl, by omega, by go_num, by rw [← HGO.out, HDR.out]; conv => rhs; rw [splitG, if_neg HX.out], Nat.le_trans hTB HSZ.out, HS2.out, T2.out, by omega, by simp; omega⟩
        case measure => simp [intOf]; omega
    · obtain rfl : i = s.length := by omega
      have HTS := Lib.hid (HSL.out.ts (by omega))
      have e : splitG [] s = done ++ [cur] := by rw [← HGO.out, List.drop_length]; rfl
      have HE := Lib.hid e
      clear e
      go_wp2_with fail
      go_ret
      exact ⟨_, rfl, by rw [HE.out]; exact HTS.out, New.below T.out⟩
end Go.Proofs.YthcjaegnnfiboaaDoor

namespace Go.Proofs.YthcjaegnnfiboaaDoor
open Go.RowKit Go.Tw Go.Sort
set_option maxRecDepth 100000

/-- A slice of numbers, each read. -/
structure Ns (w : World) (v : Value) (ns : List Nat) : Prop where
  val : ∃ ao cp, v = .slice ao ns.length cp ∧ ns.length ≤ 9223372036854775807 ∧ ∀ j (h : j < ns.length), ∃ ad, ao = some ad ∧ ad.spot = none ∧ w.cell? ⟨ad.block, ad.off + j, none⟩ = some (.int .i64 (ns[j] : Nat))
theorem Ns.below {w w' : World} {v : Value} {ns : List Nat} (h : Ns w v ns) (t : Below w.heap.size w w') : Ns w' v ns := by
  obtain ⟨ao, cp, rfl, h1, h2⟩ := h.val
  refine ⟨ao, cp, rfl, h1, fun j hj => ?_⟩
  obtain ⟨ad, e, hs, hc⟩ := h2 j hj
  exact ⟨ad, e, hs, (t.cell (p := ⟨ad.block, ad.off + j, none⟩) (block_lt_of_cell hc)).trans hc⟩
def nvs (l : List Nat) : List Value := l.map fun n => .int .i64 (n : Nat)
theorem Own.ns {F : Nat → Prop} {w : World} {v : Value} {n : Nat} {l : List Nat} (h : Own F w 3 1 v n (nvs l)) : Ns w v l := by
  have hl : n = l.length := by have := h.row.1; simpa [nvs] using this.symm
  subst hl
  rcases h.row.2 with ⟨rfl, hn⟩ | ⟨g, cap, cur, rfl, _, hg, hc, hm, hs, ht⟩
  · exact ⟨none, 0, by rw [hn], by omega, fun j hj => by omega⟩
  · unfold maxLen at hm
    refine ⟨some ⟨g, 0, none⟩, cap, rfl, by omega, fun j hj => ⟨_, rfl, rfl, ?_⟩⟩
    simp only [World.cell?, hg, Nat.zero_add]
    have h2 : (nvs l)[j]? = some (.int .i64 (l[j] : Nat)) := by simp [nvs, hj]
    rw [← ht, List.getElem?_take, if_pos (by omega)] at h2
    simpa using h2
/-- One number is appended to an owned row. -/
theorem run_append_num {F : Nat → Prop} {w : World} {v : Value} {n : Nat} {xs : List Value} (hF : ∀ k, w.heap.size ≤ k → F k) (h : Own F w 3 1 v n xs) (b : Nat) (hn : n ≤ 1000000000000) (ty : TypeId) :
    ∃ v' w', (Builtin.append_ #[35, 35] ty #[v, .slice (some ⟨w.heap.size, 0, none⟩) 1 1]).run Tryd.prog (w.alloc (.cells #[.int .i64 b] 3)) = .ok v' w' ∧ Own F w' 3 1 v' (n + 1) (xs ++ [.int .i64 b]) ∧ Tch F w w' := by
  obtain ⟨i0, hi, hz0, hz1, hz2⟩ := info_parts Tryd.info_int
  have h0 := h.kept (Tch.alloc (fun _ => False) w (.cells #[.int .i64 b] 3)) (fun _ _ => id)
  obtain ⟨v', w', hr, ho, hg, hblk, _⟩ := run_append_Own (P := Tryd.prog) (w.alloc (.cells #[.int .i64 b] 3)) F 35 ty 3 i0 (.int .i64 0) 1 8 Tryd.underlying35 hi hz0 hz1 hz2 rfl (by decide) v n xs h0 ⟨w.heap.size, 0, none⟩ 1 1 [.int .i64 b] rfl (fun j u hj => by
      match j, hj with
      | 0, hj => simp at hj; subst hj; exact cell_of_blk (heap_alloc_new w _) 0) (by simp [Value.oneCell']) (by unfold maxLen; omega) (by omega) (fun k hk => hF k (by simp at hk; omega))
  exact ⟨v', w', hr, ho, (Tch.alloc _ w _).trans (Tch.grown hg (fun k e => h.mem k e))⟩
def NsPost (w : World) (ns : List Nat) (e : Ending) (w' : World) : Prop := ∃ v, e = .returned v ∧ Ns w' v ns ∧ Below w.heap.size w w'

def ShRel (w2 : World) (LL : List (List SC)) (t5 t12 : Value) (wr : World) : Prop :=
  ∃ (j : Nat) (v5 : Value), v5 = t5 ∧ j ≤ LL.length ∧ t12 = .int .i64 j ∧ Own (New w2) wr 3 1 v5 j (nvs ((LL.take j).map List.length)) ∧ Tch (New w2) w2 wr
set_option maxHeartbeats 4000000 in
theorem shape_calls (w : World) (m t p f : Nat) (hf : f < 64) (ch : UInt8) {v : Value} {s : List UInt8} (h : Rd w v s) (hl : s.length ≤ 1000000) :
    Calls Tryd.prog 25 #[.agg #[.int .i64 m, .int .i64 t, .int .i64 p, .int .u8 ch.toNat, .int .i64 f], v] w (NsPost w ((linesGo [] (cellsGo (cfgOf m t p f ch) ⟨[], 0, 0⟩ [] s)).map List.length)) := by
  obtain ⟨w1, hw1⟩ : ∃ w1, w1 = w.alloc (.cells #[.int .i64 m, .int .i64 t, .int .i64 p, .int .u8 ch.toNat, .int .i64 f] 23) := ⟨_, rfl⟩
  have hb0 : Below w.heap.size w w1 := hw1 ▸ (Below.refl _ w).alloc (Nat.le_refl _) _
  have hc0 : w1.heap[w.heap.size]? = some (.cells #[.int .i64 m, .int .i64 t, .int .i64 p, .int .u8 ch.toNat, .int .i64 f] 23 (0, 0)) := hw1 ▸ heap_alloc_new w _
  have hLI := lines_calls w1 m t p f hf ch (.inl (h.below hb0)) hl
  have hln := linesGo_len (cellsGo (cfgOf m t p f ch) ⟨[], 0, 0⟩ [] s) []
  have hcl := cellsGo_len (cfgOf m t p f ch) s.length s ⟨[], 0, 0⟩ [] (Nat.le_refl _)
  obtain ⟨LL, hLL⟩ : ∃ LL, LL = linesGo [] (cellsGo (cfgOf m t p f ch) ⟨[], 0, 0⟩ [] s) := ⟨_, rfl⟩
  rw [← hLL] at hLI hln ⊢
  have hlen : LL.length ≤ 2000000 := by omega
  obtain ⟨d0, d1, d2, d3, d4⟩ := conf_at hc0
  have HLI := Lib.hid hLI
  have HB0 := Lib.hid hb0
  rw [hw1] at d0 d1 d2 d3 d4 HLI HB0
  obtain ⟨ao, cp, rfl, -⟩ := h.val
  clear hb0 hc0 hLI hLL hw1 h hln hcl
  go_enter Tryd.func25, Tryd.ntmps25
  go_wp2_with fail
  refine HLI.out.mono ?_
  rintro e w2 ⟨v2, rfl, hlw, hb2⟩
  have HB2 := Lib.hid (HB0.out.trans (hb2.mono HB0.out.size))
  obtain ⟨a2, cp2, rfl, q1, q2, q3, q4⟩ := hlw.lz.val
  have HQ := Lib.hid q4
  have HS := Lib.hid q3
  clear hlw hb2 HLI HB0 q3 q4 d0 d1 d2 d3 d4
  go_wp2_with fail
  go_loopw [5, 12] (fun t5 t12 wr => ShRel w2 LL t5 t12 wr) (fun _ t12 _ => LL.length - (intOf t12).toNat)
  case atStart => exact ⟨0, _, rfl, Nat.zero_le _, rfl, Own.nil _ _ _ _, Tch.refl _ _⟩
  case round =>
    obtain ⟨j, v5, rfl, hj, rfl, hown, tt⟩ := hrel
    obtain ⟨a5, c5, rfl⟩ := hown.shape
    by_cases hlt : j < LL.length
    · obtain ⟨ad, lv, rfl, hc, hce⟩ := HQ.out j hlt
      have hsp := HS.out ad rfl
      obtain ⟨k0, o0, sp0⟩ := ad
      simp only at hsp hc
      subst hsp
      have hc2 : wr.cell? ⟨k0, o0 + j, none⟩ = some lv := tt.cell hc (by have := block_lt_of_cell hc; unfold New; simpa using this)
      have HTK := Lib.hid (show LL.take (j + 1) = LL.take j ++ [LL[j]] from List.take_succ_eq_append_getElem hlt)
      generalize LL[j] = l at hce HTK
      obtain ⟨al, cl, rfl, r1, r2, r3, r4⟩ := hce.val
      unfold maxLen at r2
      obtain ⟨v', w', hr, ho', tt'⟩ := run_append_num (fun k hk => Nat.le_trans tt.size hk) hown l.length (by omega) 35
      have HRUN := Lib.hid hr
      have HO := Lib.hid ho'
      have T := Lib.hid (tt.trans tt')
      clear hr ho' tt' hown tt r3 r4 hc hce
      go_wp2_with (at_builtin; refine wpList_append_eq rfl (.tmp 16) (.tmp 19) 35 rfl rfl rfl HRUN.out ?_)
      go_roundw
      case rel =>
        have R : ShRel w2 LL v' (.int .i64 ((j : Int) + 1)) w' := ⟨j + 1, _, rfl, by omega, by go_num, by rw [HTK.out, List.map_append]; unfold nvs; rw [List.map_append]; exact HO.out, T.out⟩
        first | exact R | ((repeat apply Exists.intro); exact ⟨R, rfl⟩)
      case measure => simp [intOf]; omega
    · obtain rfl : j = LL.length := by omega
      have HO := Lib.hid hown
      have T := Lib.hid tt
      clear hown tt
      go_wp2_with fail
      go_ret
      refine ⟨_, rfl, ?_, HB2.out.trans ((New.below T.out).mono HB2.out.size)⟩
      have := Own.ns HO.out
      rwa [List.take_length] at this

def FdPost (w : World) (l : List SC) (e : Ending) (w' : World) : Prop := ∃ b : Bool, e = .returned (.bool b) ∧ Below w.heap.size w w' ∧ (b = false → ∀ z ∈ l, z.fin ≠ 12)
set_option maxHeartbeats 4000000 in
theorem feeds_calls (w : World) (m t p f : Nat) (hf : f < 64) (ch : UInt8) {v : Value} {s : List UInt8} (h : Rd w v s) (hl : s.length ≤ 1000000) :
    Calls Tryd.prog 18 #[.agg #[.int .i64 m, .int .i64 t, .int .i64 p, .int .u8 ch.toNat, .int .i64 f], v] w (FdPost w (cellsGo (cfgOf m t p f ch) ⟨[], 0, 0⟩ [] s)) := by
  obtain ⟨w1, hw1⟩ : ∃ w1, w1 = w.alloc (.cells #[.int .i64 m, .int .i64 t, .int .i64 p, .int .u8 ch.toNat, .int .i64 f] 23) := ⟨_, rfl⟩
  have hb0 : Below w.heap.size w w1 := hw1 ▸ (Below.refl _ w).alloc (Nat.le_refl _) _
  have hc0 : w1.heap[w.heap.size]? = some (.cells #[.int .i64 m, .int .i64 t, .int .i64 p, .int .u8 ch.toNat, .int .i64 f] 23 (0, 0)) := hw1 ▸ heap_alloc_new w _
  have hCE := cells_calls w1 m t p f hf ch (h.below hb0) hl
  obtain ⟨l, hl0⟩ : ∃ l, l = cellsGo (cfgOf m t p f ch) ⟨[], 0, 0⟩ [] s := ⟨_, rfl⟩
  have hll : l.length ≤ 1000001 := by rw [hl0]; have := cellsGo_len (cfgOf m t p f ch) s.length s ⟨[], 0, 0⟩ [] (Nat.le_refl _); omega
  rw [← hl0] at hCE ⊢
  obtain ⟨d0, d1, d2, d3, d4⟩ := conf_at hc0
  have HCE := Lib.hid hCE
  have HB0 := Lib.hid hb0
  rw [hw1] at d0 d1 d2 d3 d4 HCE HB0
  obtain ⟨ao, cp, rfl, -⟩ := h.val
  clear hb0 hc0 hCE hl0 hw1 h
  go_enter Tryd.func18, Tryd.ntmps18
  go_wp2_with fail
  refine HCE.out.mono ?_
  rintro e w2 ⟨v2, rfl, hcl, hb2⟩
  obtain ⟨a2, cp2, rfl⟩ := hcl.shape
  have HCL := Lib.hid hcl
  have HB2 := Lib.hid (HB0.out.trans (hb2.mono HB0.out.size))
  clear hcl hb2 HCE HB0 d0 d1 d2 d3 d4
  go_wp2_with fail
  go_loopw [11] (fun t11 wr => ∃ j : Nat, j ≤ l.length ∧ t11 = .int .i64 j ∧ (∀ z ∈ l.take j, z.fin ≠ 12) ∧ Tch (New w2) w2 wr) (fun t11 _ => l.length - (intOf t11).toNat)
  case atStart => exact ⟨0, Nat.zero_le _, rfl, fun z hz => by simp at hz, Tch.refl _ _⟩
  case round =>
    obtain ⟨j, hj, rfl, hno, tt⟩ := hrel
    have HNO := Lib.hid hno
    clear hno
    by_cases hlt : j < l.length
    · obtain ⟨g, tv, rfl, c0, c1, c2, htx⟩ := HCL.out.at hlt
      obtain ⟨ta, tn, tc, rfl⟩ := (show ∃ ta tn tc, tv = .slice ta tn tc from by obtain ⟨a, c, e, _⟩ := htx.rd.val; exact ⟨a, _, c, e⟩)
      have HTK := Lib.hid (show l.take (j + 1) = l.take j ++ [l[j]] from List.take_succ_eq_append_getElem hlt)
      generalize l[j] = x at c1 c2 htx HTK
      clear htx
      have k0 : wr.cell? ⟨g, j * 3, none⟩ = some (.slice ta tn tc) := tt.cell c0 (by have := block_lt_of_cell c0; unfold New; simpa using this)
      have k1 : wr.cell? ⟨g, j * 3 + 1, none⟩ = some (.int .i64 x.width) := tt.cell c1 (by have := block_lt_of_cell c1; unfold New; simpa using this)
      have k2 : wr.cell? ⟨g, j * 3 + 2, none⟩ = some (.int .u8 x.fin.toNat) := tt.cell c2 (by have := block_lt_of_cell c2; unfold New; simpa using this)
      have T := Lib.hid (tt.trans (Tch.alloc (New w2) wr (.cells #[.slice ta tn tc, .int .i64 x.width, .int .u8 x.fin.toNat] 45)))
      clear c0 c1 c2 tt
      have e12 := u8_eq (b := x.fin) (c := 12) (n := 12) rfl
      by_cases hx : x.fin = 12
      · rw [decide_eq_true hx] at e12
        clear hx
        go_wp2_with fail
        go_ret
        exact ⟨_, rfl, HB2.out.trans ((New.below T.out).mono HB2.out.size), fun h => by cases h⟩
      · rw [decide_eq_false hx] at e12
        have HX := Lib.hid hx
        clear hx
        go_wp2_with fail
        go_roundw
        case rel =>
          refine ⟨j + 1, by omega, by go_num, fun z hz => ?_, T.out⟩
          rw [HTK.out] at hz
          rcases List.mem_append.1 hz with h | h
          · exact HNO.out z h
          · rw [List.mem_singleton.1 h]; exact HX.out
        case measure => simp [intOf]; omega
    · obtain rfl : j = l.length := by omega
      have T := Lib.hid tt
      clear tt
      go_wp2_with fail
      go_ret
      exact ⟨_, rfl, HB2.out.trans ((New.below T.out).mono HB2.out.size), fun _ z hz => HNO.out z (by rw [List.take_length]; exact hz)⟩
end Go.Proofs.YthcjaegnnfiboaaDoor

namespace Go.Proofs.YthcjaegnnfiboaaDoor
open Go.RowKit Go.Tw Go.Sort
set_option maxRecDepth 100000

theorem cell_int2 {r : Reach} {b0 : Nat} {W : World} {v : Value} (h : Cell.okWide Tryd.prog W r b0 3 v) : ∃ n : Int, v = .int .i64 n ∧ -9223372036854775808 ≤ n ∧ n ≤ 9223372036854775807 := by
  obtain ⟨n, rfl⟩ := cell_int h
  unfold Cell.okWide at h
  rw [Tryd.underlying3] at h
  simp only [Cell.ok, Tryd.underlying3] at h
  have hb : (-9223372036854775808 : Int) ≤ n ∧ n ≤ 9223372036854775807 := h.2
  exact ⟨n, rfl, hb.1, hb.2⟩
/-- A set-up that came in, its flags within an int. -/
theorem open_conf2 {r : Reach} {b0 : Nat} {W : World} {v : Value} (hv : Value.okWide Tryd.prog W r b0 23 v) : ∃ (mn tb pd fl : Int) (ch : UInt8), v = .agg #[.int .i64 mn, .int .i64 tb, .int .i64 pd, .int .u8 ch.toNat, .int .i64 fl] ∧ -9223372036854775808 ≤ fl ∧ fl ≤ 9223372036854775807 := by
  obtain ⟨mn, tb, pd, fl, ch, rfl⟩ := open_conf hv
  refine ⟨mn, tb, pd, fl, ch, rfl, ?_⟩
  unfold Value.okWide at hv
  rw [Tryd.underlying23] at hv
  simp only at hv
  obtain ⟨cs, e, hsz, ts, hts, _, hcell⟩ := hv
  rw [conf_cellTypes] at hts
  simp only [Option.some.injEq] at hts
  subst hts
  cases e
  obtain ⟨u4, e4, k4⟩ := hcell 4 (.int .i64 fl) rfl
  simp at e4
  subst e4
  obtain ⟨n, e, h1, h2⟩ := cell_int2 k4
  cases e
  exact ⟨h1, h2⟩
/-- Flags that without one are flags were flags. -/
theorem fl_nat (fl : Int) (h1 : -9223372036854775808 ≤ fl) (h2 : fl ≤ 9223372036854775807) (k : Int) (hk : k ∈ flagsL) (g : Nat) (hg : g < 64) (h : wfl fl k false = g) : ∃ f : Nat, f < 64 ∧ fl = f := by
  have e : bits BinOp.andNot IntKind.i64 fl k = IntKind.i64.wrap ((BitVec.ofInt 64 fl &&& ~~~ BitVec.ofInt 64 k).toNat : Int) := rfl
  have hw : bits BinOp.andNot IntKind.i64 fl k = (g : Int) := h
  have hn := (BitVec.ofInt 64 fl &&& ~~~ BitVec.ofInt 64 k).isLt
  have hv : (BitVec.ofInt 64 fl &&& ~~~ BitVec.ofInt 64 k).toNat = g := by
    rw [e, wrap64_eq'] at hw
    split at hw <;> omega
  have hk6 : ∀ i, 6 ≤ i → i < 64 → (BitVec.ofInt 64 k).getLsbD i = false := by
    have : ∀ k ∈ flagsL, ∀ i : Fin 64, 6 ≤ i.val → (BitVec.ofInt 64 k).getLsbD i.val = false := by decide +kernel
    exact fun i a b => this k hk ⟨i, b⟩ a
  have hx : (BitVec.ofInt 64 fl).toNat < 2 ^ 6 := by
    refine Nat.lt_pow_two_of_testBit _ (fun i hi => ?_)
    rw [BitVec.testBit_toNat]
    by_cases h64 : i < 64
    · have hb : (BitVec.ofInt 64 fl &&& ~~~ BitVec.ofInt 64 k).getLsbD i = false := by
        rw [← BitVec.testBit_toNat, hv]
        exact Nat.testBit_lt_two_pow (Nat.lt_of_lt_of_le hg (Nat.pow_le_pow_right (n := 2) (by omega) hi))
      rw [BitVec.getLsbD_and, BitVec.getLsbD_not, hk6 i hi h64] at hb
      simpa [h64] using hb
    · exact BitVec.getLsbD_of_ge _ _ (by omega)
  rw [BitVec.toNat_ofInt] at hx
  refine ⟨fl.toNat, ?_, ?_⟩ <;> omega

theorem cells_cfg {c d : Cfg} (h1 : c.flag 1 = d.flag 1) (h2 : c.flag 2 = d.flag 2) (s : List UInt8) : cellsGo c ⟨[], 0, 0⟩ [] s = cellsGo d ⟨[], 0, 0⟩ [] s := by
  have he : ∀ b : UInt8, endOf c b = endOf d b := fun b => by unfold endOf; rw [h1]
  exact cells_alike s.length s (Nat.le_refl _) (fun b _ => ⟨he b, fun i w => by unfold passT; rw [h2, he]⟩) _ _
end Go.Proofs.YthcjaegnnfiboaaDoor

namespace Go.Proofs.YthcjaegnnfiboaaDoor
open Go.RowKit Go.Tw Go.Sort
set_option maxRecDepth 100000

section
variable {base wr : World}
theorem bld_copy (t : Tch (New base) base wr) {x : Value} {bs : List UInt8} (h : Rd wr x bs) (hb : bs.length ≤ 1000000000000) (ty : TypeId) :
    ∃ ao cp w', (Builtin.append_ #[24, 24] ty #[.slice (some ⟨wr.heap.size, 0, none⟩) 0 0, x]).run Tryd.prog (wr.alloc (.cells #[] 5)) = .ok (.slice ao bs.length cp) w' ∧ Own (New base) w' 5 1 (.slice ao bs.length cp) bs.length (bvs bs) ∧ Tch (New base) base w' := by
  obtain ⟨g, cap, w', hr, hg, hc1, hc2, ho, hb2⟩ := run_copy wr (.inl h) (by omega) ty
  exact ⟨_, cap, w', hr, ho.mono (fun k _ hk => Nat.le_trans t.size hk), t.trans (Tch.of_below hb2)⟩
theorem bld_one (t : Tch (New base) base wr) {v : Value} {n : Nat} {xs : List UInt8} (h : Own (New base) wr 5 1 v n (bvs xs)) (b : UInt8) (hn : n ≤ 1000000000000) (ty : TypeId) :
    ∃ ao cp w', (Builtin.append_ #[24, 24] ty #[v, .slice (some ⟨wr.heap.size, 0, none⟩) 1 1]).run Tryd.prog (wr.alloc (.cells #[.int .u8 b.toNat] 5)) = .ok (.slice ao (n + 1) cp) w' ∧ Own (New base) w' 5 1 (.slice ao (n + 1) cp) (n + 1) (bvs (xs ++ [b])) ∧ Tch (New base) base w' := by
  obtain ⟨v', w', hr, ho, tt, _⟩ := run_append_one (fun k hk => Nat.le_trans t.size hk) h b (by omega) ty
  obtain ⟨ao, cp, rfl⟩ := ho.shape
  exact ⟨ao, cp, w', hr, by rw [bvs_append]; exact ho, t.trans tt⟩
theorem bld_rd (t : Tch (New base) base wr) {v : Value} {n : Nat} {xs : List UInt8} (h : Own (New base) wr 5 1 v n (bvs xs)) {x : Value} {bs : List UInt8} (hrd : Rd wr x bs) (hb : n + bs.length ≤ 1000000000000) (ty : TypeId) :
    ∃ ao cp w', (Builtin.append_ #[24, 24] ty #[v, x]).run Tryd.prog wr = .ok (.slice ao (n + bs.length) cp) w' ∧ Own (New base) w' 5 1 (.slice ao (n + bs.length) cp) (n + bs.length) (bvs (xs ++ bs)) ∧ Tch (New base) base w' := by
  obtain ⟨v', w', hr, ho, tt, _⟩ := run_append_rd (fun k hk => Nat.le_trans t.size hk) h hrd (by omega) ty
  obtain ⟨ao, cp, rfl⟩ := ho.shape
  exact ⟨ao, cp, w', hr, ho, t.trans (tt.mono (fun k e => h.mem k e))⟩
theorem bld_str (t : Tch (New base) base wr) {v : Value} {n : Nat} {xs : List UInt8} (h : Own (New base) wr 5 1 v n (bvs xs)) (s : ByteArray) (hb : n + s.size ≤ 1000000000000) (ty : TypeId) :
    ∃ ao cp w', (Builtin.append_ #[24, 9] ty #[v, .string s]).run Tryd.prog wr = .ok (.slice ao (n + s.size) cp) w' ∧ Own (New base) w' 5 1 (.slice ao (n + s.size) cp) (n + s.size) (bvs (xs ++ s.data.toList)) ∧ Tch (New base) base w' := by
  obtain ⟨i0, hi, hz0, hz1, hz2⟩ := info_parts Tryd.info_u8
  have hrow : wr.ownsRow base.heap.size 5 1 v n (bvs xs) := by
    refine ⟨h.row.1, ?_⟩
    rcases h.row.2 with h1 | ⟨g, cap, cur, rfl, _, rest⟩
    · exact .inl h1
    · exact .inr ⟨g, cap, cur, rfl, h.mem g rfl, rest⟩
  obtain ⟨v', w', hr, ho, hg, _⟩ := Lib.run_append_own_string (P := Tryd.prog) wr base.heap.size 24 9 ty 5 i0 Tryd.underlying24 Tryd.underlying9 hi hz0 hz1 hz2 v n (bvs xs) hrow s (by simp [maxLen]; omega) (by omega) t.size
  have e : bvs (xs ++ s.data.toList) = bvs xs ++ Lib.strCells s := by rw [bvs_append]; rfl
  have ho2 : Own (New base) w' 5 1 v' (n + s.size) (bvs (xs ++ s.data.toList)) := by
    refine ⟨⟨?_, ?_⟩, ?_⟩
    · rw [e]; exact ho.1
    · rw [e]
      rcases ho.2 with h1 | ⟨g, cap, cur, rfl, _, rest⟩
      · exact .inl h1
      · exact .inr ⟨g, cap, cur, rfl, Nat.zero_le _, rest⟩
    · intro g hg2
      exact (ho.lt g hg2).1
  obtain ⟨ao, cp, rfl⟩ := ho2.shape
  exact ⟨ao, cp, w', hr, ho2, t.trans (Tch.grown hg (fun k e => h.mem k e))⟩
end
end Go.Proofs.YthcjaegnnfiboaaDoor
