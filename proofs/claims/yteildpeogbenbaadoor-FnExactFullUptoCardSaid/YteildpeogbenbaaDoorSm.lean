/- Walks: spec.Open; a line. -/
import Derived.Test.YteildpeogbenbaaDoorSk
import Derived.Test.YteildpeogbenbaaDoorSg
import Derived.Test.YteildpeogbenbaaDoorPz
namespace Go.Proofs.YteildpeogbenbaaDoor
open Go.RowKit Go.Tw Go.Sort
set_option maxRecDepth 100000

set_option maxHeartbeats 2000000 in
theorem open_calls (w : World) (m t p f : Nat) (hf : f < 64) (ch : UInt8) {v : Value} {s : List UInt8} (h : Rw w v s) (hl : s.length ≤ 1000000) :
    Calls Tryd.prog 13 #[.agg #[.int .i64 m, .int .i64 t, .int .i64 p, .int .u8 ch.toNat, .int .i64 f], v] w fun e w' => e = .returned (.bool (opn (cellsGo (cfgOf m t p f ch) ⟨[], 0, 0⟩ [] s))) ∧ Below w.heap.size w w' := by
  obtain ⟨w1, hw1⟩ : ∃ w1, w1 = w.alloc (.cells #[.int .i64 m, .int .i64 t, .int .i64 p, .int .u8 ch.toNat, .int .i64 f] 23) := ⟨_, rfl⟩
  have hb0 : Below w.heap.size w w1 := hw1 ▸ (Below.refl _ w).alloc (Nat.le_refl _) _
  have hc0 : w1.heap[w.heap.size]? = some (.cells #[.int .i64 m, .int .i64 t, .int .i64 p, .int .u8 ch.toNat, .int .i64 f] 23 (0, 0)) := hw1 ▸ heap_alloc_new w _
  have hCE := cells_callsW w1 m t p f hf ch (h.below hb0) hl
  have hne : cellsGo (cfgOf m t p f ch) ⟨[], 0, 0⟩ [] s ≠ [] := by
    obtain ⟨y, l0, e, _⟩ := cellsGo_last (cfgOf m t p f ch) s.length s ⟨[], 0, 0⟩ [] (Nat.le_refl _) rfl
    rw [e]; simp
  obtain ⟨l, hl0⟩ : ∃ l, l = cellsGo (cfgOf m t p f ch) ⟨[], 0, 0⟩ [] s := ⟨_, rfl⟩
  have hll : l.length ≤ 1000001 := by rw [hl0]; have := cellsGo_len (cfgOf m t p f ch) s.length s ⟨[], 0, 0⟩ [] (Nat.le_refl _); omega
  rw [← hl0] at hCE hne ⊢
  obtain ⟨d0, d1, d2, d3, d4⟩ := conf_at hc0
  have HCE := Lib.hid hCE
  have HB0 := Lib.hid hb0
  rw [hw1] at d0 d1 d2 d3 d4 HCE HB0
  obtain ⟨ao, cp, rfl⟩ := h.shape
  clear hb0 hc0 hCE hl0 hw1 h
  obtain ⟨n, hn⟩ : ∃ n, l.length = n + 1 := ⟨l.length - 1, by have := List.length_pos_iff.2 hne; omega⟩
  obtain ⟨o, ho⟩ : ∃ o, o = opn l := ⟨_, rfl⟩
  rw [← ho]
  have HO := Lib.hid ho
  have HNE := Lib.hid hn
  clear hne ho
  go_enter Tryd.func13, Tryd.ntmps13
  go_wp2_with fail
  refine HCE.out.mono ?_
  rintro e w2 ⟨v2, rfl, hcl, hb2⟩
  obtain ⟨a2, cp2, rfl⟩ := hcl.shape
  have HB2 := Lib.hid (HB0.out.trans (hb2.mono HB0.out.size))
  have hHN := HNE.out
  obtain ⟨g, tv, rfl, c0, c1, c2, htx⟩ := hcl.at (j := n) (by omega)
  obtain ⟨ta, tc, rfl, -⟩ := htx.rd.val
  have hlast : l.getLastD default = l[n]'(by omega) := by
    rw [List.getLastD_eq_getLast?, List.getLast?_eq_getElem?, show l.length - 1 = n by omega, List.getElem?_eq_getElem (by omega)]; rfl
  obtain ⟨y, hy⟩ : ∃ y, y = l[n]'(by omega) := ⟨_, rfl⟩
  rw [← hy] at c0 hlast
  by_cases h1 : n = 0
  · subst h1
    have hopn : opn l = false := by unfold opn; rw [hHN]; rfl
    obtain rfl : o = false := HO.out.trans hopn
    rw [hHN]
    clear hcl hb2 HCE HB0 d0 d1 d2 d3 d4 c1 c2 htx hlast hopn hHN hn hy HO
    go_wp2_with fail
    go_ret
    exact ⟨rfl, HB2.out⟩
  · obtain ⟨k, rfl⟩ : ∃ k, n = k + 1 := ⟨n - 1, by omega⟩
    obtain ⟨g', tv2, e', c02, c12, c22, htx2⟩ := hcl.at (j := k) (by omega)
    cases e'
    obtain ⟨tb, tc2, rfl, -⟩ := htx2.rd.val
    obtain ⟨x, hx⟩ : ∃ x, x = l[k]'(by omega) := ⟨_, rfl⟩
    have hopn : opn l = (y.text.isEmpty && x.tabbed) := by
      unfold opn
      rw [hlast, hHN, show k + 1 + 1 - 2 = k by omega, List.getD_eq_getElem?_getD, List.getElem?_eq_getElem (by omega), hx]
      simp
    rw [← hx] at c02 c12 c22
    have HTA := Lib.hid (tabbed_calls w2 (.slice tb x.text.length tc2) x)
    obtain ⟨tb', htb⟩ : ∃ tb', tb' = x.tabbed := ⟨_, rfl⟩
    rw [← htb] at HTA hopn
    have hoe := HO.out.trans hopn
    have hkb : k + 2 ≤ 1000001 := by omega
    rw [hHN]
    obtain ⟨yn, hyn⟩ : ∃ yn, yn = y.text.length := ⟨_, rfl⟩
    have hye : y.text.isEmpty = decide (yn = 0) := by rw [hyn]; cases y.text <;> simp
    rw [← hyn] at c0
    rw [hye] at hoe
    clear hcl hb2 HCE HB0 d0 d1 d2 d3 d4 c1 c2 htx htx2 hlast hopn hHN hn hy hx htb hyn hye HO
    have HOE := Lib.hid hoe
    clear hoe
    by_cases hy0 : yn = 0
    · subst hy0
      go_wp2_with fail
      refine HTA.out.mono ?_
      rintro e w7 ⟨rfl, hb7⟩
      have HB7 := Lib.hid (HB2.out.trans (hb7.mono HB2.out.size))
      clear hb7
      go_wp2_with fail
      go_ret
      exact ⟨by rw [HOE.out]; simp, HB7.out⟩
    · have hyd : ((yn : Int) == 0) = false := by rw [beq_eq_false_iff_ne]; omega
      go_wp2_with fail
      go_ret
      exact ⟨by rw [HOE.out, decide_eq_false hy0]; rfl, HB2.out⟩
end Go.Proofs.YteildpeogbenbaaDoor

namespace Go.Proofs.YteildpeogbenbaaDoor
open Go.RowKit Go.Tw Go.Sort
set_option maxRecDepth 100000

/-- The cells of a line from the j-th of N on, the last one's too. -/
def lnGo (c : Cfg) (f : Nat → Nat) (N : Nat) : Nat → Bool → List SC → List UInt8
  | _, _, [] => []
  | j, ut, x :: xs => barB c j ++ (putB c x.text (if j + 1 < N then padB c x.width.toNat (f j) (ut && x.text.isEmpty) else []) ++ lnGo c f N (j + 1) (ut && x.text.isEmpty) xs)
theorem putB_nil (c : Cfg) (t : List UInt8) : putB c t [] = t := by unfold putB; split <;> simp
theorem lnGo_eq (c : Cfg) (f : Nat → Nat) : ∀ (l : List SC) (j : Nat) (ut : Bool), l ≠ [] → lnGo c f (j + l.length) j ut l = cellsO c f j ut l.dropLast ++ (barB c (j + l.dropLast.length) ++ (l.getLast?.map (·.text)).getD []) := by
  intro l
  induction l with
  | nil => intro j ut h; exact absurd rfl h
  | cons x l ih =>
    intro j ut _
    cases l with
    | nil =>
      simp only [lnGo, List.length_cons, List.length_nil]
      rw [if_neg (by omega), putB_nil]
      simp [cellsO]
    | cons y l =>
      have ed : (x :: y :: l).dropLast = x :: (y :: l).dropLast := rfl
      rw [lnGo, if_pos (by simp only [List.length_cons]; omega), ed, cellsO, List.getLast?_cons_cons]
      have := ih (j + 1) (ut && x.text.isEmpty) (by simp)
      rw [show j + 1 + (y :: l).length = j + (x :: y :: l).length by simp only [List.length_cons]; omega] at this
      rw [this]
      simp only [List.append_assoc]
      rw [show j + 1 + (y :: l).dropLast.length = j + (x :: (y :: l).dropLast).length by rw [List.length_cons]; omega]
theorem lineO_lnGo (c : Cfg) (f : Nat → Nat) {l : List SC} (h : l ≠ []) : lineO c f (view l) = lnGo c f l.length 0 (c.flag 16) l := by
  have := lnGo_eq c f l 0 (c.flag 16) h
  rw [Nat.zero_add] at this
  rw [this, Nat.zero_add]; rfl

/-- Bounds on what a line gives. -/
structure FitT (LL : List (List SC)) : Prop extends Fit LL where
  txt : ∀ l ∈ LL, (texts l).length ≤ 1000000

theorem padB_len (c : Cfg) (tw cl : Nat) (ut : Bool) (ht : c.tb ≤ 1000) : (padB c tw cl ut).length ≤ cl + 2000 := by
  have := padB_le c tw cl ut; omega
theorem cW_le {c : Cfg} {LL : List (List SC)} (hf : Fit LL) (hm : c.mn ≤ 1000) (hp : c.pd ≤ 1000) (M : List Ln) (hM : ∀ ln ∈ M, ∃ l ∈ LL, ln = view l) (i j : Nat) : Wd c M i j ≤ 1001000 := by
  unfold Wd cW
  split
  · omega
  · refine cM_le (by omega) fun x hx => ?_
    obtain ⟨ln, hln, rfl⟩ := List.mem_map.1 hx
    have hmem : ln ∈ M := by
      unfold blockL at hln
      rcases List.mem_append.1 hln with h | h
      · have := List.mem_reverse.1 h
        have := (List.takeWhile_sublist _).subset this
        exact List.mem_of_mem_take (List.mem_reverse.1 this)
      · have hf : ∀ X : List Ln, ∀ y ∈ fwd j X, y ∈ X := by
          intro X
          induction X with
          | nil => intro y hy; simp [fwd] at hy
          | cons z X ih =>
            intro y hy
            rw [fwd] at hy
            split at hy
            · rcases List.mem_cons.1 hy with e | hy
              · simp [e]
              · split at hy
                · simp at hy
                · exact List.mem_cons_of_mem _ (ih y hy)
            · simp at hy
        exact List.mem_of_mem_drop (hf _ _ h)
    obtain ⟨l, hl, rfl⟩ := hM ln hmem
    rw [List.getD_eq_getElem?_getD]
    cases h : (view l).cells[j]? with
    | none => show (0 : Int).toNat + c.pd ≤ _; omega
    | some x =>
      have := hf.wid l hl x (List.dropLast_subset _ (List.mem_of_getElem? h))
      simp only [Option.getD_some]; omega
theorem lnGo_len {c : Cfg} {f : Nat → Nat} (hf : ∀ j, f j ≤ 1001000) (ht : c.tb ≤ 1000) (N : Nat) : ∀ (l : List SC) (j : Nat) (ut : Bool), (lnGo c f N j ut l).length ≤ (texts l).length + l.length * 1004000 := by
  intro l
  induction l with
  | nil => intro j ut; simp [lnGo]
  | cons x l ih =>
    intro j ut
    have h1 := ih (j + 1) (ut && x.text.isEmpty)
    have h2 : (barB c j).length ≤ 1 := by unfold barB; split <;> simp
    have h3 : ∀ p : List UInt8, p.length ≤ 1003000 → (putB c x.text p).length ≤ x.text.length + 1003000 := by
      intro p hp; unfold putB; split <;> simp <;> omega
    have h4 : (if j + 1 < N then padB c x.width.toNat (f j) (ut && x.text.isEmpty) else []).length ≤ 1003000 := by
      split
      · have := padB_len c x.width.toNat (f j) (ut && x.text.isEmpty) ht
        have := hf j
        omega
      · simp
    have h5 := h3 _ h4
    simp only [lnGo, List.length_append, texts_cons, List.length_cons, Nat.add_mul]
    omega

/-- The loop of line. -/
def LnRel (w1 : World) (c : Cfg) (f : Nat → Nat) (l : List SC) (t7 t8 t29 : Value) (wr : World) : Prop :=
  ∃ (j : Nat) (ut : Bool) (n : Nat) (pre : List UInt8), j ≤ l.length ∧ t29 = .int .i64 j ∧ t8 = .bool ut ∧ pre ++ lnGo c f l.length j ut (l.drop j) = lnGo c f l.length 0 (c.flag 16) l ∧ Own (New w1) wr 5 1 t7 n (bvs pre) ∧ n = pre.length ∧ Tch (New w1) w1 wr
end Go.Proofs.YteildpeogbenbaaDoor
