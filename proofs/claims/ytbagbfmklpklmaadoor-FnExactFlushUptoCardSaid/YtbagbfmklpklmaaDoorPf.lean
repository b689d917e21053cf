/- A column's block by its first and last line. -/
import Derived.Test.YtbagbfmklpklmaaDoorPd
namespace Go.Proofs.YtbagbfmklpklmaaDoor
open Go.RowKit Go.Tw Go.Sort

theorem back_eq {M : List Ln} {p : Ln → Bool} {a i : Nat} (ha : a ≤ i) (hi : i ≤ M.length) (h : ∀ k l, M[k]? = some l → a ≤ k → k < i → p l = true) (hs : a = 0 ∨ ∃ l, M[a - 1]? = some l ∧ p l = false) :
    ((M.take i).reverse.takeWhile p).reverse = seg M a i := by
  have e1 : M.take i = M.take a ++ seg M a i := by
    unfold seg
    have := (List.take_append_drop a (M.take i)).symm
    rwa [List.take_take, Nat.min_eq_left ha] at this
  have hall : ∀ x ∈ (seg M a i).reverse, p x = true := by
    intro x hx
    obtain ⟨k, h1, h2, h3⟩ := mem_seg (List.mem_reverse.1 hx)
    exact h k x h3 h1 h2
  rw [e1, List.reverse_append]
  rcases hs with rfl | ⟨l, hl, hp⟩
  · rw [List.take_zero, List.reverse_nil, List.append_nil, tw_all _ hall, List.reverse_reverse]
  · by_cases h0 : a = 0
    · subst h0
      rw [List.take_zero, List.reverse_nil, List.append_nil, tw_all _ hall, List.reverse_reverse]
    · obtain ⟨b, rfl⟩ : ∃ b, a = b + 1 := ⟨a - 1, by omega⟩
      rw [Nat.add_sub_cancel] at hl
      have e2 : M.take (b + 1) = M.take b ++ [l] := by rw [List.take_add_one, hl]; rfl
      rw [e2, List.reverse_append, List.reverse_singleton, List.singleton_append, tw_stop hp, tw_all _ hall, List.reverse_reverse]
theorem fwd_eq {M : List Ln} {j b : Nat} (hb : b < M.length) (hs : (∃ l, M[b]? = some l ∧ l.shut = true) ∨ b + 1 = M.length ∨ ∃ l, M[b + 1]? = some l ∧ l.has j = false) :
    ∀ (n i : Nat), b - i ≤ n → i ≤ b → (∀ k l, M[k]? = some l → i ≤ k → k ≤ b → l.has j = true) → (∀ k l, M[k]? = some l → i ≤ k → k < b → l.shut = false) → fwd j (M.drop i) = seg M i (b + 1) := by
  intro n
  induction n with
  | zero =>
    intro i hn hib h0 h1
    obtain rfl : i = b := by omega
    obtain ⟨l, hl⟩ : ∃ l, M[i]? = some l := ⟨M[i], List.getElem?_eq_getElem hb⟩
    have hd : M.drop i = l :: M.drop (i + 1) := by
      rw [List.drop_eq_getElem_cons hb]
      congr 1
      rw [List.getElem?_eq_getElem hb] at hl
      exact Option.some.inj hl
    rw [seg_one hl, hd, fwd, if_pos (h0 i l hl (Nat.le_refl _) (Nat.le_refl _))]
    congr 1
    split
    · rfl
    · rename_i hns
      rcases hs with ⟨l', hl', hsh⟩ | hs | ⟨l', hl', hh⟩
      · rw [hl] at hl'; cases hl'; exact absurd hsh hns
      · rw [List.drop_eq_nil_of_le (by omega)]; rfl
      · have hlt := (List.getElem?_eq_some_iff.1 hl').1
        have he : M[i + 1] = l' := (List.getElem?_eq_some_iff.1 hl').2
        rw [List.drop_eq_getElem_cons hlt, fwd, he, if_neg (by rw [hh]; simp)]
  | succ n ih =>
    intro i hn hib h0 h1
    by_cases hi : i = b
    · exact (by
        subst hi
        obtain ⟨l, hl⟩ : ∃ l, M[i]? = some l := ⟨M[i], List.getElem?_eq_getElem hb⟩
        have hd : M.drop i = l :: M.drop (i + 1) := by
          rw [List.drop_eq_getElem_cons hb]
          congr 1
          rw [List.getElem?_eq_getElem hb] at hl
          exact Option.some.inj hl
        rw [seg_one hl, hd, fwd, if_pos (h0 i l hl (Nat.le_refl _) (Nat.le_refl _))]
        congr 1
        split
        · rfl
        · rename_i hns
          rcases hs with ⟨l', hl', hsh⟩ | hs | ⟨l', hl', hh⟩
          · rw [hl] at hl'; cases hl'; exact absurd hsh hns
          · rw [List.drop_eq_nil_of_le (by omega)]; rfl
          · have hlt := (List.getElem?_eq_some_iff.1 hl').1
            have he : M[i + 1] = l' := (List.getElem?_eq_some_iff.1 hl').2
            rw [List.drop_eq_getElem_cons hlt, fwd, he, if_neg (by rw [hh]; simp)])
    · have hlt : i < M.length := by omega
      obtain ⟨l, hl⟩ : ∃ l, M[i]? = some l := ⟨M[i], List.getElem?_eq_getElem hlt⟩
      have hd : M.drop i = l :: M.drop (i + 1) := by
        rw [List.drop_eq_getElem_cons hlt]
        congr 1
        rw [List.getElem?_eq_getElem hlt] at hl
        exact Option.some.inj hl
      rw [seg_cons hl (by omega) (by omega), hd, fwd, if_pos (h0 i l hl (Nat.le_refl _) hib), if_neg (by rw [h1 i l hl (Nat.le_refl _) (by omega)]; simp)]
      rw [ih (i + 1) (by omega) (by omega) (fun k l hk h2 h3 => h0 k l hk (by omega) h3) (fun k l hk h2 h3 => h1 k l hk (by omega) h3)]
theorem blockL_eq {M : List Ln} {j i a b : Nat} (ha : a ≤ i) (hib : i ≤ b) (hb : b < M.length) (h0 : ∀ k l, M[k]? = some l → a ≤ k → k ≤ b → l.has j = true) (h1 : ∀ k l, M[k]? = some l → a ≤ k → k < b → l.shut = false)
    (hs : a = 0 ∨ ∃ l, M[a - 1]? = some l ∧ (l.has j && !l.shut) = false) (he : (∃ l, M[b]? = some l ∧ l.shut = true) ∨ b + 1 = M.length ∨ ∃ l, M[b + 1]? = some l ∧ l.has j = false) : blockL M i j = seg M a (b + 1) := by
  unfold blockL
  rw [back_eq ha (by omega) (fun k l hk h2 h3 => by rw [h0 k l hk h2 (by omega), h1 k l hk h2 (by omega)]; rfl) hs,
    fwd_eq hb he (b - i) i (Nat.le_refl _) hib (fun k l hk h2 h3 => h0 k l hk (by omega) h3) (fun k l hk h2 h3 => h1 k l hk (by omega) h3)]
  exact (seg_split (by omega) (by omega) (by omega)).symm

theorem cM_snoc (c : Cfg) (j : Nat) (b : List (List SC)) (l : List SC) : cM c j (b ++ [l]) = max (cM c j b) ((l.getD j default).width.toNat + c.pd) := by simp [cM]
theorem cD_snoc (j : Nat) (b : List (List SC)) (l : List SC) : cD j (b ++ [l]) = (cD j b && ((l.getD j default).width == 0 && (l.getD j default).fin == 11)) := by simp [cD]
end Go.Proofs.YtbagbfmklpklmaaDoor
