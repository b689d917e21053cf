/- Plain laws: a line of one column; two lines of one column. -/
import Derived.Test.YtaagcdlghoiolaaDoorPj
namespace Go.Proofs.YtaagcdlghoiolaaDoor
open Go.RowKit Go.Tw Go.Sort

section
variable {c : Cfg}
/-- No byte that ends a cell. -/
def Wo (a : List UInt8) : Prop := ∀ b ∈ a, brk b = false
theorem cellsT_word (a : List UInt8) : ∀ (pl r : List UInt8), Wo a → cellsT pl (a ++ r) = cellsT (pl ++ a) r := by
  induction a with
  | nil => intro pl r _; simp
  | cons b a ih =>
    intro pl r h
    have hb := h b (by simp)
    rw [List.cons_append, cellsT, if_neg (by rw [hb]; simp), ih _ _ fun x hx => h x (List.mem_cons_of_mem _ hx)]
    simp
theorem cellsT_brk (k : UInt8) (hk : brk k = true) (pl r : List UInt8) : cellsT pl (k :: r) = ⟨pl, rc pl, k⟩ :: cellsT [] r := by rw [cellsT, if_pos hk]
theorem lineO_two (h4 : c.flag 4 = false) (h16 : c.flag 16 = false) (h32 : c.flag 32 = false) (h9 : c.ch ≠ 9) (f : Nat → Nat) (a b : List UInt8) (n : Nat) (k : UInt8) (u : Bool) : lineO c f ⟨[⟨a, n, k⟩], b, u⟩ = a ++ (List.replicate (f 0 - n) c.ch ++ b) := by
  have hb : ∀ i, barB c i = [] := fun i => by unfold barB; rw [if_neg (fun h => by rw [h32] at h; exact absurd h.2 (by simp))]
  unfold lineO
  simp only [cellsO, hb, h16, Bool.false_and, putB, h4, padB_plain h9, Int.toNat_natCast, List.nil_append, List.append_nil, List.append_assoc, Bool.false_eq_true, if_false]
theorem endViews_two (X : List (List SC)) : endViews (X ++ [[⟨[], (rc [] : Nat), 0⟩]]) = X.map view ++ [lineZ] := by
  rw [endViews_append X (by simp)]
  rfl
/-- A line of one column is its cell, padded, and the rest. -/
theorem format_one (h4 : c.flag 4 = false) (h8 : c.flag 8 = false) (h16 : c.flag 16 = false) (h32 : c.flag 32 = false) (h9 : c.ch ≠ 9) {a b : List UInt8} (ha : Wo a) (hb : Wo b) (he : ∀ x ∈ a ++ 9 :: (b ++ [10]), endOf c x = 0) :
    formatO c (a ++ 9 :: (b ++ [10])) = a ++ (List.replicate (max c.mn (rc a + c.pd) - rc a) c.ch ++ (b ++ [10])) := by
  unfold formatO specOut
  rw [cellsGo_plain _ _ he, cellsT_word a _ _ ha, List.nil_append, cellsT_brk 9 rfl, cellsT_word b _ _ hb, List.nil_append, cellsT_brk 10 rfl, cellsT]
  have e : linesGo [] [⟨a, (rc a : Nat), 9⟩, ⟨b, (rc b : Nat), 10⟩, ⟨[], (rc [] : Nat), 0⟩] = [[⟨a, (rc a : Nat), 9⟩, ⟨b, (rc b : Nat), 10⟩]] ++ [[⟨[], (rc [] : Nat), 0⟩]] := rfl
  rw [e, endViews_two]
  have ev : ([[⟨a, (rc a : Nat), 9⟩, ⟨b, (rc b : Nat), 10⟩]] : List (List SC)).map view = [⟨[⟨a, (rc a : Nat), 9⟩], b, false⟩] := rfl
  rw [ev]
  have hW : Wd c ([⟨[⟨a, (rc a : Nat), 9⟩], b, false⟩] ++ [lineZ]) 0 0 = max c.mn (rc a + c.pd) := by
    have hB : blockL ([⟨[⟨a, (rc a : Nat), 9⟩], b, false⟩] ++ [lineZ]) 0 0 = [⟨[⟨a, (rc a : Nat), 9⟩], b, false⟩] := rfl
    unfold Wd cW
    rw [hB, if_neg (by rw [h8]; simp)]
    rfl
  simp only [List.singleton_append, outF, List.length_cons, List.length_nil, Nat.zero_add, lineO_two h4 h16 h32 h9, lineO_Z]
  rw [List.singleton_append] at hW
  rw [hW]
  simp [lineZ]
/-- Two lines of one column are padded to the wider cell. -/
theorem format_two (h4 : c.flag 4 = false) (h8 : c.flag 8 = false) (h16 : c.flag 16 = false) (h32 : c.flag 32 = false) (h9 : c.ch ≠ 9) {a b : List UInt8} (ha : Wo a) (hb : Wo b) (he : ∀ x ∈ a ++ (9 :: 120 :: 10 :: (b ++ [9, 120, 10])), endOf c x = 0) :
    formatO c (a ++ (9 :: 120 :: 10 :: (b ++ [9, 120, 10]))) = (a ++ (List.replicate (max c.mn (max (rc a) (rc b) + c.pd) - rc a) c.ch ++ [120, 10])) ++ (b ++ (List.replicate (max c.mn (max (rc a) (rc b) + c.pd) - rc b) c.ch ++ [120, 10])) := by
  have hx : Wo [120] := by intro y hy; simp at hy; subst hy; rfl
  unfold formatO specOut
  rw [cellsGo_plain _ _ he, cellsT_word a _ _ ha, List.nil_append, cellsT_brk 9 rfl]
  rw [show (120 :: 10 :: (b ++ [9, 120, 10]) : List UInt8) = [120] ++ (10 :: (b ++ [9, 120, 10])) from rfl, cellsT_word [120] _ _ hx, List.nil_append, cellsT_brk 10 rfl, cellsT_word b _ _ hb, List.nil_append, cellsT_brk 9 rfl]
  rw [show ([120, 10] : List UInt8) = [120] ++ [10] from rfl, cellsT_word [120] _ _ hx, List.nil_append, cellsT_brk 10 rfl, cellsT]
  have e : linesGo [] [⟨a, (rc a : Nat), 9⟩, ⟨[120], (rc [120] : Nat), 10⟩, ⟨b, (rc b : Nat), 9⟩, ⟨[120], (rc [120] : Nat), 10⟩, ⟨[], (rc [] : Nat), 0⟩] = [[⟨a, (rc a : Nat), 9⟩, ⟨[120], (rc [120] : Nat), 10⟩], [⟨b, (rc b : Nat), 9⟩, ⟨[120], (rc [120] : Nat), 10⟩]] ++ [[⟨[], (rc [] : Nat), 0⟩]] := rfl
  rw [e, endViews_two]
  have ev : ([[⟨a, (rc a : Nat), 9⟩, ⟨[120], (rc [120] : Nat), 10⟩], [⟨b, (rc b : Nat), 9⟩, ⟨[120], (rc [120] : Nat), 10⟩]] : List (List SC)).map view = [⟨[⟨a, (rc a : Nat), 9⟩], [120], false⟩, ⟨[⟨b, (rc b : Nat), 9⟩], [120], false⟩] := rfl
  rw [ev]
  have hW : ∀ i, i < 2 → Wd c ([⟨[⟨a, (rc a : Nat), 9⟩], [120], false⟩, ⟨[⟨b, (rc b : Nat), 9⟩], [120], false⟩] ++ [lineZ]) i 0 = max c.mn (max (rc a) (rc b) + c.pd) := by
    intro i hi
    have hB : blockL ([⟨[⟨a, (rc a : Nat), 9⟩], [120], false⟩, ⟨[⟨b, (rc b : Nat), 9⟩], [120], false⟩] ++ [lineZ]) i 0 = [⟨[⟨a, (rc a : Nat), 9⟩], [120], false⟩, ⟨[⟨b, (rc b : Nat), 9⟩], [120], false⟩] := by
      match i, hi with
      | 0, _ => rfl
      | 1, _ => rfl
    unfold Wd cW
    rw [hB, if_neg (by rw [h8]; simp)]
    have : cM c 0 (([⟨[⟨a, (rc a : Nat), 9⟩], [120], false⟩, ⟨[⟨b, (rc b : Nat), 9⟩], [120], false⟩] : List Ln).map (·.cells)) = max (max c.mn (rc a + c.pd)) (rc b + c.pd) := rfl
    rw [this]
    omega
  simp only [List.cons_append, List.nil_append] at hW ⊢
  simp only [outF, List.length_cons, List.length_nil, Nat.zero_add, lineO_two h4 h16 h32 h9, lineO_Z, hW 0 (by omega), hW 1 (by omega)]
  simp [lineZ]
end
end Go.Proofs.YtaagcdlghoiolaaDoor
