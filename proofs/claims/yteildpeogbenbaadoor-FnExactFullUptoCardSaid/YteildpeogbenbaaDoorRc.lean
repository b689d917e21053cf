/- The contract of RuneCount; slices that read as bytes; runes. -/
import Derived.Shelf.Spec.RuneCount
import Derived.Shelf.Spec.NilArms
import Derived.Test.YteildpeogbenbaaDoorRep
namespace Go.Proofs
open Go.Shelf
def YteildpeogbenbaaDoor.lays31_ren : Go.Shelf.Ren := ⟨fun | 31 => 46 | 48 => 52 | n => n, fun | 30 => 26 | 3 => 3 | 4 => 4 | 0 => 0 | 5 => 5 | 9 => 9 | n => n, fun | n => n⟩
theorem YteildpeogbenbaaDoor.lays31 : Go.Proofs.Lays7.n31 Tryd.prog YteildpeogbenbaaDoor.lays31_ren := {
  mixed := by kernel_rfl
  f31 := Tryd.func46.trans (congrArg some (by kernel_rfl))
  f48 := Tryd.func52.trans (congrArg some (by kernel_rfl))
  t0 := Tryd.underlying0
  a0 := Tryd.isAgg0
  z0 := Tryd.sizeOf0
  v0 := Tryd.zeroValue0
  i0 := by kernel_rfl
  t3 := Tryd.underlying3
  a3 := Tryd.isAgg3
  z3 := Tryd.sizeOf3
  v3 := Tryd.zeroValue3
  i3 := by kernel_rfl
  t4 := Tryd.underlying4
  a4 := Tryd.isAgg4
  z4 := Tryd.sizeOf4
  v4 := Tryd.zeroValue4
  i4 := by kernel_rfl
  t5 := Tryd.underlying5
  a5 := Tryd.isAgg5
  z5 := Tryd.sizeOf5
  v5 := Tryd.zeroValue5
  i5 := by kernel_rfl
  t9 := Tryd.underlying9
  a9 := Tryd.isAgg9
  z9 := Tryd.sizeOf9
  v9 := Tryd.zeroValue9
  i9 := by kernel_rfl
  t30 := Tryd.underlying26
  a30 := Tryd.isAgg26
  z30 := Tryd.sizeOf26
  v30 := Tryd.zeroValue26
  i30 := by kernel_rfl }
end Go.Proofs

namespace Go.Proofs.YteildpeogbenbaaDoor
open Go.RowKit Go.Tw

/-- A slice that reads as bytes. -/
structure Rd (w : World) (v : Value) (bs : List UInt8) : Prop where
  val : ∃ ao cp, v = .slice ao bs.length cp ∧ bs.length ≤ cp ∧ cp ≤ maxLen ∧ (ao = none → cp = 0) ∧ (∀ ad, ao = some ad → ad.spot = none) ∧ ∀ j (h : j < bs.length), ∃ ad, ao = some ad ∧ w.cell? ⟨ad.block, ad.off + j, none⟩ = some (bv bs[j])

theorem Rd.mk' {w : World} {k o : Nat} {bs : List UInt8} {cp : Nat} (h1 : bs.length ≤ cp) (h2 : cp ≤ maxLen) (h : ∀ j (h : j < bs.length), w.cell? ⟨k, o + j, none⟩ = some (bv bs[j])) : Rd w (.slice (some ⟨k, o, none⟩) bs.length cp) bs :=
  ⟨_, _, rfl, h1, h2, fun e => (by cases e), fun ad e => (by cases e; rfl), fun j hj => ⟨_, rfl, h j hj⟩⟩
theorem Rd.nil (w : World) : Rd w (.slice none 0 0) [] := ⟨none, 0, rfl, Nat.le_refl _, Nat.zero_le _, fun _ => rfl, fun _ e => (by cases e), fun j h => (by simp at h)⟩
theorem Rd.empty (w : World) (ad : Addr) (hs : ad.spot = none) (cp : Nat) (h : cp ≤ maxLen) : Rd w (.slice (some ad) 0 cp) [] := ⟨_, cp, rfl, Nat.zero_le _, h, fun e => (by cases e), fun _ e => (by cases e; exact hs), fun j h => (by simp at h)⟩
theorem Rd.kept {F : Nat → Prop} {w w' : World} {v : Value} {bs : List UInt8} (h : Rd w v bs) (t : Tch F w w') (hF : bs ≠ [] → ∀ g, v.ownBlock = some g → ¬ F g) : Rd w' v bs := by
  obtain ⟨ao, cp, rfl, h1, h2, h3, h4, h5⟩ := h.val
  refine ⟨ao, cp, rfl, h1, h2, h3, h4, fun j hj => ?_⟩
  obtain ⟨ad, rfl, hc⟩ := h5 j hj
  exact ⟨ad, rfl, t.cell hc (hF (fun e => by subst e; simp at hj) ad.block rfl)⟩
theorem Rd.below {w w' : World} {v : Value} {bs : List UInt8} (h : Rd w v bs) (t : Below w.heap.size w w') : Rd w' v bs :=
  h.kept (Tch.of_below (F := fun _ => False) t) (fun _ _ _ => id)
theorem Rd.le {w : World} {v : Value} {bs : List UInt8} (h : Rd w v bs) : bs.length ≤ maxLen := by
  obtain ⟨ao, cp, rfl, h1, h2, _⟩ := h.val; omega
/-- A block that is read from is there. -/
theorem Rd.lt {w : World} {v : Value} {bs : List UInt8} (h : Rd w v bs) (hne : bs ≠ []) {g : Nat} (hg : v.ownBlock = some g) : g < w.heap.size := by
  obtain ⟨ao, cp, rfl, h1, h2, h3, h4, h5⟩ := h.val
  cases bs with
  | nil => exact absurd rfl hne
  | cons b r =>
    obtain ⟨ad, rfl, hc⟩ := h5 0 (by simp)
    simp [Value.ownBlock] at hg; subst hg
    exact block_lt_of_cell (a := ⟨ad.block, ad.off + 0, none⟩) hc
/-- An owned row of bytes, read. -/
theorem Own.rd {F : Nat → Prop} {w : World} {v : Value} {bs : List UInt8} {e : TypeId} {n : Nat} (h : Own F w e 1 v n (bvs bs)) : Rd w v bs := by
  have hl : n = bs.length := by have := h.row.1; simpa using this.symm
  subst hl
  rcases h.row.2 with ⟨rfl, hn⟩ | ⟨g, cap, cur, rfl, _, hg, hc, hm, hs, ht⟩
  · have : bs = [] := List.length_eq_zero_iff.1 hn
    subst this; exact Rd.nil w
  · refine Rd.mk' hc hm fun j hj => ?_
    simp only [World.cell?, hg, Nat.zero_add]
    have h2 := bvs_get bs j hj
    rw [← ht, List.getElem?_take, if_pos (by omega)] at h2
    simpa using h2

theorem Rd.drew {w : World} {v : Value} {bs : List UInt8} (h : Rd w v bs) : Rd w.drew v bs := h.kept (Tch.drew (fun _ => False) w) (fun _ _ _ => id)
/-- The slice from a place on. -/
theorem Rd.dropped {w : World} {ao : Option Addr} {n cp : Nat} {bs : List UInt8} {k : Nat} (h : Rd w (.slice ao n cp) bs) (hk : k ≤ bs.length) : Rd w (.slice (if cp = k then ao else ao.map (·.add k)) (n - k) (cp - k)) (bs.drop k) := by
  obtain ⟨ao', cp', e, h1, h2, h3, h4, h5⟩ := h.val
  simp only [Value.slice.injEq] at e
  obtain ⟨rfl, rfl, rfl⟩ := e
  refine ⟨if cp = k then ao else ao.map (·.add k), cp - k, by simp, by simp; omega, by omega, ?_, ?_, ?_⟩
  · intro e
    split at e
    · have := h3 e; omega
    · have := h3 (by simpa using e); omega
  · intro ad e
    split at e
    · exact h4 ad e
    · simp only [Option.map_eq_some_iff] at e
      obtain ⟨ad0, e0, rfl⟩ := e
      have := h4 ad0 e0
      cases k <;> simp [Addr.add, this]
  · intro j hj
    have hj' : k + j < bs.length := by simp at hj; omega
    obtain ⟨ad, rfl, hc⟩ := h5 (k + j) hj'
    have hsp := h4 ad rfl
    rw [if_neg (by omega)]
    refine ⟨ad.add k, rfl, ?_⟩
    have e : (ad.add k).block = ad.block ∧ (ad.add k).off = ad.off + k := by cases k <;> simp [Addr.add]
    rw [e.1, e.2, Nat.add_assoc, hc]
    simp
/-- The slice up to a place. -/
theorem Rd.taken {w : World} {ao : Option Addr} {n cp : Nat} {bs : List UInt8} {k : Nat} (h : Rd w (.slice ao n cp) bs) (hk : k ≤ bs.length) : Rd w (.slice ao k cp) (bs.take k) := by
  obtain ⟨ao', cp', e, h1, h2, h3, h4, h5⟩ := h.val
  simp only [Value.slice.injEq] at e
  obtain ⟨rfl, rfl, rfl⟩ := e
  have hl : (bs.take k).length = k := by simp; omega
  refine ⟨ao, cp, by rw [hl], by omega, h2, h3, h4, fun j hj => ?_⟩
  obtain ⟨ad, e, hc⟩ := h5 j (by omega)
  exact ⟨ad, e, by rw [hc]; simp⟩

/-- How many characters. -/
def rc (bs : List UInt8) : Nat := Lib.runeCountL bs
theorem rc_le (bs : List UInt8) : rc bs ≤ bs.length := by
  exact Lib.runeCount_le ⟨bs.toArray⟩

theorem runeCount_calls {w : World} {v : Value} {bs : List UInt8} (h : Rd w v bs) (hl : bs.length < 9223372036854775807) : Calls Tryd.prog 46 #[v] w fun e w' => e = .returned (.int .i64 (rc bs)) ∧ Below w.heap.size w w' := by
  obtain ⟨ao, cp, rfl, h1, h2, h3, h4, h5⟩ := h.val
  have it : ∀ (t : ByteArray) (pos : Nat), Below w.heap.size w (w.iter t pos) := fun t pos => (Below.refl _ w).alloc (Nat.le_refl _) _
  rcases ao with _ | ad
  · have : cp = 0 := h3 rfl
    subst this
    have hb : bs = [] := List.length_eq_zero_iff.1 (by omega)
    subst hb
    exact (Any7.utf8_RuneCount_nil lays31 w).mono fun e w' ⟨he, hw⟩ => ⟨he, hw ▸ Below.refl _ _⟩
  · have hsp := h4 ad rfl
    obtain ⟨k, o, sp⟩ := ad
    simp only at hsp
    subst hsp
    have hz : (⟨bs.toArray⟩ : ByteArray).size = bs.length := rfl
    have := Any7.utf8_RuneCount lays31 ⟨bs.toArray⟩ k o cp w h1 (fun j hj => by
      obtain ⟨ad, e, hc⟩ := h5 j hj
      cases e
      rw [hc]
      have hj' : j < bs.length := hj
      have hg : (⟨bs.toArray⟩ : ByteArray).get! j = bs[j] := by simp [ByteArray.get!, hj']
      rw [hg]; rfl) hl
    exact this.mono fun e w' ⟨he, hw⟩ => ⟨he, hw.elim (fun e => e ▸ Below.refl _ _) (fun ⟨t, pos, e⟩ => e ▸ it t pos)⟩
end Go.Proofs.YteildpeogbenbaaDoor

namespace Go.Proofs.YteildpeogbenbaaDoor
open Go.RowKit Go.Tw

/-- A byte that goes on with a character. -/
def contB (x : UInt8) : Bool := x.toNat / 64 == 2
def contA (l : List UInt8) (k : Nat) : Bool := match l[k]? with | some x => contB x | none => false
/-- The width of the first character. -/
def wdt (l : List UInt8) : Nat :=
  let a (k : Nat) : Nat := (l.getD k 0).toNat
  if a 0 < 0x80 then 1
  else if a 0 / 32 == 6 && contA l 1 then (if (a 0 % 32) * 64 + a 1 % 64 ≥ 0x80 then 2 else 1)
  else if a 0 / 16 == 14 && contA l 1 && contA l 2 then (if (a 0 % 16) * 4096 + (a 1 % 64) * 64 + a 2 % 64 ≥ 0x800 && Utf8.valid ((a 0 % 16) * 4096 + (a 1 % 64) * 64 + a 2 % 64 : Nat) then 3 else 1)
  else if a 0 / 8 == 30 && contA l 1 && contA l 2 && contA l 3 then (if (a 0 % 8) * 262144 + (a 1 % 64) * 4096 + (a 2 % 64) * 64 + a 3 % 64 ≥ 0x10000 && Utf8.valid ((a 0 % 8) * 262144 + (a 1 % 64) * 4096 + (a 2 % 64) * 64 + a 3 % 64 : Nat) then 4 else 1)
  else 1

theorem wdt_decode (l : List UInt8) (pos : Nat) : (Utf8.decode ⟨l.toArray⟩ pos).2 = wdt (l.drop pos) := by
  have ha : ∀ k, ((⟨l.toArray⟩ : ByteArray).get! (pos + k)).toNat = ((l.drop pos).getD k 0).toNat := by
    intro k
    simp only [ByteArray.get!, List.getD_eq_getElem?_getD, List.getElem?_drop]
    simp [Array.getElem!_eq_getD, Array.getD_eq_getD_getElem?]
    rfl
  have hc : ∀ k, (decide (pos + k < (⟨l.toArray⟩ : ByteArray).size) && ((⟨l.toArray⟩ : ByteArray).get! (pos + k)).toNat / 64 == 2) = contA (l.drop pos) k := by
    intro k
    rw [ha]
    simp only [contA, List.getD_eq_getElem?_getD, List.getElem?_drop]
    have hsz : (⟨l.toArray⟩ : ByteArray).size = l.length := rfl
    rw [hsz]
    by_cases h : pos + k < l.length
    · simp [h, contB]
    · simp [h]
  unfold Utf8.decode wdt
  simp only [ha] at hc
  simp only [ha, hc, apply_ite Prod.snd]

theorem wdt_pos (l : List UInt8) : 1 ≤ wdt l := by
  unfold wdt
  dsimp only
  repeat' split
  all_goals omega
theorem contA_lt {l : List UInt8} {k : Nat} (h : contA l k = true) : k < l.length := by
  unfold contA at h
  split at h
  · rename_i x hx; exact (List.getElem?_eq_some_iff.1 hx).1
  · cases h
theorem wdt_le (l : List UInt8) (hl : l ≠ []) : wdt l ≤ l.length := by
  have h1 : 1 ≤ l.length := by cases l with | nil => exact absurd rfl hl | cons => simp
  unfold wdt
  dsimp only
  split
  · omega
  · split
    · rename_i h; simp only [Bool.and_eq_true] at h; have := contA_lt h.2; split <;> omega
    · split
      · rename_i h; simp only [Bool.and_eq_true] at h; have := contA_lt h.2; split <;> omega
      · split
        · rename_i h; simp only [Bool.and_eq_true] at h; have := contA_lt h.2; split <;> omega
        · omega

theorem szL (l : List UInt8) : (⟨l.toArray⟩ : ByteArray).size = l.length := rfl
/-- The count from a place on is that of the rest. -/
theorem rcFrom (l : List UInt8) : ∀ fuel pos, l.length - pos ≤ fuel → Lib.runeCountFrom ⟨l.toArray⟩ fuel pos = Lib.runeCountFrom ⟨(l.drop pos).toArray⟩ (l.length - pos) 0 := by
  have gen : ∀ n (l m : List UInt8) (f g p q : Nat), l.drop p = m.drop q → l.length - p ≤ n → l.length - p ≤ f → m.length - q ≤ g → Lib.runeCountFrom ⟨l.toArray⟩ f p = Lib.runeCountFrom ⟨m.toArray⟩ g q := by
    intro n
    induction n with
    | zero =>
      intro l m f g p q he hn _ _
      have e := congrArg List.length he
      simp only [List.length_drop] at e
      rw [Lib.runeCountFrom_end _ _ _ (by show ¬ p < l.length; omega), Lib.runeCountFrom_end _ _ _ (by show ¬ q < m.length; omega)]
    | succ n ih =>
      intro l m f g p q he hn hf hg
      have e := congrArg List.length he
      simp only [List.length_drop] at e
      by_cases h : p < l.length
      · have h2 : q < m.length := by omega
        obtain ⟨f, rfl⟩ : ∃ f', f = f' + 1 := ⟨f - 1, by omega⟩
        obtain ⟨g, rfl⟩ : ∃ g', g = g' + 1 := ⟨g - 1, by omega⟩
        unfold Lib.runeCountFrom
        rw [szL, szL, if_pos h, if_pos h2, wdt_decode, wdt_decode, he]
        have hp := wdt_pos (m.drop q)
        rw [ih l m f g (p + wdt (m.drop q)) (q + wdt (m.drop q)) (by rw [← List.drop_drop, ← List.drop_drop, he]) (by omega) (by omega) (by omega)]
      · rw [Lib.runeCountFrom_end _ _ _ (show ¬ p < l.length from h), Lib.runeCountFrom_end _ _ _ (by show ¬ q < m.length; omega)]
  intro fuel pos hf
  exact gen l.length l (l.drop pos) fuel (l.length - pos) pos 0 (by simp) (by omega) hf (by simp)

@[simp] theorem rc_nil : rc [] = 0 := rfl
theorem rc_step (l : List UInt8) (hl : l ≠ []) : rc l = 1 + rc (l.drop (wdt l)) := by
  have h1 : 1 ≤ l.length := by cases l with | nil => exact absurd rfl hl | cons => simp
  obtain ⟨f, hf⟩ : ∃ f, l.length = f + 1 := ⟨l.length - 1, by omega⟩
  have hp := wdt_pos l
  show Lib.runeCountFrom ⟨l.toArray⟩ l.length 0 = 1 + Lib.runeCountFrom ⟨(l.drop (wdt l)).toArray⟩ (l.drop (wdt l)).length 0
  rw [hf, Lib.runeCountFrom, szL, if_pos (by omega), wdt_decode, rcFrom l f _ (by simp; omega)]
  simp only [List.drop_zero, Nat.zero_add, List.length_drop]

/-- A byte that goes on with no character ends what stands ahead. -/
theorem contA_app {x : UInt8} (hx : contB x = false) (a b : List UInt8) (k : Nat) (h : k ≤ a.length) : contA (a ++ x :: b) k = contA a k := by
  unfold contA
  rcases Nat.lt_or_ge k a.length with h1 | h1
  · rw [List.getElem?_append_left h1]
  · obtain rfl : k = a.length := by omega
    rw [List.getElem?_append_right (by omega), List.getElem?_eq_none (l := a) (by omega)]
    simp [hx]
theorem getD_app (a b : List UInt8) (k : Nat) (h : k < a.length) : (a ++ b).getD k 0 = a.getD k 0 := by
  simp only [List.getD_eq_getElem?_getD]
  rw [List.getElem?_append_left h]
theorem wdt_app {x : UInt8} (hx : contB x = false) (a b : List UInt8) (ha : a ≠ []) : wdt (a ++ x :: b) = wdt a := by
  have h1 : 1 ≤ a.length := by cases a with | nil => exact absurd rfl ha | cons => simp
  have c1 := contA_app hx a b 1 h1
  have g0 := getD_app a (x :: b) 0 (by omega)
  unfold wdt
  dsimp only
  simp only [g0, c1]
  cases hc1 : contA a 1 with
  | false => simp
  | true =>
    have l1 := contA_lt hc1
    have c2 := contA_app hx a b 2 (by omega)
    have g1 := getD_app a (x :: b) 1 l1
    simp only [g1, c2]
    cases hc2 : contA a 2 with
    | false => simp
    | true =>
      have l2 := contA_lt hc2
      have c3 := contA_app hx a b 3 (by omega)
      have g2 := getD_app a (x :: b) 2 l2
      simp only [g2, c3]
      cases hc3 : contA a 3 with
      | false => simp
      | true =>
        have l3 := contA_lt hc3
        have g3 := getD_app a (x :: b) 3 l3
        simp only [g3]
theorem rc_app {x : UInt8} (hx : contB x = false) (b : List UInt8) : ∀ (n : Nat) (a : List UInt8), a.length ≤ n → rc (a ++ x :: b) = rc a + rc (x :: b) := by
  intro n
  induction n with
  | zero => intro a ha; obtain rfl : a = [] := List.length_eq_zero_iff.1 (by omega); simp
  | succ n ih =>
    intro a ha
    cases a with
    | nil => simp
    | cons y a =>
      have hw := wdt_app hx (y :: a) b (by simp)
      have hp := wdt_pos (y :: a)
      have hl := wdt_le (y :: a) (by simp)
      rw [rc_step (y :: a ++ x :: b) (by simp), hw, rc_step (y :: a) (by simp), List.drop_append_of_le_length hl, ih _ (by simp at ha ⊢; omega)]
      omega
theorem rc_append {x : UInt8} (hx : contB x = false) (a b : List UInt8) : rc (a ++ x :: b) = rc a + rc (x :: b) := rc_app hx b a.length a (Nat.le_refl _)
/-- A byte that is a character of its own. -/
theorem rc_cons {x : UInt8} (h : x.toNat < 128 ∨ 248 ≤ x.toNat) (b : List UInt8) : rc (x :: b) = 1 + rc b := by
  rw [rc_step _ (by simp)]
  have : wdt (x :: b) = 1 := by
    have hx := UInt8.toNat_lt x
    unfold wdt
    simp only [List.getD_cons_zero]
    rcases h with h | h
    · rw [if_pos h]
    · rw [if_neg (by omega)]
      have a1 : (x.toNat / 32 == 6) = false := by rw [beq_eq_false_iff_ne]; omega
      have a2 : (x.toNat / 16 == 14) = false := by rw [beq_eq_false_iff_ne]; omega
      have a3 : (x.toNat / 8 == 30) = false := by rw [beq_eq_false_iff_ne]; omega
      simp [a1, a2, a3]
  rw [this]; rfl
theorem rc_snoc {x : UInt8} (h : x.toNat < 128 ∨ 248 ≤ x.toNat) (a : List UInt8) : rc (a ++ [x]) = rc a + 1 := by
  rw [rc_append (by unfold contB; rw [beq_eq_false_iff_ne]; have := UInt8.toNat_lt x; omega), rc_cons h]
  rfl
end Go.Proofs.YteildpeogbenbaaDoor
