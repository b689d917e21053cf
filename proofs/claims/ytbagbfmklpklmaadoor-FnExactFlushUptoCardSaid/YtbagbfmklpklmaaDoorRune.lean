/- The shelf's contract of unicode/utf8.RuneCount laid at this program (written by the kit's lay-plain tool), and what it says of slices of bytes. -/
import Derived.Shelf.Spec.RuneCount
import Derived.Shelf.Spec.NilArms
import Derived.Test.YtbagbfmklpklmaaDoorRep
namespace Go.Proofs
open Go.Shelf
def YtbagbfmklpklmaaDoor.lays31_ren : Go.Shelf.Ren := ⟨fun | 31 => 50 | 48 => 55 | n => n, fun | 30 => 26 | 3 => 3 | 4 => 4 | 0 => 0 | 5 => 5 | 9 => 9 | n => n, fun | n => n⟩
theorem YtbagbfmklpklmaaDoor.lays31 : Go.Proofs.Lays7.n31 Tryd.prog YtbagbfmklpklmaaDoor.lays31_ren := {
  mixed := by kernel_rfl
  f31 := Tryd.func50.trans (congrArg some (by kernel_rfl))
  f48 := Tryd.func55.trans (congrArg some (by kernel_rfl))
  t0 := Tryd.underlying0
  a0 := Tryd.isAgg0
  z0 := Tryd.sizeOf0
  v0 := Tryd.zeroValue0
  i0 := by kernel_rfl
  t3 := Tryd.underlying3
  a3 := Tryd.isAgg3
  z3 := Tryd.sizeOf3
  v3 := Tryd.zeroValue3
  i3 := by kernel_rfl
  t4 := Tryd.underlying4
  a4 := Tryd.isAgg4
  z4 := Tryd.sizeOf4
  v4 := Tryd.zeroValue4
  i4 := by kernel_rfl
  t5 := Tryd.underlying5
  a5 := Tryd.isAgg5
  z5 := Tryd.sizeOf5
  v5 := Tryd.zeroValue5
  i5 := by kernel_rfl
  t9 := Tryd.underlying9
  a9 := Tryd.isAgg9
  z9 := Tryd.sizeOf9
  v9 := Tryd.zeroValue9
  i9 := by kernel_rfl
  t30 := Tryd.underlying26
  a30 := Tryd.isAgg26
  z30 := Tryd.sizeOf26
  v30 := Tryd.zeroValue26
  i30 := by kernel_rfl }
end Go.Proofs

namespace Go.Proofs.YtbagbfmklpklmaaDoor
open Go.RowKit Go.Tw

/-- A slice that reads as bytes. -/
structure Rd (w : World) (v : Value) (bs : List UInt8) : Prop where
  val : ∃ ao cp, v = .slice ao bs.length cp ∧ bs.length ≤ cp ∧ cp ≤ maxLen ∧ (ao = none → cp = 0) ∧ (∀ ad, ao = some ad → ad.spot = none) ∧ ∀ j (h : j < bs.length), ∃ ad, ao = some ad ∧ w.cell? ⟨ad.block, ad.off + j, none⟩ = some (bv bs[j])

theorem Rd.mk' {w : World} {k o : Nat} {bs : List UInt8} {cp : Nat} (h1 : bs.length ≤ cp) (h2 : cp ≤ maxLen) (h : ∀ j (h : j < bs.length), w.cell? ⟨k, o + j, none⟩ = some (bv bs[j])) : Rd w (.slice (some ⟨k, o, none⟩) bs.length cp) bs :=
  ⟨_, _, rfl, h1, h2, fun e => (by cases e), fun ad e => (by cases e; rfl), fun j hj => ⟨_, rfl, h j hj⟩⟩
theorem Rd.nil (w : World) : Rd w (.slice none 0 0) [] := ⟨none, 0, rfl, Nat.le_refl _, Nat.zero_le _, fun _ => rfl, fun _ e => (by cases e), fun j h => (by simp at h)⟩
theorem Rd.empty (w : World) (ad : Addr) (hs : ad.spot = none) (cp : Nat) (h : cp ≤ maxLen) : Rd w (.slice (some ad) 0 cp) [] := ⟨_, cp, rfl, Nat.zero_le _, h, fun e => (by cases e), fun _ e => (by cases e; exact hs), fun j h => (by simp at h)⟩
theorem Rd.kept {F : Nat → Prop} {w w' : World} {v : Value} {bs : List UInt8} (h : Rd w v bs) (t : Tch F w w') (hF : bs ≠ [] → ∀ g, v.ownBlock = some g → ¬ F g) : Rd w' v bs := by
  obtain ⟨ao, cp, rfl, h1, h2, h3, h4, h5⟩ := h.val
  refine ⟨ao, cp, rfl, h1, h2, h3, h4, fun j hj => ?_⟩
  obtain ⟨ad, rfl, hc⟩ := h5 j hj
  exact ⟨ad, rfl, t.cell hc (hF (fun e => by subst e; simp at hj) ad.block rfl)⟩
theorem Rd.below {w w' : World} {v : Value} {bs : List UInt8} (h : Rd w v bs) (t : Below w.heap.size w w') : Rd w' v bs :=
  h.kept (Tch.of_below (F := fun _ => False) t) (fun _ _ _ => id)
theorem Rd.le {w : World} {v : Value} {bs : List UInt8} (h : Rd w v bs) : bs.length ≤ maxLen := by
  obtain ⟨ao, cp, rfl, h1, h2, _⟩ := h.val; omega
/-- A block that is read from is there. -/
theorem Rd.lt {w : World} {v : Value} {bs : List UInt8} (h : Rd w v bs) (hne : bs ≠ []) {g : Nat} (hg : v.ownBlock = some g) : g < w.heap.size := by
  obtain ⟨ao, cp, rfl, h1, h2, h3, h4, h5⟩ := h.val
  cases bs with
  | nil => exact absurd rfl hne
  | cons b r =>
    obtain ⟨ad, rfl, hc⟩ := h5 0 (by simp)
    simp [Value.ownBlock] at hg; subst hg
    exact block_lt_of_cell (a := ⟨ad.block, ad.off + 0, none⟩) hc
/-- An owned row of bytes, read. -/
theorem Own.rd {F : Nat → Prop} {w : World} {v : Value} {bs : List UInt8} {e : TypeId} {n : Nat} (h : Own F w e 1 v n (bvs bs)) : Rd w v bs := by
  have hl : n = bs.length := by have := h.row.1; simpa using this.symm
  subst hl
  rcases h.row.2 with ⟨rfl, hn⟩ | ⟨g, cap, cur, rfl, _, hg, hc, hm, hs, ht⟩
  · have : bs = [] := List.length_eq_zero_iff.1 hn
    subst this; exact Rd.nil w
  · refine Rd.mk' hc hm fun j hj => ?_
    simp only [World.cell?, hg, Nat.zero_add]
    have h2 := bvs_get bs j hj
    rw [← ht, List.getElem?_take, if_pos (by omega)] at h2
    simpa using h2

theorem Rd.drew {w : World} {v : Value} {bs : List UInt8} (h : Rd w v bs) : Rd w.drew v bs := h.kept (Tch.drew (fun _ => False) w) (fun _ _ _ => id)
/-- The slice from a place on. -/
theorem Rd.dropped {w : World} {ao : Option Addr} {n cp : Nat} {bs : List UInt8} {k : Nat} (h : Rd w (.slice ao n cp) bs) (hk : k ≤ bs.length) : Rd w (.slice (if cp = k then ao else ao.map (·.add k)) (n - k) (cp - k)) (bs.drop k) := by
  obtain ⟨ao', cp', e, h1, h2, h3, h4, h5⟩ := h.val
  simp only [Value.slice.injEq] at e
  obtain ⟨rfl, rfl, rfl⟩ := e
  refine ⟨if cp = k then ao else ao.map (·.add k), cp - k, by simp, by simp; omega, by omega, ?_, ?_, ?_⟩
  · intro e
    split at e
    · have := h3 e; omega
    · have := h3 (by simpa using e); omega
  · intro ad e
    split at e
    · exact h4 ad e
    · simp only [Option.map_eq_some_iff] at e
      obtain ⟨ad0, e0, rfl⟩ := e
      have := h4 ad0 e0
      cases k <;> simp [Addr.add, this]
  · intro j hj
    have hj' : k + j < bs.length := by simp at hj; omega
    obtain ⟨ad, rfl, hc⟩ := h5 (k + j) hj'
    have hsp := h4 ad rfl
    rw [if_neg (by omega)]
    refine ⟨ad.add k, rfl, ?_⟩
    have e : (ad.add k).block = ad.block ∧ (ad.add k).off = ad.off + k := by cases k <;> simp [Addr.add]
    rw [e.1, e.2, Nat.add_assoc, hc]
    simp
/-- The slice up to a place. -/
theorem Rd.taken {w : World} {ao : Option Addr} {n cp : Nat} {bs : List UInt8} {k : Nat} (h : Rd w (.slice ao n cp) bs) (hk : k ≤ bs.length) : Rd w (.slice ao k cp) (bs.take k) := by
  obtain ⟨ao', cp', e, h1, h2, h3, h4, h5⟩ := h.val
  simp only [Value.slice.injEq] at e
  obtain ⟨rfl, rfl, rfl⟩ := e
  have hl : (bs.take k).length = k := by simp; omega
  refine ⟨ao, cp, by rw [hl], by omega, h2, h3, h4, fun j hj => ?_⟩
  obtain ⟨ad, e, hc⟩ := h5 j (by omega)
  exact ⟨ad, e, by rw [hc]; simp⟩

/-- How many characters. -/
def rc (bs : List UInt8) : Nat := Lib.runeCountL bs
theorem rc_le (bs : List UInt8) : rc bs ≤ bs.length := by
  exact Lib.runeCount_le ⟨bs.toArray⟩

theorem runeCount_calls {w : World} {v : Value} {bs : List UInt8} (h : Rd w v bs) (hl : bs.length < 9223372036854775807) : Calls Tryd.prog 50 #[v] w fun e w' => e = .returned (.int .i64 (rc bs)) ∧ Below w.heap.size w w' := by
  obtain ⟨ao, cp, rfl, h1, h2, h3, h4, h5⟩ := h.val
  have it : ∀ (t : ByteArray) (pos : Nat), Below w.heap.size w (w.iter t pos) := fun t pos => (Below.refl _ w).alloc (Nat.le_refl _) _
  rcases ao with _ | ad
  · have : cp = 0 := h3 rfl
    subst this
    have hb : bs = [] := List.length_eq_zero_iff.1 (by omega)
    subst hb
    exact (Any7.utf8_RuneCount_nil lays31 w).mono fun e w' ⟨he, hw⟩ => ⟨he, hw ▸ Below.refl _ _⟩
  · have hsp := h4 ad rfl
    obtain ⟨k, o, sp⟩ := ad
    simp only at hsp
    subst hsp
    have hz : (⟨bs.toArray⟩ : ByteArray).size = bs.length := rfl
    have := Any7.utf8_RuneCount lays31 ⟨bs.toArray⟩ k o cp w h1 (fun j hj => by
      obtain ⟨ad, e, hc⟩ := h5 j hj
      cases e
      rw [hc]
      have hj' : j < bs.length := hj
      have hg : (⟨bs.toArray⟩ : ByteArray).get! j = bs[j] := by simp [ByteArray.get!, hj']
      rw [hg]; rfl) hl
    exact this.mono fun e w' ⟨he, hw⟩ => ⟨he, hw.elim (fun e => e ▸ Below.refl _ _) (fun ⟨t, pos, e⟩ => e ▸ it t pos)⟩
end Go.Proofs.YtbagbfmklpklmaaDoor
