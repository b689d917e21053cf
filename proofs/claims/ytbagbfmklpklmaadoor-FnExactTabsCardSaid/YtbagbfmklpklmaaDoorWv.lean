/- A copy of bytes by an append to an empty literal. -/
import Derived.Test.YtbagbfmklpklmaaDoorWu
namespace Go.Proofs.YtbagbfmklpklmaaDoor
open Go.RowKit Go.Tw Go.Sort
set_option maxRecDepth 100000

theorem run_copy (w : World) {x : Value} {bs : List UInt8} (hrd : Rd w x bs) (hb : bs.length ≤ 10000000000000) (ty : TypeId) :
    ∃ g cap w', (Builtin.append_ #[26, 26] ty #[.slice (some ⟨w.heap.size, 0, none⟩) 0 0, x]).run Tryd.prog (w.alloc (.cells #[] 5)) = .ok (.slice (some ⟨g, 0, none⟩) bs.length cap) w' ∧ w.heap.size ≤ g ∧ bs.length ≤ cap ∧ cap ≤ 9223372036854775807 ∧ Own (fun k => w.heap.size ≤ k) w' 5 1 (.slice (some ⟨g, 0, none⟩) bs.length cap) bs.length (bvs bs) ∧ Below w.heap.size w w' := by
  have h0 : Own (fun k => w.heap.size ≤ k) (w.alloc (.cells #[] 5)) 5 1 (.slice (some ⟨w.heap.size, 0, none⟩) 0 0) 0 [] :=
    ⟨⟨rfl, .inr ⟨w.heap.size, 0, #[], rfl, Nat.zero_le _, heap_alloc_new w _, Nat.le_refl _, by simp [maxLen], rfl, rfl⟩⟩, fun g hg => by simp [Value.ownBlock] at hg; omega⟩
  have hbl : Below w.heap.size w (w.alloc (.cells #[] 5)) := (Below.refl _ w).alloc (Nat.le_refl _) _
  obtain ⟨i0, hi, hz0, hz1, hz2⟩ := info_parts Tryd.info_u8
  obtain ⟨ao, cp, rfl, h1, h2, h3, h4, h5⟩ := hrd.val
  rcases ao with _ | ad
  · have hcp : cp = 0 := h3 rfl
    subst hcp
    have hbs : bs = [] := List.length_eq_zero_iff.1 (by omega)
    subst hbs
    have hr := run_append_owned_none (P := Tryd.prog) (w := w.alloc (.cells #[] 5)) 0 26 ty 5 i0 1 Tryd.underlying26 hi _ 0 [] h0.row
    exact ⟨w.heap.size, 0, _, hr, Nat.le_refl _, Nat.le_refl _, Nat.zero_le _, h0, hbl⟩
  · have hsp := h4 ad rfl
    obtain ⟨k, o, sp⟩ := ad
    simp only at hsp
    subst hsp
    have hcells : ∀ j (h : j < bs.length), (w.alloc (.cells #[] 5)).cell? ⟨k, o + j, none⟩ = some (bv bs[j]) := fun j hj => by
      obtain ⟨ad, e, hc⟩ := h5 j hj
      cases e
      exact (Tch.alloc (fun _ => False) w _).cell hc id
    obtain ⟨v', w', hr, ho, hg, hblk, hnil⟩ := run_append_Own (P := Tryd.prog) (w.alloc (.cells #[] 5)) (fun k => w.heap.size ≤ k) 26 ty 5 i0 (.int .u8 0) 1 1 Tryd.underlying26 hi hz0 hz1 hz2 rfl (by decide) _ 0 [] h0 ⟨k, o, none⟩ bs.length cp (bvs bs) (by simp) (Rd.news hcells) (bvs_one bs) (by unfold maxLen; omega) (by omega) (fun k hk => by simp at hk; omega)
    rw [Nat.zero_add, List.nil_append] at ho
    rcases ho.row.2 with ⟨e, _⟩ | ⟨g, cap, cur, e, _, hgg, hc, hm, _⟩
    · rw [hnil] at e; simp at e
    · subst e
      refine ⟨g, cap, w', hr, ho.mem g rfl, hc, by unfold maxLen at hm; omega, ho, ?_⟩
      refine hbl.trans ?_
      have ht := Tch.grown (F := fun k => w.heap.size ≤ k) hg (fun k e => by simp [Value.ownBlock] at e; omega)
      exact ht.below (by simp) (fun k hk h => by omega)
end Go.Proofs.YtbagbfmklpklmaaDoor
