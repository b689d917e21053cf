/- Walks: Valid, Small, Has, With, same, Without. -/
import Derived.Test.YteildpeogbenbaaDoorWw
import Derived.Laws.BytesArg
namespace Go.Proofs.YteildpeogbenbaaDoor
open Go.RowKit Go.Tw Go.Sort
set_option maxRecDepth 100000

/-- A set-up as a value. -/
def confV (mn tb pd : Int) (ch : UInt8) (fl : Int) : Value := .agg #[.int .i64 mn, .int .i64 tb, .int .i64 pd, .int .u8 ch.toNat, .int .i64 fl]
/-- It may be set up so. -/
def Vld (mn tb pd fl : Int) : Prop := (0 ≤ mn ∧ mn ≤ 60) ∧ (0 ≤ tb ∧ tb ≤ 60) ∧ (0 ≤ pd ∧ pd ≤ 60) ∧ 0 ≤ fl ∧ fl < 64
instance (mn tb pd fl : Int) : Decidable (Vld mn tb pd fl) := by unfold Vld; infer_instance

theorem small_calls (w : World) {v : Value} {bs : List UInt8} (h : Rd w v bs) : Calls Tryd.prog 11 #[v] w fun e w' => e = .returned (.bool (decide (bs.length ≤ 3000))) ∧ w = w' := by
  obtain ⟨ao, cp, rfl, _⟩ := h.val
  go_enter Tryd.func11, Tryd.ntmps11
  go_wp2
  go_ret
  refine ⟨?_, rfl⟩
  simp
  omega

set_option maxHeartbeats 1000000 in
theorem valid_calls (w : World) (mn tb pd fl : Int) (ch : UInt8) : Calls Tryd.prog 10 #[.agg #[.int .i64 mn, .int .i64 tb, .int .i64 pd, .int .u8 ch.toNat, .int .i64 fl]] w fun e w' => e = .returned (.bool (decide (Vld mn tb pd fl))) ∧ Below w.heap.size w w' := by
  have hb : Below w.heap.size w (w.alloc (.cells #[.int .i64 mn, .int .i64 tb, .int .i64 pd, .int .u8 ch.toNat, .int .i64 fl] 23)) := (Below.refl _ w).alloc (Nat.le_refl _) _
  have HB := Lib.hid hb
  clear hb
  by_cases h1 : 0 ≤ mn
  · by_cases h2 : mn ≤ 60
    · by_cases h3 : 0 ≤ tb
      · by_cases h4 : tb ≤ 60
        · by_cases h5 : 0 ≤ pd
          · by_cases h6 : pd ≤ 60
            · by_cases h7 : 0 ≤ fl
              · by_cases h8 : fl < 64
                · have hv : decide (Vld mn tb pd fl) = true := decide_eq_true (by unfold Vld; omega)
                  rw [hv]; clear hv
                  go_enter Tryd.func10, Tryd.ntmps10; go_wp2; go_ret; exact ⟨rfl, HB.out⟩
                · have hv : decide (Vld mn tb pd fl) = false := decide_eq_false (by unfold Vld; omega)
                  rw [hv]; clear hv
                  go_enter Tryd.func10, Tryd.ntmps10; go_wp2; go_ret; exact ⟨rfl, HB.out⟩
              · have hv : decide (Vld mn tb pd fl) = false := decide_eq_false (by unfold Vld; omega)
                rw [hv]; clear hv
                go_enter Tryd.func10, Tryd.ntmps10; go_wp2; go_ret; exact ⟨rfl, HB.out⟩
            · have hv : decide (Vld mn tb pd fl) = false := decide_eq_false (by unfold Vld; omega)
              rw [hv]; clear hv
              go_enter Tryd.func10, Tryd.ntmps10; go_wp2; go_ret; exact ⟨rfl, HB.out⟩
          · have hv : decide (Vld mn tb pd fl) = false := decide_eq_false (by unfold Vld; omega)
            rw [hv]; clear hv
            go_enter Tryd.func10, Tryd.ntmps10; go_wp2; go_ret; exact ⟨rfl, HB.out⟩
        · have hv : decide (Vld mn tb pd fl) = false := decide_eq_false (by unfold Vld; omega)
          rw [hv]; clear hv
          go_enter Tryd.func10, Tryd.ntmps10; go_wp2; go_ret; exact ⟨rfl, HB.out⟩
      · have hv : decide (Vld mn tb pd fl) = false := decide_eq_false (by unfold Vld; omega)
        rw [hv]; clear hv
        go_enter Tryd.func10, Tryd.ntmps10; go_wp2; go_ret; exact ⟨rfl, HB.out⟩
    · have hv : decide (Vld mn tb pd fl) = false := decide_eq_false (by unfold Vld; omega)
      rw [hv]; clear hv
      go_enter Tryd.func10, Tryd.ntmps10; go_wp2; go_ret; exact ⟨rfl, HB.out⟩
  · have hv : decide (Vld mn tb pd fl) = false := decide_eq_false (by unfold Vld; omega)
    rw [hv]; clear hv
    go_enter Tryd.func10, Tryd.ntmps10; go_wp2; go_ret; exact ⟨rfl, HB.out⟩

theorem has_calls (w : World) (mn tb pd fl : Int) (ch : UInt8) (f : Int) : Calls Tryd.prog 12 #[.agg #[.int .i64 mn, .int .i64 tb, .int .i64 pd, .int .u8 ch.toNat, .int .i64 fl], .int .i64 f] w fun e w' => e = .returned (.bool (bits BinOp.and IntKind.i64 fl f != 0)) ∧ Below w.heap.size w w' := by
  have hb : Below w.heap.size w (w.alloc (.cells #[.int .i64 mn, .int .i64 tb, .int .i64 pd, .int .u8 ch.toNat, .int .i64 fl] 23)) := (Below.refl _ w).alloc (Nat.le_refl _) _
  have HB := Lib.hid hb
  clear hb
  go_enter Tryd.func12, Tryd.ntmps12
  go_wp2
  go_ret
  exact ⟨rfl, HB.out⟩

/-- The bytes of a slice as a string. -/
theorem Rd.str {w : World} {v : Value} {bs : List UInt8} (h : Rd w v bs) : (convert 26 9 v).run Tryd.prog w = .ok (.string ⟨bs.toArray⟩) w := by
  obtain ⟨ao, cp, rfl, h1, h2, h3, h4, h5⟩ := h.val
  rcases ao with _ | ad
  · have hcp : cp = 0 := h3 rfl
    subst hcp
    have hbs : bs = [] := List.length_eq_zero_iff.1 (by omega)
    subst hbs
    exact run_convert_bytes_nil w 26 5 Tryd.underlying26 Tryd.underlying5 0 0 9 Tryd.underlying9
  · have hsp := h4 ad rfl
    obtain ⟨k, o, sp⟩ := ad
    simp only at hsp
    subst hsp
    have := run_convert_bytes_arg w 26 5 Tryd.underlying26 Tryd.underlying5 k o bs.length cp (bs.map fun b => (b.toNat : Int)) (by simp) (fun i hi => by
      obtain ⟨ad, e, hc⟩ := h5 i hi
      cases e
      rw [hc]
      simp [List.getD_eq_getElem?_getD, hi, bv]) 9 Tryd.underlying9
    rw [this]
    congr 2
    have e : (strOfNums (bs.map fun b => (b.toNat : Int))).data = bs.toArray := by
      apply Array.ext'
      rw [strOfNums_data, List.map_map]
      have hm : ∀ l : List UInt8, List.map ((fun n : Int => UInt8.ofNat n.toNat) ∘ fun b : UInt8 => (b.toNat : Int)) l = l := by
        intro l
        induction l with
        | nil => rfl
        | cons x l ih => rw [List.map_cons, ih]; simp
      exact hm bs
    cases hx : strOfNums (bs.map fun b => (b.toNat : Int))
    rw [hx] at e
    simp only at e
    rw [e]

theorem same_calls (w : World) {u v : Value} {xs ys : List UInt8} (ha : Rd w u xs) (hb : Rd w v ys) : Calls Tryd.prog 9 #[u, v] w fun e w' => e = .returned (.bool (decide (xs = ys))) ∧ w = w' := by
  have h1 := ha.str
  have h2 := hb.str
  clear ha hb
  go_enter Tryd.func9, Tryd.ntmps9
  go_wp2
  go_ret
  refine ⟨?_, rfl⟩
  simp only [Array.getD_eq_getD_getElem?]
  simp
  exact Bool.eq_iff_iff.2 (by simp)
end Go.Proofs.YteildpeogbenbaaDoor

namespace Go.Proofs.YteildpeogbenbaaDoor
open Go.RowKit Go.Tw Go.Sort
set_option maxRecDepth 100000

def New (w : World) (k : Nat) : Prop := w.heap.size ≤ k
theorem New.below {w w' : World} (t : Tch (New w) w w') : Below w.heap.size w w' := t.below (Nat.le_refl _) (fun _ hk h => absurd hk (Nat.not_lt.2 h))
theorem Rd.new {w w' : World} {v : Value} {bs : List UInt8} (h : Rd w v bs) (t : Tch (New w) w w') : Rd w' v bs := h.below (New.below t)

/-- One value is appended to an owned row. -/
theorem run_append_one {F : Nat → Prop} {w : World} {v : Value} {n : Nat} {xs : List Value} (hF : ∀ k, w.heap.size ≤ k → F k) (h : Own F w 5 1 v n xs) (b : UInt8) (hn : n ≤ 10000000000000) (ty : TypeId) :
    ∃ v' w', (Builtin.append_ #[26, 26] ty #[v, .slice (some ⟨w.heap.size, 0, none⟩) 1 1]).run Tryd.prog (w.alloc (.cells #[.int .u8 b.toNat] 5)) = .ok v' w' ∧ Own F w' 5 1 v' (n + 1) (xs ++ [bv b]) ∧ Tch F w w' ∧ (w.alloc (.cells #[.int .u8 b.toNat] 5)).grownBy w' v.ownBlock ∧ (∀ g, v'.ownBlock = some g → v.ownBlock = some g ∨ w.heap.size < g) := by
  obtain ⟨i0, hi, hz0, hz1, hz2⟩ := info_parts Tryd.info_u8
  have h0 := h.kept (Tch.alloc (fun _ => False) w (.cells #[.int .u8 b.toNat] 5)) (fun _ _ => id)
  obtain ⟨v', w', hr, ho, hg, hblk, _⟩ := run_append_Own (P := Tryd.prog) (w.alloc (.cells #[.int .u8 b.toNat] 5)) F 26 ty 5 i0 (.int .u8 0) 1 1 Tryd.underlying26 hi hz0 hz1 hz2 rfl (by decide) v n xs h0 ⟨w.heap.size, 0, none⟩ 1 1 [bv b] rfl (fun j u hj => by
      match j, hj with
      | 0, hj => simp at hj; subst hj; exact cell_of_blk (heap_alloc_new w _) 0) (by simp [bv, Value.oneCell']) (by unfold maxLen; omega) (by omega) (fun k hk => hF k (by simp at hk; omega))
  refine ⟨v', w', hr, ho, (Tch.alloc F w _).trans (Tch.grown hg (fun k e => h.mem k e)), hg, fun g hg => ?_⟩
  rcases hblk g hg with h | h
  · exact .inl h
  · right; simp at h; omega

end Go.Proofs.YteildpeogbenbaaDoor
