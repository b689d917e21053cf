/- Walks: Init, NewWriter, begin; a copy of bytes by an append to an empty literal. -/
import Derived.Test.YteildpeogbenbaaDoorWt
namespace Go.Proofs.YteildpeogbenbaaDoor
open Go.RowKit Go.Tw Go.Sort
set_option maxRecDepth 100000
section
variable {F : Nat → Prop} {w : World} {B S : Nat} {c : Cfg}

def zeroW : List Value := preB .nilIface 0 0 0 ++ List.replicate 8 (.int .u8 0) ++ postB 0 (.slice none 0 0) 0 0 0 false 0 (.slice none 0 0) (.slice none 0 0)

theorem zeroW_eq : zeroW.toArray = #[.nilIface, .int .i64 0, .int .i64 0, .int .i64 0, .int .u8 0, .int .u8 0, .int .u8 0, .int .u8 0, .int .u8 0, .int .u8 0, .int .u8 0, .int .u8 0, .int .u64 0, .slice none 0 0, .int .i64 0, .int .i64 0, .int .i64 0, .bool false, .int .u8 0, .slice none 0 0, .slice none 0 0] := rfl

theorem newParts (room : Int) (hr : 0 ≤ room ∧ room ≤ 9223372036854775807) (hFS : F S) (hS : w.heap[S]? = some (.cells #[.slice none 0 0, .int .i64 room] 44 (0, 0))) : Parts F w S room [] [] [] [] (.slice none 0 0) (.slice none 0 0) (.slice none 0 0) (.slice none 0 0) [] :=
  ⟨Own.nil F w _ _, ⟨.inl ⟨rfl, rfl⟩, Nat.le_refl _, fun i v hv => by simp at hv, fun i j v v' _ h => by simp at h⟩, Own.nil F w _ _, hS, hFS, Own.nil F w _ _, .inl rfl, by simpa using hr⟩

theorem NewWriter_calls (hF : ∀ k, w.heap.size ≤ k → F k) (room : Int) (hr : 0 ≤ room ∧ room ≤ 9223372036854775807) (hFS : F S) (hS : w.heap[S]? = some (.cells #[.slice none 0 0, .int .i64 room] 44 (0, 0))) (mn tb pd fl : Nat) (ch : UInt8) (hmn : mn ≤ 1000) (htb : tb ≤ 1000) (hpd : pd ≤ 1000) (hfl : fl < 64) :
    Calls Tryd.prog 32 #[.iface 42 (.pointer (some ⟨S, 0, none⟩)), .int .i64 mn, .int .i64 tb, .int .i64 pd, .int .u8 ch.toNat, .int .u64 fl] w fun ed w' => ed = .returned (.pointer (some ⟨w.heap.size, 0, none⟩)) ∧ Rep F w' w.heap.size S ⟨mn, tb, pd, ch, keepFl ch fl, room⟩ (St.new []) ∧ Tch F w w' := by
  have hT : Tch (fun _ => False) w (w.alloc (.cells zeroW.toArray 77)) := Tch.alloc _ _ _
  have hN := (Init_calls (F := F) (w := w.alloc (.cells zeroW.toArray 77)) (B := w.heap.size) (S := S) (fun k hk => hF k (by simp at hk; omega)) (hF _ (Nat.le_refl _)) (ps0 := List.replicate 8 (.int .u8 0)) (iv := .nilIface) (by simp) (by simp [Value.oneCell']) rfl (heap_alloc_new w _) (newParts room hr hFS (hT.heap hS id)) mn tb pd fl ch hmn htb hpd hfl)
  rw [zeroW_eq] at hN
  have HN := Lib.hid hN
  clear hT hN
  go_enter Tryd.func32, Tryd.ntmps32
  go_wp2_with (go_at_call 49; (with_reducible refine HN.out.mono ?_); rintro ed w5 ⟨rfl, hr, t⟩; have HR := Lib.hid hr; have T := Lib.hid t; clear hr t)
  go_ret
  exact ⟨rfl, HR.out, (Tch.alloc F w _).trans T.out⟩

theorem begin_calls (hF : ∀ k, w.heap.size ≤ k → F k) (room : Int) (hr : 0 ≤ room ∧ room ≤ 9223372036854775807) (hFS : F S) (hS : w.heap[S]? = some (.cells #[.slice none 0 0, .int .i64 room] 44 (0, 0))) (mn tb pd fl : Nat) (ch : UInt8) (hmn : mn ≤ 1000) (htb : tb ≤ 1000) (hpd : pd ≤ 1000) (hfl : fl < 64) :
    Calls Tryd.prog 19 #[.agg #[.int .i64 mn, .int .i64 tb, .int .i64 pd, .int .u8 ch.toNat, .int .i64 fl], .pointer (some ⟨S, 0, none⟩)] w fun ed w' => ed = .returned (.pointer (some ⟨w.heap.size + 1, 0, none⟩)) ∧ Rep F w' (w.heap.size + 1) S ⟨mn, tb, pd, ch, keepFl ch fl, room⟩ (St.new []) ∧ Tch F w w' := by
  have hN := NewWriter_calls (F := F) (w := w.alloc (.cells #[.int .i64 mn, .int .i64 tb, .int .i64 pd, .int .u8 ch.toNat, .int .i64 fl] 23)) (fun k hk => hF k (by simp at hk; omega)) room hr hFS ((Tch.alloc (fun _ => False) w _).heap hS id) mn tb pd fl ch hmn htb hpd hfl
  have e : (w.alloc (.cells #[.int .i64 mn, .int .i64 tb, .int .i64 pd, .int .u8 ch.toNat, .int .i64 fl] 23)).heap.size = w.heap.size + 1 := by simp
  rw [e] at hN
  have HN := Lib.hid hN
  have hcv : IntKind.u64.wrap (fl : Int) = fl := by unfold IntKind.wrap; simp [IntKind.bits]; omega
  clear hN e
  go_enter Tryd.func19, Tryd.ntmps19
  go_wp2_with (go_at_call 32; (with_reducible refine HN.out.mono ?_); rintro ed w5 ⟨rfl, hr, t⟩; have HR := Lib.hid hr; have T := Lib.hid t; clear hr t)
  go_ret
  exact ⟨rfl, HR.out, (Tch.alloc F w _).trans T.out⟩
end
end Go.Proofs.YteildpeogbenbaaDoor

namespace Go.Proofs.YteildpeogbenbaaDoor
open Go.RowKit Go.Tw Go.Sort
set_option maxRecDepth 100000

/-- A slice that reads as bytes, or an empty one at any address. -/
def Rw (w : World) (v : Value) (bs : List UInt8) : Prop := Rd w v bs ∨ bs = [] ∧ ∃ ad cp, v = .slice (some ad) 0 cp ∧ cp ≤ maxLen
theorem Rw.rd {w : World} {v : Value} {bs : List UInt8} (h : Rw w v bs) (hne : bs ≠ []) : Rd w v bs := by
  rcases h with h | ⟨e, _⟩
  · exact h
  · exact absurd e hne
theorem Rw.shape {w : World} {v : Value} {bs : List UInt8} (h : Rw w v bs) : ∃ ao cp, v = .slice ao bs.length cp := by
  rcases h with h | ⟨rfl, ad, cp, rfl, _⟩
  · obtain ⟨ao, cp, e, _⟩ := h.val
    exact ⟨ao, cp, e⟩
  · exact ⟨_, _, rfl⟩
theorem Rw.kept {F : Nat → Prop} {w w' : World} {v : Value} {bs : List UInt8} (h : Rw w v bs) (t : Tch F w w') (hF : bs ≠ [] → ∀ g, v.ownBlock = some g → ¬ F g) : Rw w' v bs := by
  rcases h with h | h
  · exact .inl (h.kept t hF)
  · exact .inr h
theorem Rw.below {w w' : World} {v : Value} {bs : List UInt8} (h : Rw w v bs) (t : Below w.heap.size w w') : Rw w' v bs := by
  rcases h with h | h
  · exact .inl (h.below t)
  · exact .inr h

theorem run_copy (w : World) {x : Value} {bs : List UInt8} (hrw : Rw w x bs) (hb : bs.length ≤ 10000000000000) (ty : TypeId) :
    ∃ g cap w', (Builtin.append_ #[26, 26] ty #[.slice (some ⟨w.heap.size, 0, none⟩) 0 0, x]).run Tryd.prog (w.alloc (.cells #[] 5)) = .ok (.slice (some ⟨g, 0, none⟩) bs.length cap) w' ∧ w.heap.size ≤ g ∧ bs.length ≤ cap ∧ cap ≤ 9223372036854775807 ∧ Own (fun k => w.heap.size ≤ k) w' 5 1 (.slice (some ⟨g, 0, none⟩) bs.length cap) bs.length (bvs bs) ∧ Below w.heap.size w w' := by
  have h0 : Own (fun k => w.heap.size ≤ k) (w.alloc (.cells #[] 5)) 5 1 (.slice (some ⟨w.heap.size, 0, none⟩) 0 0) 0 [] :=
    ⟨⟨rfl, .inr ⟨w.heap.size, 0, #[], rfl, Nat.zero_le _, heap_alloc_new w _, Nat.le_refl _, by simp [maxLen], rfl, rfl⟩⟩, fun g hg => by simp [Value.ownBlock] at hg; omega⟩
  have hbl : Below w.heap.size w (w.alloc (.cells #[] 5)) := (Below.refl _ w).alloc (Nat.le_refl _) _
  obtain ⟨i0, hi, hz0, hz1, hz2⟩ := info_parts Tryd.info_u8
  rcases hrw with hrd | ⟨rfl, ad0, cp0, rfl, hcp0⟩
  rotate_left
  · obtain ⟨v', w', hr, ho, hg, hblk, hnil⟩ := run_append_Own (P := Tryd.prog) (w.alloc (.cells #[] 5)) (fun k => w.heap.size ≤ k) 26 ty 5 i0 (.int .u8 0) 1 1 Tryd.underlying26 hi hz0 hz1 hz2 rfl (by decide) _ 0 [] h0 ad0 0 cp0 [] (by simp) (fun j u h => by simp at h) (fun u h => by simp at h) (by unfold maxLen; omega) (by omega) (fun k hk => by simp at hk; omega)
    rcases ho.row.2 with ⟨e, _⟩ | ⟨g, cap, cur, e, _, hgg, hc, hm, _⟩
    · rw [hnil] at e; simp at e
    · subst e
      refine ⟨g, cap, w', hr, ho.mem g rfl, hc, by unfold maxLen at hm; omega, ho, ?_⟩
      refine hbl.trans ?_
      have ht := Tch.grown (F := fun k => w.heap.size ≤ k) hg (fun k e => by simp [Value.ownBlock] at e; omega)
      exact ht.below (by simp) (fun k hk h => by omega)
  obtain ⟨ao, cp, rfl, h1, h2, h3, h4, h5⟩ := hrd.val
  rcases ao with _ | ad
  · have hcp : cp = 0 := h3 rfl
    subst hcp
    have hbs : bs = [] := List.length_eq_zero_iff.1 (by omega)
    subst hbs
    have hr := run_append_owned_none (P := Tryd.prog) (w := w.alloc (.cells #[] 5)) 0 26 ty 5 i0 1 Tryd.underlying26 hi _ 0 [] h0.row
    exact ⟨w.heap.size, 0, _, hr, Nat.le_refl _, Nat.le_refl _, Nat.zero_le _, h0, hbl⟩
  · have hsp := h4 ad rfl
    obtain ⟨k, o, sp⟩ := ad
    simp only at hsp
    subst hsp
    have hcells : ∀ j (h : j < bs.length), (w.alloc (.cells #[] 5)).cell? ⟨k, o + j, none⟩ = some (bv bs[j]) := fun j hj => by
      obtain ⟨ad, e, hc⟩ := h5 j hj
      cases e
      exact (Tch.alloc (fun _ => False) w _).cell hc id
    obtain ⟨v', w', hr, ho, hg, hblk, hnil⟩ := run_append_Own (P := Tryd.prog) (w.alloc (.cells #[] 5)) (fun k => w.heap.size ≤ k) 26 ty 5 i0 (.int .u8 0) 1 1 Tryd.underlying26 hi hz0 hz1 hz2 rfl (by decide) _ 0 [] h0 ⟨k, o, none⟩ bs.length cp (bvs bs) (by simp) (Rd.news hcells) (bvs_one bs) (by unfold maxLen; omega) (by omega) (fun k hk => by simp at hk; omega)
    rw [Nat.zero_add, List.nil_append] at ho
    rcases ho.row.2 with ⟨e, _⟩ | ⟨g, cap, cur, e, _, hgg, hc, hm, _⟩
    · rw [hnil] at e; simp at e
    · subst e
      refine ⟨g, cap, w', hr, ho.mem g rfl, hc, by unfold maxLen at hm; omega, ho, ?_⟩
      refine hbl.trans ?_
      have ht := Tch.grown (F := fun k => w.heap.size ≤ k) hg (fun k e => by simp [Value.ownBlock] at e; omega)
      exact ht.below (by simp) (fun k hk h => by omega)
end Go.Proofs.YteildpeogbenbaaDoor
