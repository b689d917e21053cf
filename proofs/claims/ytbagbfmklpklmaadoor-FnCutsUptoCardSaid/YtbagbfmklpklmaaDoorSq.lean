/- Walks: spec.Joined. -/
import Derived.Test.YtbagbfmklpklmaaDoorSh
namespace Go.Proofs.YtbagbfmklpklmaaDoor
open Go.RowKit Go.Tw Go.Sort
set_option maxRecDepth 100000

theorem run_append_rw {F : Nat → Prop} {w : World} {v : Value} {n : Nat} {xs : List UInt8} (hF : ∀ k, w.heap.size ≤ k → F k) (h : Own F w 5 1 v n (bvs xs)) {x : Value} {bs : List UInt8} (hrw : Rw w x bs) (hb : n + bs.length ≤ 10000000000000) (ty : TypeId) :
    ∃ v' w', (Builtin.append_ #[26, 26] ty #[v, x]).run Tryd.prog w = .ok v' w' ∧ Own F w' 5 1 v' (n + bs.length) (bvs (xs ++ bs)) ∧ Tch (fun k => v.ownBlock = some k) w w' ∧ (∀ g, v'.ownBlock = some g → v.ownBlock = some g ∨ w.heap.size ≤ g) := by
  rcases hrw with hrd | ⟨rfl, ad, cp, rfl, hcp⟩
  · exact run_append_rd hF h hrd hb ty
  · obtain ⟨i0, hi, hz0, hz1, hz2⟩ := info_parts Tryd.info_u8
    obtain ⟨v', w', hr, ho, hg, hblk, hnil⟩ := run_append_Own (P := Tryd.prog) w F 26 ty 5 i0 (.int .u8 0) 1 1 Tryd.underlying26 hi hz0 hz1 hz2 rfl (by decide) _ n _ h ad 0 cp [] (by simp) (fun j u h => by simp at h) (fun u h => by simp at h) (by unfold maxLen; simp at hb; omega) (by simp at hb; omega) hF
    exact ⟨v', w', hr, by simpa using ho, Tch.grown hg (fun k e => e), hblk⟩

def JoRel (w : World) (bss : List (List UInt8)) (t3 t8 : Value) (wr : World) : Prop :=
  ∃ (j n : Nat) (pre : List UInt8), j ≤ bss.length ∧ t8 = .int .i64 j ∧ pre = (bss.take j).flatten ∧ n = pre.length ∧ Own (New w) wr 5 1 t3 n (bvs pre) ∧ Tch (New w) w wr

set_option maxHeartbeats 1000000 in
theorem joined_calls (w : World) {v : Value} {bss : List (List UInt8)} (h : Wrs w v bss) (hl : bss.flatten.length ≤ 1000000000000) :
    Calls Tryd.prog 12 #[v] w (RdPost w bss.flatten) := by
  obtain ⟨ao, cp, rfl, hbl, hcells⟩ := h.val
  have HC := Lib.hid hcells
  clear hcells h
  go_enter Tryd.func12, Tryd.ntmps12
  go_wp2_with fail
  go_loopw [3, 8] (fun t3 t8 wr => JoRel w bss t3 t8 wr) (fun _ t8 _ => bss.length - (intOf t8).toNat)
  case atStart => exact ⟨0, 0, [], Nat.zero_le _, rfl, rfl, rfl, Own.nil _ _ _ _, Tch.refl _ _⟩
  case round =>
    obtain ⟨j, n, pre, hj, rfl, hpre, rfl, hown, tt⟩ := hrel
    have HPRE := Lib.hid hpre
    have hfl := take_flatten_le (bss := bss) j
    rw [← hpre] at hfl
    clear hpre
    by_cases hlt : j < bss.length
    · obtain ⟨ad, u, rfl, hsp, hcu, hru⟩ := HC.out j hlt
      obtain ⟨k0, o0, sp0⟩ := ad
      simp only at hsp hcu
      subst hsp
      have hcu2 : wr.cell? ⟨k0, o0 + j, none⟩ = some u := tt.cell hcu (by have := block_lt_of_cell hcu; show ¬ w.heap.size ≤ k0; simp at this; omega)
      have hru2 : Rw wr u bss[j] := hru.below (New.below tt)
      obtain ⟨au, cu, rfl⟩ : ∃ au cu, u = .slice au bss[j].length cu := hru.shape
      have hf2 : pre.length + bss[j].length ≤ 1000000000000 := by
        have h1 := take_flatten_le (bss := bss) (j + 1)
        rw [take_flatten hlt, List.length_append, ← HPRE.out] at h1
        omega
      obtain ⟨v', w', hrun, ho, ht, -⟩ := run_append_rw (F := New w) (fun k hk => Nat.le_trans tt.size hk) hown hru2 (by omega) 26
      have T2 := Lib.hid (tt.trans (ht.mono (fun g e => hown.mem g e)))
      have HRUN := Lib.hid hrun
      have HO := Lib.hid ho
      have HF2 := Lib.hid (take_flatten hlt)
      clear hcu hru hru2 hrun ho ht hown tt
      go_wp2_with (at_builtin; refine wpList_append_eq rfl (.tmp 12) (.tmp 13) 26 rfl rfl rfl HRUN.out ?_)
      go_roundw
      case rel =>
        have R : JoRel w bss v' (.int .i64 ((j : Int) + 1)) w' := ⟨j + 1, _, pre ++ bss[j], by omega, by go_num, by rw [HF2.out, HPRE.out], by rw [List.length_append], HO.out, T2.out⟩
        first | exact R | ((repeat apply Exists.intro); exact ⟨R, rfl⟩)
      case measure => simp [intOf]; omega
    · obtain rfl : j = bss.length := by omega
      have HO := Lib.hid hown
      have T := Lib.hid tt
      clear hown tt hlt hj
      go_wp2_with fail
      go_ret
      refine ⟨_, rfl, ?_, New.below T.out⟩
      have := HPRE.out
      rw [List.take_length] at this
      rw [← this]
      exact Own.rd HO.out
end Go.Proofs.YtbagbfmklpklmaaDoor
