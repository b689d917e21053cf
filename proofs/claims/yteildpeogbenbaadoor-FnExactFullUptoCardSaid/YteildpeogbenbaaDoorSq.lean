/- Walks: spec.Joined. -/
import Derived.Test.YteildpeogbenbaaDoorSh
namespace Go.Proofs.YteildpeogbenbaaDoor
open Go.RowKit Go.Tw Go.Sort
set_option maxRecDepth 100000

def JoRel (w : World) (bss : List (List UInt8)) (t3 t8 : Value) (wr : World) : Prop :=
  ∃ (j n : Nat) (pre : List UInt8), j ≤ bss.length ∧ t8 = .int .i64 j ∧ pre = (bss.take j).flatten ∧ n = pre.length ∧ Own (New w) wr 5 1 t3 n (bvs pre) ∧ Tch (New w) w wr

set_option maxHeartbeats 1000000 in
theorem joined_calls (w : World) {v : Value} {bss : List (List UInt8)} (h : Wrs w v bss) (hl : bss.flatten.length ≤ 1000000000000) :
    Calls Tryd.prog 5 #[v] w (RdPost w bss.flatten) := by
  obtain ⟨ao, cp, rfl, hbl, hcells⟩ := h.val
  have HC := Lib.hid hcells
  clear hcells h
  go_enter Tryd.func5, Tryd.ntmps5
  go_wp2_with fail
  go_loopw [3, 8] (fun t3 t8 wr => JoRel w bss t3 t8 wr) (fun _ t8 _ => bss.length - (intOf t8).toNat)
  case atStart => exact ⟨0, 0, [], Nat.zero_le _, rfl, rfl, rfl, Own.nil _ _ _ _, Tch.refl _ _⟩
  case round =>
    obtain ⟨j, n, pre, hj, rfl, hpre, rfl, hown, tt⟩ := hrel
    have HPRE := Lib.hid hpre
    have hfl := take_flatten_le (bss := bss) j
    rw [← hpre] at hfl
    clear hpre
    by_cases hlt : j < bss.length
    · obtain ⟨ad, u, rfl, hsp, hcu, hru⟩ := HC.out j hlt
      obtain ⟨k0, o0, sp0⟩ := ad
      simp only at hsp hcu
      subst hsp
      have hcu2 : wr.cell? ⟨k0, o0 + j, none⟩ = some u := tt.cell hcu (by have := block_lt_of_cell hcu; show ¬ w.heap.size ≤ k0; simp at this; omega)
      have hru2 : Rw wr u bss[j] := hru.below (New.below tt)
      obtain ⟨au, cu, rfl⟩ : ∃ au cu, u = .slice au bss[j].length cu := hru.shape
      have hf2 : pre.length + bss[j].length ≤ 1000000000000 := by
        have h1 := take_flatten_le (bss := bss) (j + 1)
        rw [take_flatten hlt, List.length_append, ← HPRE.out] at h1
        omega
      obtain ⟨v', w', hrun, ho, ht, -⟩ := run_append_rw (F := New w) (fun k hk => Nat.le_trans tt.size hk) hown hru2 (by omega) 26
      have T2 := Lib.hid (tt.trans (ht.mono (fun g e => hown.mem g e)))
      have HRUN := Lib.hid hrun
      have HO := Lib.hid ho
      have HF2 := Lib.hid (take_flatten hlt)
      clear hcu hru hru2 hrun ho ht hown tt
      go_wp2_with (at_builtin; refine wpList_append_eq rfl (.tmp 12) (.tmp 13) 26 rfl rfl rfl HRUN.out ?_)
      go_roundw
      case rel =>
        have R : JoRel w bss v' (.int .i64 ((j : Int) + 1)) w' := ⟨j + 1, _, pre ++ bss[j], by omega, by go_num, by rw [HF2.out, HPRE.out], by rw [List.length_append], HO.out, T2.out⟩
        first | exact R | ((repeat apply Exists.intro); exact ⟨R, rfl⟩)
      case measure => simp [intOf]; omega
    · obtain rfl : j = bss.length := by omega
      have HO := Lib.hid hown
      have T := Lib.hid tt
      clear hown tt hlt hj
      go_wp2_with fail
      go_ret
      refine ⟨_, rfl, ?_, New.below T.out⟩
      have := HPRE.out
      rw [List.take_length] at this
      rw [← this]
      exact Own.rd HO.out
end Go.Proofs.YteildpeogbenbaaDoor
