/- Walks: spec.Bars; flags that have one. -/
import Derived.Test.YthcjaegnnfiboaaDoorLs
namespace Go.Proofs.YthcjaegnnfiboaaDoor
open Go.RowKit Go.Tw Go.Sort
set_option maxRecDepth 100000

theorem or_bit (x k : Int) (i : Nat) (hk : (BitVec.ofInt 64 k).getLsbD i = true) (f : Nat) (hf : f < 64) (h : bits BinOp.or IntKind.i64 x k = (f : Int)) : f.testBit i = true := by
  have e : bits BinOp.or IntKind.i64 x k = IntKind.i64.wrap ((BitVec.ofInt 64 x ||| BitVec.ofInt 64 k).toNat : Int) := rfl
  have hb : ((BitVec.ofInt 64 x ||| BitVec.ofInt 64 k).toNat).testBit i = true := by
    rw [BitVec.testBit_toNat, BitVec.getLsbD_or]
    simp [hk]
  have hn := (BitVec.ofInt 64 x ||| BitVec.ofInt 64 k).isLt
  rw [e, wrap64_eq'] at h
  generalize (BitVec.ofInt 64 x ||| BitVec.ofInt 64 k).toNat = n at *
  have hv : n = f := by split at h <;> omega
  rwa [hv] at hb
theorem wfl_range (x k : Int) (yes : Bool) : -9223372036854775808 ≤ wfl x k yes ∧ wfl x k yes ≤ 9223372036854775807 := by
  have key : ∀ n : Nat, n < 18446744073709551616 → -9223372036854775808 ≤ IntKind.i64.wrap (n : Int) ∧ IntKind.i64.wrap (n : Int) ≤ 9223372036854775807 := by
    intro n hn
    rw [wrap64_eq']
    split <;> omega
  unfold wfl
  split
  · exact key _ (BitVec.ofInt 64 (bits BinOp.andNot IntKind.i64 x k) ||| BitVec.ofInt 64 k).isLt
  · exact key _ (BitVec.ofInt 64 x &&& ~~~ BitVec.ofInt 64 k).isLt
/-- A flag that is set is there. -/
theorem or_flag32 (x : Int) (f : Fin 64) (h : wfl x 32 true = (f.val : Int)) : (bits BinOp.and IntKind.i64 ((f.val : Nat) : Int) 32 != 0) = true := by
  have h1 := or_bit (bits BinOp.andNot IntKind.i64 x 32) 32 5 (by decide) f.val f.isLt h
  clear h
  revert h1
  revert f
  decide

theorem barsG_le : ∀ (s pre : List UInt8), (barsG pre s).length ≤ s.length := by
  intro s
  induction s with
  | nil => intro pre; simp [barsG]
  | cons b t ih =>
    intro pre
    rw [barsG]
    split
    · have := ih (pre ++ [b]); simp only [List.length_cons]; omega
    · have := ih (pre ++ [b]); simp only [List.length_cons]; omega
theorem Ns.at' {w : World} {n cp : Nat} {ao : Option Addr} {ns : List Nat} (h : Ns w (.slice ao n cp) ns) {j x : Nat} (hj : ns[j]? = some x) : ∃ k o, ao = some ⟨k, o, none⟩ ∧ w.cell? ⟨k, o + j, none⟩ = some (.int .i64 (x : Nat)) := by
  obtain ⟨ao', cp', e, _, h2⟩ := h.val
  simp only [Value.slice.injEq] at e
  obtain ⟨rfl, _, _⟩ := e
  obtain ⟨hl, hx⟩ := List.getElem?_eq_some_iff.1 hj
  obtain ⟨⟨k, o, sp⟩, rfl, hs, hc⟩ := h2 j hl
  simp only at hs
  subst hs
  exact ⟨k, o, rfl, by rw [← hx]; exact hc⟩
def BaRel (w : World) (s : List UInt8) (t3 t8 : Value) (wr : World) : Prop :=
  ∃ (i : Nat) (v3 : Value) (done : List Nat), v3 = t3 ∧ i ≤ s.length ∧ t8 = .int .i64 i ∧ done ++ barsG (s.take i) (s.drop i) = barsG [] s ∧ done.length ≤ i ∧ Own (New w) wr 3 1 v3 done.length (nvs done) ∧ Tch (New w) w wr
set_option maxHeartbeats 4000000 in
theorem bars_calls (w : World) {v : Value} {s : List UInt8} (h : Rd w v s) (hl : s.length ≤ 200000000000) : Calls Tryd.prog 26 #[v] w (NsPost w (barsG [] s)) := by
  have HR := Lib.hid h
  obtain ⟨ao, cp, rfl, h1, h2, h3, h4, h5⟩ := h.val
  unfold maxLen at h2
  have H4 := Lib.hid h4
  have H5 := Lib.hid h5
  clear h h3 h4 h5
  go_enter Tryd.func26, Tryd.ntmps26
  go_wp2_with fail
  go_loopw [3, 8] (fun t3 t8 wr => BaRel w s t3 t8 wr) (fun _ t8 _ => s.length - (intOf t8).toNat)
  case atStart => exact ⟨0, _, [], rfl, Nat.zero_le _, rfl, by simp, Nat.le_refl _, Own.nil _ _ _ _, Tch.refl _ _⟩
  case round =>
    obtain ⟨i, v3, done, rfl, hi, rfl, hgo, hd, hown, tt⟩ := hrel
    obtain ⟨a3, c3, rfl⟩ := hown.shape
    have HGO := Lib.hid hgo
    have HO := Lib.hid hown
    have T := Lib.hid tt
    clear hgo hown tt
    by_cases hlt : i < s.length
    · obtain ⟨ad, rfl, hce⟩ := H5.out i hlt
      have hsp := H4.out ad rfl
      obtain ⟨k0, o0, sp0⟩ := ad
      simp only at hsp hce
      subst hsp
      have hc2 : wr.cell? ⟨k0, o0 + i, none⟩ = some (.int .u8 s[i].toNat) := T.out.cell hce (by have := block_lt_of_cell hce; unfold New; simpa using this)
      have hdr : s.drop i = s[i] :: s.drop (i + 1) := List.drop_eq_getElem_cons hlt
      have htk : s.take (i + 1) = s.take i ++ [s[i]] := List.take_succ_eq_append_getElem hlt
      clear hce
      generalize s[i] = x at hc2 hdr htk
      have HDR := Lib.hid hdr
      have HTK := Lib.hid htk
      clear hdr htk
      have e124 := u8_eq (b := x) (c := 124) (n := 124) rfl
      by_cases hx : x = 124
      · rw [decide_eq_true hx] at e124
        have HX := Lib.hid hx
        have HRT := Lib.hid (Rd.taken (HR.out.below (New.below T.out)) (k := i) (by omega))
        have htl : (s.take i).length = i := by simp; omega
        have HTL := Lib.hid htl
        clear hx htl
        go_wp2_with fail
        refine (runeCount_calls HRT.out (by rw [HTL.out]; omega)).mono ?_
        rintro e w5 ⟨rfl, hb5⟩
        have t5 : Tch (New w) w w5 := T.out.trans (Tch.of_below hb5)
        have ho5 := HO.out.kept (Tch.of_below (F := fun _ => False) hb5) (fun _ _ => id)
        obtain ⟨v', w', hr, ho', tt'⟩ := run_append_num (fun k hk => Nat.le_trans t5.size hk) ho5 (rc (s.take i)) (by omega) 35
        obtain ⟨a', c', rfl⟩ := ho'.shape
        have HRUN := Lib.hid hr
        have HO2 := Lib.hid ho'
        have T2 := Lib.hid (t5.trans tt')
        clear hr ho' tt' ho5 t5 hb5
        obtain ⟨z, hz⟩ : ∃ z, z = rc (s.take i) := ⟨_, rfl⟩
        rw [← hz] at HRUN HO2 ⊢
        have HZ := Lib.hid hz
        clear hz
        go_wp2_with (at_builtin; refine wpList_append_eq rfl (.tmp 15) (.tmp 20) 35 rfl rfl rfl HRUN.out ?_)
        go_roundw
        case rel =>
          refine ⟨i + 1, _, done ++ [z], rfl, by omega, by go_num, ?_, by simp; omega, ?_, T2.out⟩
          · rw [← HGO.out, HDR.out, HTK.out]
            conv => rhs; rw [barsG, if_pos HX.out]
            rw [HZ.out]
            simp
          · have e : (done ++ [z]).length = done.length + 1 := by simp
            rw [e]
            unfold nvs
            rw [List.map_append]
            exact HO2.out
        case measure => simp [intOf]; omega
      · rw [decide_eq_false hx] at e124
        have HX := Lib.hid hx
        clear hx
        go_wp2_with fail
        go_roundw
        case rel => exact ⟨i + 1, _, done, rfl, by omega, by go_num, by rw [← HGO.out, HDR.out, HTK.out]; conv => rhs; rw [barsG, if_neg HX.out], by omega, HO.out, T.out⟩
        case measure => simp [intOf]; omega
    · obtain rfl : i = s.length := by omega
      have hgo := HGO.out
      rw [List.drop_length] at hgo
      have HE := Lib.hid (show barsG [] s = done by rw [← hgo]; simp [barsG])
      clear hgo
      go_wp2_with fail
      go_ret
      exact ⟨_, rfl, by rw [HE.out]; exact Own.ns HO.out, New.below T.out⟩
end Go.Proofs.YthcjaegnnfiboaaDoor
