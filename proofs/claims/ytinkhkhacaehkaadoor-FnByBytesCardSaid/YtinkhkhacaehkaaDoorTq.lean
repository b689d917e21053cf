/- 'FnByBytes': also byte by byte. -/
import Derived.Test.YtinkhkhacaehkaaDoorCards
import Derived.Test.YtinkhkhacaehkaaDoorTie
import Derived.Test.YtinkhkhacaehkaaDoorVe
import Derived.Test.YtinkhkhacaehkaaDoorQt
import Derived.WalkKit
import Derived.ProofKit
import Derived.OpenShut
import Derived.Deep.DeepHandedRow
import Derived.Deep.DeepWitnessRowRef
namespace Go.Proofs.YtinkhkhacaehkaaDoor
open Go.RowKit Go.Tw Go.Sort
set_option maxRecDepth 100000

theorem info_bs : (Tryd.prog.info? 24).map (fun i => (i.zero, i.size, i.bytes)) = some (some (.slice none 0 0), 1, 24) := by kernel_rfl
/-- The slices of one byte each. -/
def ones (k0 o0 cp : Nat) (j : Nat) : List Value := (List.range j).map fun i => .slice (some ⟨k0, o0 + i, none⟩) 1 (cp - i)
theorem run_append_bs {F : Nat → Prop} {w : World} {v : Value} {n : Nat} {xs : List Value} (hF : ∀ k, w.heap.size ≤ k → F k) (h : Own F w 24 1 v n xs) (u : Value) (hu : u.oneCell' = true) (hn : n ≤ 1000000000) (ty : TypeId) :
    ∃ v' w', (Builtin.append_ #[26, 26] ty #[v, .slice (some ⟨w.heap.size, 0, none⟩) 1 1]).run Tryd.prog (w.alloc (.cells #[u] 24)) = .ok v' w' ∧ Own F w' 24 1 v' (n + 1) (xs ++ [u]) ∧ Tch F w w' := by
  obtain ⟨i0, hi, hz0, hz1, hz2⟩ := info_parts info_bs
  have h0 := h.kept (Tch.alloc (fun _ => False) w (.cells #[u] 24)) (fun _ _ => id)
  obtain ⟨v', w', hr, ho, hg, hblk, _⟩ := run_append_Own (P := Tryd.prog) (w.alloc (.cells #[u] 24)) F 26 ty 24 i0 (.slice none 0 0) 1 24 Tryd.underlying26 hi hz0 hz1 hz2 rfl (by decide) v n xs h0 ⟨w.heap.size, 0, none⟩ 1 1 [u] rfl (fun j x hj => by
      match j, hj with
      | 0, hj => simp at hj; subst hj; exact cell_of_blk (heap_alloc_new w _) 0) (by simpa using hu) (by unfold maxLen; omega) (by omega) (fun k hk => hF k (by simp at hk; omega))
  exact ⟨v', w', hr, ho, (Tch.alloc F w _).trans (Tch.grown hg (fun k e => h.mem k e))⟩
theorem flatten_ones (s : List UInt8) : (s.map fun b => [b]).flatten = s := by
  induction s with
  | nil => rfl
  | cons b s ih => simp only [List.map_cons, List.flatten_cons, ih]; rfl
theorem Wrs.ofOnes {F : Nat → Prop} {w : World} {v : Value} {k0 o0 n cp : Nat} {s : List UInt8} (h : Own F w 24 1 v s.length (ones k0 o0 cp s.length)) (hr : Rd w (.slice (some ⟨k0, o0, none⟩) n cp) s) : Wrs w v (s.map fun b => [b]) := by
  obtain ⟨ao', cp', e, g1, g2, _, _, g5⟩ := hr.val
  simp only [Value.slice.injEq] at e
  obtain ⟨rfl, rfl, rfl⟩ := e
  unfold maxLen at g2
  rcases h.row.2 with ⟨rfl, hn⟩ | ⟨g, cap, cur, rfl, _, hg, hc, hm, hs, ht⟩
  · exact ⟨none, 0, by simp [hn], by simp; omega, fun j hj => by simp at hj; omega⟩
  · refine ⟨some ⟨g, 0, none⟩, cap, by simp, by simp; omega, fun j hj => ?_⟩
    have hj2 : j < s.length := by simpa using hj
    refine ⟨_, .slice (some ⟨k0, o0 + j, none⟩) 1 (cp - j), rfl, rfl, ?_, .inl ?_⟩
    · simp only [World.cell?, hg, Nat.zero_add]
      have h2 : (ones k0 o0 cp s.length)[j]? = some (.slice (some ⟨k0, o0 + j, none⟩) 1 (cp - j)) := by simp [ones, hj2]
      rw [← ht, List.getElem?_take, if_pos (by omega)] at h2
      simpa using h2
    · rw [List.getElem_map]
      refine Rd.mk' (bs := [s[j]]) (by simp; omega) (by unfold maxLen; omega) (fun i hi => ?_)
      have hi0 : i = 0 := by simp at hi; omega
      subst hi0
      obtain ⟨ad, e, hc⟩ := g5 j hj2
      cases e
      simpa using hc
def ByRel (w2 : World) (k0 o0 cp n : Nat) (t5 t17 : Value) (wr : World) : Prop :=
  ∃ (j : Nat) (v5 : Value), v5 = t5 ∧ j ≤ n ∧ t17 = .int .i64 j ∧ Own (New w2) wr 24 1 v5 j (ones k0 o0 cp j) ∧ Tch (New w2) w2 wr

set_option maxHeartbeats 4000000 in
theorem byBytes_calls (w : World) (mn tb pd fl : Int) (ch : UInt8) {v : Value} {s : List UInt8} (h : Rd w v s) (hT : Lib.Utf8Tabs 0 1 w) :
    Calls Tryd.prog 3 #[.agg #[.int .i64 mn, .int .i64 tb, .int .i64 pd, .int .u8 ch.toNat, .int .i64 fl], v] w fun e w' => e = .returned (.bool true) ∧ Below w.heap.size w w' := by
  have L0 := Lib.hid (LS.start (mn := mn) (tb := tb) (pd := pd) (ch := ch) (fl := fl) h)
  have HT := Lib.hid hT
  obtain ⟨ao, cp, rfl, g1, g2⟩ := L0.out.shape
  obtain ⟨d0, d1, d2, d3, d4⟩ := L0.out.cells
  clear h hT
  by_cases hl : s.length ≤ 2147483647
  rotate_left
  · go_enter Tryd.func3, Tryd.ntmps3
    go_wp2_with fail
    go_ret
    exact ⟨rfl, L0.out.bel⟩
  go_enter Tryd.func3, Tryd.ntmps3
  go_wp2_with fail
  refine (spaces_calls _ mn tb pd fl ch L0.out.rd (Utf8Tabs_below HT.out L0.out.bel)).mono ?_
  rintro e w1 ⟨b, rfl, hb1, hfact⟩
  have L1 := Lib.hid (L0.out.step hb1)
  have HFA := Lib.hid hfact
  clear hb1 L0 d0 d1 d2 d3 d4 hfact
  cases b
  · go_wp2_with fail
    go_ret
    exact ⟨rfl, L1.out.bel⟩
  obtain ⟨m, t, p, f, rfl, rfl, rfl, rfl, l1, l2, l3, l4, hs, -⟩ := HFA.out rfl
  clear HFA
  obtain ⟨ao2, cp2, e2, -, -, -, q4, q5⟩ := L1.out.rd.val
  simp only [Value.slice.injEq] at e2
  obtain ⟨rfl, -, rfl⟩ := e2
  have Q4 := Lib.hid q4
  have Q5 := Lib.hid (show ∀ j, j < s.length → ∃ ad, ao = some ad from fun j hj => by obtain ⟨ad, e, _⟩ := q5 j hj; exact ⟨ad, e⟩)
  clear q4 q5
  obtain ⟨k0, o0, hk⟩ : ∃ k0 o0, 0 < s.length → ao = some ⟨k0, o0, none⟩ := by
    by_cases h0 : 0 < s.length
    · obtain ⟨ad, rfl⟩ := Q5.out 0 h0
      have := Q4.out ad rfl
      obtain ⟨k, o, sp⟩ := ad
      simp only at this
      subst this
      exact ⟨k, o, fun _ => rfl⟩
    · exact ⟨0, 0, fun h => absurd h h0⟩
  have HK := Lib.hid hk
  clear hk
  go_wp2_with fail
  go_loopw [5, 17] (fun t5 t17 wr => ByRel w1 k0 o0 cp s.length t5 t17 wr) (fun _ t17 _ => s.length - (intOf t17).toNat)
  case atStart => exact ⟨0, _, rfl, Nat.zero_le _, rfl, Own.nil _ _ _ _, Tch.refl _ _⟩
  case round =>
    obtain ⟨j, v5, rfl, hj, rfl, hown, tt⟩ := hrel
    by_cases hlt : j < s.length
    · obtain rfl := HK.out (by omega)
      have hcj : ¬ cp = j := by omega
      have hjc : j + 1 ≤ cp := by omega
      obtain ⟨v6, w6, hrun, ho6, ht6⟩ := run_append_bs (fun k hk => Nat.le_trans tt.size hk) hown (.slice (some ⟨k0, o0 + j, none⟩) 1 (cp - j)) rfl (by omega) 26
      have HRUN := Lib.hid hrun
      have HO6 := Lib.hid ho6
      have T6 := Lib.hid (tt.trans ht6)
      clear hrun ho6 ht6 hown tt
      go_wp2_with (at_builtin; refine wpList_append_eq rfl (.tmp 20) (.tmp 26) 26 rfl rfl rfl HRUN.out ?_)
      go_roundw
      case rel =>
        have R : ByRel w1 k0 o0 cp s.length v6 (.int .i64 ((j : Int) + 1)) w6 := ⟨j + 1, _, rfl, by omega, by go_num, by rw [show ones k0 o0 cp (j + 1) = ones k0 o0 cp j ++ [.slice (some ⟨k0, o0 + j, none⟩) 1 (cp - j)] by unfold ones; rw [List.range_succ, List.map_append]; rfl]; exact HO6.out, T6.out⟩
        first | exact R | ((repeat apply Exists.intro); exact ⟨R, rfl⟩)
      case measure => simp [intOf]; omega
    · obtain rfl : j = s.length := by omega
      have L2 := Lib.hid (L1.out.step (New.below tt))
      have hw : Wrs wr v5 (s.map fun b => [b]) := by
        by_cases h0 : 0 < s.length
        · obtain rfl := HK.out h0
          exact Wrs.ofOnes hown L2.out.rd
        · have hnil : s = [] := List.length_eq_zero_iff.1 (by omega)
          obtain ⟨a, c, e⟩ := hown.shape
          have hx : (s.map fun b => [b]).length = s.length := by simp
          exact ⟨a, c, by rw [hx]; exact e, by rw [hx]; omega, fun j hj => by rw [hx] at hj; omega⟩
      obtain ⟨a5, c5, rfl⟩ := hown.shape
      have HWR := Lib.hid hw
      clear hown tt hw L1
      obtain ⟨d0, d1, d2, d3, d4⟩ := L2.out.cells
      have HW := Lib.hid (write_many wr m t p f l4 ch (flatten_ones s).symm HWR.out (by omega) l1 l2 l3)
      go_wp2_with fail
      refine HW.out.mono ?_
      rintro e w4 ⟨v4, rfl, hr4, hb4⟩
      have L4 := Lib.hid (L2.out.step hb4)
      obtain ⟨fo, hfo⟩ : ∃ fo, fo = formatO (cfgOf m t p f ch) s := ⟨_, rfl⟩
      rw [← hfo] at hr4
      have HFO := Lib.hid hfo
      have HX := Lib.hid hr4
      obtain ⟨a4, c4, rfl, -, q4, -⟩ := hr4.val
      unfold maxLen at q4
      clear hb4 hr4 L2 HW hfo d0 d1 d2 d3 d4
      obtain ⟨d0, d1, d2, d3, d4⟩ := L4.out.cells
      have HW := Lib.hid (write_one w4 m t p f l4 ch L4.out.rd (by omega) l1 l2 l3)
      go_wp2_with fail
      refine HW.out.mono ?_
      rintro e w6 ⟨v6, rfl, hr6, hb6⟩
      rw [← HFO.out] at hr6
      have L6 := Lib.hid (L4.out.step hb6)
      have hSm := same_calls w6 (HX.out.below hb6) hr6
      rw [decide_eq_true rfl] at hSm
      have HSM := Lib.hid hSm
      clear hb6 hr6 L4 HW hSm d0 d1 d2 d3 d4
      go_wp2_with fail
      refine HSM.out.mono ?_
      rintro e w7 ⟨rfl, rfl⟩
      clear HSM
      obtain ⟨d0, d1, d2, d3, d4⟩ := L6.out.cells
      go_wp2_with fail
      refine (format_calls w6 m t p f l4 ch L6.out.rd hs l1 l2 l3).mono ?_
      rintro e w8 ⟨v8, rfl, hr8, hb8⟩
      rw [← HFO.out] at hr8
      have L8 := Lib.hid (L6.out.step hb8)
      obtain ⟨a8, c8, rfl, -⟩ := hr8.val
      clear hb8 hr8 d0 d1 d2 d3 d4
      go_wp2_with fail
      go_ret
      exact ⟨rfl, L8.out.bel⟩
end Go.Proofs.YtinkhkhacaehkaaDoor

namespace Go.Proofs.YtinkhkhacaehkaaDoor.fnByBytes
open Go.ChangeShapes Go.WideShapes Go.ChangeAt Go.RowKit
set_option maxRecDepth 100000

theorem own : ownKnob Tryd.prog.godebug = none := by kernel_rfl

theorem contract (H : Type) (enc : TypeId × Value → H) (W : World) (base : Nat) (args : Array Value) (ds gs : List (DataW H)) (before : List MemPlace)
    (hval : ∀ (j : Nat) t v, Tryd.f3.params[j]? = some t → args[j]? = some v → Value.okWide Tryd.prog W .any base t v)
    (hW : DataW.Whole enc Tryd.prog Tryd.f3.params.toList Rows.fnByBytesSpec.vars false W args.toList ds gs before)
    (hL : laidMetH Tryd.prog Rows.fnByBytesRow.laid W) :
    Calls Tryd.prog 3 args W fun e W' => ∃ v, e = .returned v ∧ Rows.fnByBytesSpec.post enc Tryd.prog Tryd.f3 false true false false W args v W' := by
  have hW' := hW
  obtain ⟨p, q, hA0, hV, rfl, hfz, hnd⟩ := hW
  have hA : DataW.TrodAll enc Tryd.prog W 0 (fun _ => true) true Tryd.f3.params.toList args.toList ds p := hA0
  rw [Tryd.params3] at hA hval
  obtain ⟨v0, vs0, d0, ds0, p0, q0, hargs, rfl, rfl, h0, r0⟩ := trodAll_cons hA
  obtain ⟨v1, vs1, d1, ds1, p1, q1, rfl, rfl, rfl, h1, r1⟩ := trodAll_cons r0
  obtain ⟨rfl, rfl, rfl⟩ := trodAll_nil r1
  obtain rfl : args = #[v0, v1] := by cases args; simp_all
  obtain ⟨mn0, tb0, pd0, fl0, ch0, rfl⟩ := open_conf (hval 0 _ _ rfl rfl)
  obtain ⟨bs1, hrd1⟩ := open_rd (hval 1 _ _ rfl rfl) h1
  refine (byBytes_calls W mn0 tb0 pd0 fl0 ch0 hrd1 (tabs_of hL)).mono fun e W' ⟨he, hb⟩ => ?_
  subst he
  refine ⟨_, rfl, law_post rfl ?_ (by kernel_rfl) ?_ hW' hb⟩
  · intro ds hds
    match ds, hds with
    | [a, b], _ => rfl
  · rw [Tryd.params3]
    intro t ht
    simp at ht
    rcases ht with rfl | rfl <;> exact of_decide_eq_true (by kernel_rfl)

theorem laid_met (os : Os) : laidMet Tryd.prog Rows.fnByBytesRow.laid ((laidWorld os).forCall (fun _ _ => 0) ⟨#[], #[conf0, .slice none 0 0], []⟩).memory :=
  laidMet_of_run' 8 (by kernel_rfl) (by kernel_rfl)
theorem reads (os : Os) {H : Type} (enc : TypeId × Value → H) : ∃ places, DataW.whole enc Tryd.prog ((laidWorld os).forCall (fun _ _ => 0) ⟨#[], #[conf0, .slice none 0 0], []⟩).memory Tryd.f3.params.toList Rows.fnByBytesSpec.vars false (#[conf0, .slice none 0 0] : Array Value).toList 8 = some ([.agg [.lit (.int .i64 0), .lit (.int .i64 0), .lit (.int .i64 0), .lit (.int .u8 0), .lit (.int .i64 0)], .nil], [], places) :=
  ⟨[], by kernel_rfl⟩

set_option maxRecDepth 100000 in
theorem lifted (os : Os) (started : os.Started) (H : Type) (enc : TypeId × Value → H) (F : Stop.Interp) :
    ReturnsInHanded {} Tryd.checked os 3 .any ((OpenSpec.ofChange Rows.fnByBytesSpec).preRow enc Tryd.prog Tryd.f3 Rows.fnByBytesRow.domain false Rows.fnByBytesRow.laid) (((OpenSpec.ofChange Rows.fnByBytesSpec).at F).post enc Tryd.prog Tryd.f3 false true false false) := by
  obtain ⟨places, hx⟩ := reads os enc
  refine returnsInHanded_of_row (C := Tryd.checked) (s := OpenSpec.ofChange Rows.fnByBytesSpec) own started (by kernel_rfl) Tryd.func3
    (witness_row_at (enc := enc) (C := Tryd.checked) false (laidWorld os) #[conf0, .slice none 0 0] rfl (by kernel_rfl) (by kernel_rfl) (by kernel_rfl)
      (OpenSpec.preRow_of_cond 8 hx (by kernel_rfl) (fun k hk => by cases hk) (by kernel_rfl) (laid_met os))) ?_
  intro W base args ds gs before hval hW _ _ _ hL _ _
  exact contract H enc W base args ds gs before hval hW hL

theorem said : Rows.FnByBytesSaid :=
  OpenClaim.holds_of_cond 3 Tryd.f3 rfl rfl rfl rfl rfl rfl rfl ⟨rfl, rfl, rfl, rfl, rfl⟩ rfl rfl rfl rfl rfl (by kernel_rfl) Tryd.func3 (by kernel_rfl)
    (of_decide_eq_true (by kernel_rfl)) (by unfold Func.isWrapper; first | (rw [if_pos (by decide +kernel)]; kernel_rfl) | (rw [if_neg (by decide +kernel)]; exact ⟨rfl, rfl⟩))
    (fun os started H enc _ F => by rw [OpenClaim.pre_eq_preRow]; exact lifted os started H enc F)

theorem plain (f : FuncId) (fn : Func) (hf : Tryd.pinned.checked.prog.funcNamed "loop.example/pub-tabcolumns/laws.FnByBytes" = some f) (hfn : Tryd.pinned.checked.prog.funcs[f]? = some fn) :
    true = Tryd.pinned.checked.prog.looks [] ∧ ∀ (j : Nat) t, fn.params[j]? = some t → Tryd.pinned.checked.prog.wantsStandIn t = false := by
  obtain rfl : f = 3 := Option.some.inj ((show Tryd.prog.funcNamed "loop.example/pub-tabcolumns/laws.FnByBytes" = some 3 by kernel_rfl).symm.trans hf) |>.symm
  obtain rfl : fn = Tryd.f3 := (Option.some.inj (Tryd.func3.symm.trans hfn)).symm
  refine ⟨by kernel_rfl, fun j t ht => ?_⟩
  rw [Tryd.params3] at ht
  have hm := Array.mem_of_getElem? ht
  simp at hm
  rcases hm with rfl | rfl
  · exact (show Tryd.prog.wantsStandIn 23 = false by kernel_rfl)
  · exact (show Tryd.prog.wantsStandIn 24 = false by kernel_rfl)

theorem card : Rows.FnByBytesCardSaid :=
  Claim7.holds_tied_plain_at .later [] _ _ _ _ said (fun _ h => by cases h) (by kernel_rfl) (fun _ h => by cases h) fnByBytes_row_tie rfl ⟨rfl, rfl⟩ (by kernel_rfl) rfl plain (by kernel_rfl)
end Go.Proofs.YtinkhkhacaehkaaDoor.fnByBytes

namespace Go.Proofs.YtinkhkhacaehkaaDoor
theorem fnByBytes_card : Rows.FnByBytesCardSaid := fnByBytes.card
#print axioms fnByBytes_card
end Go.Proofs.YtinkhkhacaehkaaDoor
