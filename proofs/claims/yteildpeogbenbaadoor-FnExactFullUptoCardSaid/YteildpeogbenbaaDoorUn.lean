/- 'FnExactFull': an output that takes no more gets the first bytes, and its error is told. Condition: what the law reads (the set-up, the writes with their bytes, the room, the error's variable) is of bulk at most 1048576. -/
import Derived.Test.YteildpeogbenbaaDoorCards
import Derived.Test.YteildpeogbenbaaDoorTie
import Derived.Test.YteildpeogbenbaaDoorVe
import Derived.Test.YteildpeogbenbaaDoorQe
import Derived.Test.YteildpeogbenbaaDoorQc
import Derived.Test.YteildpeogbenbaaDoorSq
import Derived.WalkKit
import Derived.ProofKit
import Derived.OpenShut
import Derived.Deep.DeepHandedRow
import Derived.Deep.DeepWitnessRowRef
import Derived.Stop.LaidErr
import Derived.ChangeVars
import Derived.WalkSmall
namespace Go.Proofs.YteildpeogbenbaaDoor
open Go.RowKit Go.Tw Go.Sort
set_option maxRecDepth 100000

theorem out_room (m t p f r : Nat) (ch : UInt8) (s : List UInt8) : outOf (⟨m, t, p, ch, keepFl ch f, r⟩ : Cfg) s = formatO (cfgOf m t p f ch) s :=
  (out_format _ s).trans (format_cells (c := ⟨m, t, p, ch, keepFl ch f, r⟩) (d := cfgOf m t p f ch) ⟨rfl, rfl, rfl, rfl⟩ rfl rfl rfl rfl s (fun _ _ => ⟨rfl, fun _ _ => rfl⟩))
theorem full_many (w : World) (hE : ∃ ea, w.cell? ⟨0, 0, none⟩ = some (.iface 116 (.pointer (some ea)))) (m t p f : Nat) (hf : f < 64) (ch : UInt8) {v : Value} {bss : List (List UInt8)} {s : List UInt8} (hs : s = bss.flatten) (h : Wrs w v bss) (hl : s.length ≤ 2390000) (hm : m ≤ 1000) (ht : t ≤ 1000) (hp : p ≤ 1000) (room : Int) (r : Nat) (hr : (r : Int) = max 0 room) (hrm : r ≤ 9223372036854775807) :
    Calls Tryd.prog 8 #[.agg #[.int .i64 m, .int .i64 t, .int .i64 p, .int .u8 ch.toNat, .int .i64 f], v, .int .i64 room] w (FullPost w (formatO (cfgOf m t p f ch) s) r) := by
  subst hs
  have := implFull_calls hE m t p f ch hm ht hp hf h (by omega) room r hr hrm
  rwa [out_room] at this

set_option maxHeartbeats 4000000 in
theorem exactFull_calls (w : World) (mn tb pd fl : Int) (ch : UInt8) (room : Int) {v : Value} {bss : List (List UInt8)} (h : Wrs w v bss) (hroom : -9223372036854775808 ≤ room ∧ room ≤ 9223372036854775807) (hT : Lib.Utf8Tabs 1 2 w) (hE : ∃ ea, w.cell? ⟨0, 0, none⟩ = some (.iface 116 (.pointer (some ea)))) (hb : bss.flatten.length + bss.length ≤ 1048576) :
    Calls Tryd.prog 3 #[.agg #[.int .i64 mn, .int .i64 tb, .int .i64 pd, .int .u8 ch.toNat, .int .i64 fl], v, .int .i64 room] w fun e w' => e = .returned (.bool true) ∧ Below w.heap.size w w' := by
  have hb0 : Below w.heap.size w (w.alloc (.cells #[.int .i64 mn, .int .i64 tb, .int .i64 pd, .int .u8 ch.toNat, .int .i64 fl] 23)) := (Below.refl _ w).alloc (Nat.le_refl _) _
  have hc0 : (w.alloc (.cells #[.int .i64 mn, .int .i64 tb, .int .i64 pd, .int .u8 ch.toNat, .int .i64 fl] 23)).heap[w.heap.size]? = some (.cells #[.int .i64 mn, .int .i64 tb, .int .i64 pd, .int .u8 ch.toNat, .int .i64 fl] 23 (0, 0)) := heap_alloc_new w _
  have hr0 := h.below hb0
  have HT := Lib.hid hT
  have HE := Lib.hid hE
  obtain ⟨s, hgs⟩ : ∃ s, s = bss.flatten := ⟨_, rfl⟩
  have HGS := Lib.hid hgs
  clear hgs hT hE
  have HB0 := Lib.hid hb0
  have HC0 := Lib.hid hc0
  have HR0 := Lib.hid hr0
  have HFI := Lib.hid (fits_calls _ hr0 (by omega))
  obtain ⟨ao, cp, rfl, hbl, -⟩ := h.val
  clear hb0 hr0 hc0 h
  go_enter Tryd.func3, Tryd.ntmps3
  go_wp2_with fail
  refine HFI.out.mono ?_
  rintro e w1 ⟨rfl, rfl⟩
  clear HFI
  go_wp2_with fail
  refine (joined_calls _ HR0.out (by omega)).mono ?_
  rintro e w2 ⟨v2, rfl, hr2, hb2⟩
  rw [← HGS.out] at hr2
  have HW2 := Lib.hid (HR0.out.below hb2)
  have L2 := Lib.hid (show LS w mn tb pd ch fl v2 s w2 from ⟨(Tch.of_below (F := fun _ => False) hb2).heap HC0.out id, hr2, HB0.out.trans (hb2.mono HB0.out.size)⟩)
  obtain ⟨a2, p2, rfl, -⟩ := hr2.val
  clear hr2 hb2 HB0 HC0 HR0
  obtain ⟨d0, d1, d2, d3, d4⟩ := L2.out.cells
  go_wp2_with fail
  refine (spaces_calls _ mn tb pd fl ch L2.out.rd (Utf8Tabs_below HT.out L2.out.bel)).mono ?_
  rintro e w1 ⟨b, rfl, hb1, hfact⟩
  have L1 := Lib.hid (L2.out.step hb1)
  have HW1 := Lib.hid (HW2.out.below hb1)
  have HFA := Lib.hid hfact
  clear hb1 L2 HW2 d0 d1 d2 d3 d4 hfact
  cases b
  · go_wp2_with fail
    go_ret
    exact ⟨rfl, L1.out.bel⟩
  obtain ⟨m, t, p, f, rfl, rfl, rfl, rfl, l1, l2, l3, l4, hs, -⟩ := HFA.out rfl
  obtain ⟨d0, d1, d2, d3, d4⟩ := L1.out.cells
  clear HFA
  go_wp2_with fail
  refine (format_calls w1 m t p f l4 ch L1.out.rd hs l1 l2 l3).mono ?_
  rintro e w6 ⟨v6, rfl, hr6, hb6⟩
  have L6 := Lib.hid (L1.out.step hb6)
  have HW6 := Lib.hid (HW1.out.below hb6)
  clear d0 d1 d2 d3 d4
  obtain ⟨d0, d1, d2, d3, d4⟩ := L6.out.cells
  have hE6 : ∃ ea, w6.cell? ⟨0, 0, none⟩ = some (.iface 116 (.pointer (some ea))) := by
    obtain ⟨ea, he⟩ := HE.out
    exact ⟨ea, (L6.out.bel.cell (p := ⟨0, 0, none⟩) (block_lt_of_cell he)).trans he⟩
  obtain ⟨r, hr⟩ : ∃ r : Nat, (r : Int) = max 0 room := ⟨room.toNat, by omega⟩
  have HFU := Lib.hid (full_many w6 hE6 m t p f l4 ch HGS.out HW6.out (by omega) l1 l2 l3 room r hr (by omega))
  revert HFU hr6
  generalize formatO (cfgOf m t p f ch) s = O
  intro hr6 HFU
  have hOl := hr6.le
  obtain ⟨a6, c6, rfl, hc61, hc62, -⟩ := hr6.val
  obtain ⟨n, hn⟩ : ∃ n, n = min r O.length := ⟨_, rfl⟩
  have hrn := hr6.taken (k := n) (by omega)
  have HRN := Lib.hid hrn
  clear hr6 hrn hE6 HE HT
  go_wp2_with fail
  refine HFU.out.mono ?_
  rintro e w7 ⟨v7, rfl, hr7, hb7⟩
  have hO : O.take r = O.take n := by
    rw [hn]
    rcases Nat.le_total r O.length with h | h
    · rw [Nat.min_eq_left h]
    · rw [Nat.min_eq_right h, List.take_of_length_le h, List.take_of_length_le (Nat.le_refl _)]
  rw [hO] at hr7
  have hnl : (O.take n).length = n := by simp; omega
  have hSm := same_calls w7 hr7 (HRN.out.below hb7)
  rw [decide_eq_true rfl] at hSm
  have HSM := Lib.hid hSm
  have L7 := Lib.hid (L6.out.step hb7)
  have hmx : max (0 : Int) (min room (O.length : Int)) = (n : Int) := by omega
  have hnc : (n : Int) ≤ (c6 : Int) := by omega
  unfold maxLen at hc62
  have x1 : (if c6 = 0 then a6 else Option.map (fun x => x.add 0) a6) = a6 := by cases a6 <;> simp [Addr.add]
  obtain ⟨bb, hbb⟩ : ∃ bb, decide (r < O.length) = bb := ⟨_, rfl⟩
  have hbn : decide (n < O.length) = bb := by rw [← hbb]; congr 1; rw [eq_iff_iff]; omega
  rw [hbb]
  have HBB := Lib.hid hbb
  have HN := Lib.hid hn
  have HR := Lib.hid hr
  clear hSm hr7 hb7 hO hnl hbb hn hr HRN d0 d1 d2 d3 d4 HFU HW6 L6 hb6
  go_wp2_with fail
  refine HSM.out.mono ?_
  rintro e w8 ⟨rfl, rfl⟩
  go_wp2_with fail
  go_ret
  exact ⟨by simp, L7.out.bel⟩

theorem open_num {r : Reach} {b0 : Nat} {W : World} {v : Value} (hv : Value.okWide Tryd.prog W r b0 3 v) : ∃ n : Int, (-9223372036854775808 ≤ n ∧ n ≤ 9223372036854775807) ∧ v = .int .i64 n := by
  obtain ⟨n, rfl⟩ := Go.WideShapes.okWide_int (t := 3) Tryd.underlying3 hv
  unfold Value.okWide at hv
  rw [Tryd.underlying3] at hv
  simp only [Cell.okWide, Cell.ok, Tryd.underlying3] at hv
  exact ⟨n, hv.2, rfl⟩
end Go.Proofs.YteildpeogbenbaaDoor

namespace Go.Proofs.YteildpeogbenbaaDoor
open Go.RowKit Go.Tw Go.ChangeShapes Go.WideShapes Go.Joins Go.Deep
set_option maxRecDepth 100000
section
variable {H : Type} {enc : TypeId × Value → H} {W W' : World}
/-- The law's end, where one package-level variable is read. -/
theorem law_post1 {f : Func} {s : ChangeSpec} {apart fresh handsOn : Bool} {args : Array Value} {ds gs : List (DataW H)} {before : List MemPlace} {n : String}
    (hvars : s.vars = [n]) (hfn : ∀ (ds gs : List (DataW H)), ds.length = f.params.size → gs.length = 1 → s.fn H (ds ++ gs) = { results := [.lit (.bool true)], args := ds, vars := gs }) (hres : f.resultTypes = #[4]) (htys : ∀ t ∈ f.params.toList, t < Tryd.prog.types.size)
    (hvt : ∀ g t, Tryd.prog.globalNamed n = some g → (Tryd.prog.globals[g]?).map (·.type) = some t → t < Tryd.prog.types.size)
    (hW : DataW.Whole enc Tryd.prog f.params.toList s.vars apart W args.toList ds gs before) (hb : Below W.heap.size W W') :
    s.post enc Tryd.prog f apart fresh handsOn false W args (.bool true) W' := by
  have hlt : ∀ p ∈ before, p.block < W.heap.size := fun p hp => hW.lt p hp
  have hW0 := hW
  obtain ⟨p, q, hA, hV, rfl, hz, hn⟩ := hW0
  rw [hvars] at hV
  obtain ⟨g, t, cs, fuel, d, pd, rfl, h1, h2, h3, h4, rfl⟩ := trodVars_one hV
  have hlen : ∀ {ts : List TypeId} {vs : List Value} {ds : List (DataW H)} {ps : List MemPlace}, DataW.TrodAll enc Tryd.prog W 0 (fun _ => true) true ts vs ds ps → ds.length = ts.length := by
    intro ts
    induction ts with
    | nil => intro vs ds ps h; obtain ⟨_, rfl, _⟩ := trodAll_nil h; rfl
    | cons t ts ih => intro vs ds ps h; obtain ⟨_, _, _, _, _, _, _, rfl, _, _, h2⟩ := trodAll_cons h; simp [ih h2]
  have hdl : ds.length = f.params.size := by rw [hlen hA]; simp
  have hfd : s.fn H (ds ++ [d]) = { results := [.lit (.bool true)], args := ds, vars := [d] } := hfn ds [d] hdl rfl
  have hltp : ∀ x ∈ p, x.block < W.heap.size := fun x hx => hlt x (List.mem_append_left _ hx)
  have hltd : ∀ x ∈ pd, x.block < W.heap.size := fun x hx => hlt x (List.mem_append_right _ (List.mem_append_right _ hx))
  have hg : g < W.heap.size := by
    unfold World.var? at h3
    rw [h1] at h3
    simp only [Option.bind_some] at h3
    rcases Nat.lt_or_ge g W.heap.size with h | h
    · exact h
    · rw [Array.getElem?_eq_none h] at h3; cases h3
  have hargs : DataW.TrodAll enc Tryd.prog W' 0 (fun b => decide (b < W.heap.size)) true f.params.toList args.toList ds p := trodAll_below hb htys hA hltp _ (fun x hx => by simpa using hltp x hx)
  have hvs : DataW.TrodVars enc Tryd.prog W' (fun b => decide (b < W.heap.size)) [n] [d] (MemPlace.row ⟨g, 0, none⟩ cs.size ++ pd) :=
    trodVars_mk1 h1 h2 (var?_below hb h1 hg h3) (DataW.trod_stays (kids_rows kidsB mapsB) (fun h1 h2 => slicePos h1 h2) (fun h => by cases h) (hvt g t h1 h2) h4 (fun x hx => sameAt_below hb (hltd x hx)) (fun x hx => by simpa using hltd x hx))
  have hresv : ∀ (b : Nat) (sp : Nat → Bool) (hd : Bool), DataW.TrodAll enc Tryd.prog W' b sp hd f.resultTypes.toList ((Value.bool true).resultList f.resultTypes.size) [.lit (.bool true)] [] := by
    intro b sp hd
    rw [hres]
    exact trodAll_cons_mk (shut_bool Tryd.underlying4 _) trodAll_mk0
  exact ⟨ds, [d], _, [], p, _, hW, by rw [hfd]; exact hresv _ _ _, by rw [hfd]; exact hargs, by rw [hfd, hvars]; exact hvs, World.keptBut_mono (fun x hx => hx.elim) (hb.frame (fun _ => False)), fun h => by cases h⟩

theorem starE : "*" ++ "errors.errorString" = "*errors.errorString" := by decide
theorem rowE (u : TypeId) (h : Tryd.prog.typeName? 3 u = some "*errors.errorString") : u = 116 :=
  typeName_ptr_named (nm := "errors.errorString") (by rw [starE]; kernel_rfl) (by kernel_rfl) (by decide) u (by rw [starE]; exact h)
theorem err_of {W : World} (hL : laidMetH Tryd.prog Rows.fnExactFullUptoRow.laid W) : ∃ ea, W.cell? ⟨0, 0, none⟩ = some (.iface 116 (.pointer (some ea))) := by
  have h : laidMet Tryd.prog Rows.fnExactFullUptoRow.laid W := hL
  obtain ⟨a, s, hv, _⟩ := laid_sentinel (P := Tryd.prog) (ti := 48) (tp := 116) (te := 142) (ts := 9) h.tail.tail (g := 0) (by kernel_rfl) (by kernel_rfl) Tryd.underlying48 rowE Tryd.underlying116 Tryd.underlying142 (by kernel_rfl) (by kernel_rfl) Tryd.underlying9 (by kernel_rfl) (by kernel_rfl)
  exact ⟨a, World.var?_cell (by kernel_rfl) hv 0⟩
end
end Go.Proofs.YteildpeogbenbaaDoor

namespace Go.Proofs.YteildpeogbenbaaDoor.fnExactFull
open Go.ChangeShapes Go.WideShapes Go.ChangeAt Go.RowKit
set_option maxRecDepth 100000

theorem own : ownKnob Tryd.prog.godebug = none := by kernel_rfl

theorem contract (H : Type) (enc : TypeId × Value → H) (W : World) (base : Nat) (args : Array Value) (ds gs : List (DataW H)) (before : List MemPlace)
    (hval : ∀ (j : Nat) t v, Tryd.f3.params[j]? = some t → args[j]? = some v → Value.okWide Tryd.prog W .any base t v)
    (hW : DataW.Whole enc Tryd.prog Tryd.f3.params.toList Rows.fnExactFullSpec.vars false W args.toList ds gs before)
    (hk : Rows.uptoBulkAll (ds ++ gs) ≤ 1048576)
    (hL : laidMetH Tryd.prog Rows.fnExactFullUptoRow.laid W) :
    Calls Tryd.prog 3 args W fun e W' => ∃ v, e = .returned v ∧ Rows.fnExactFullSpec.post enc Tryd.prog Tryd.f3 false true false false W args v W' := by
  have hW' := hW
  obtain ⟨p, q, hA0, hV, rfl, hfz, hnd⟩ := hW
  have hA : DataW.TrodAll enc Tryd.prog W 0 (fun _ => true) true Tryd.f3.params.toList args.toList ds p := hA0
  rw [Tryd.params3] at hA hval
  obtain ⟨v0, vs0, d0, ds0, p0, q0, hargs, rfl, rfl, h0, r0⟩ := trodAll_cons hA
  obtain ⟨v1, vs1, d1, ds1, p1, q1, rfl, rfl, rfl, h1, r1⟩ := trodAll_cons r0
  obtain ⟨v2, vs2, d2, ds2, p2, q2, rfl, rfl, rfl, h2, r2⟩ := trodAll_cons r1
  obtain ⟨rfl, rfl, rfl⟩ := trodAll_nil r2
  obtain rfl : args = #[v0, v1, v2] := by cases args; simp_all
  obtain ⟨mn0, tb0, pd0, fl0, ch0, rfl⟩ := open_conf (hval 0 _ _ rfl rfl)
  obtain ⟨bss1, hrd1, hbk1⟩ := open_wrs (hval 1 _ _ rfl rfl) h1
  obtain ⟨z2, hz2, rfl⟩ := open_num (hval 2 _ _ rfl rfl)
  simp only [List.cons_append, List.nil_append, Rows.uptoBulkAll] at hk
  refine (exactFull_calls W mn0 tb0 pd0 fl0 ch0 z2 hrd1 hz2 (tabs_of hL) (err_of hL) (by omega)).mono fun e W' ⟨he, hb⟩ => ?_
  subst he
  refine ⟨_, rfl, law_post1 rfl ?_ (by kernel_rfl) ?_ ?_ hW' hb⟩
  · intro ds gs hds hgs
    match ds, hds, gs, hgs with
    | [a, b, c], _, [g], _ => rfl
  · rw [Tryd.params3]
    intro t ht
    simp at ht
    rcases ht with rfl | rfl | rfl <;> exact of_decide_eq_true (by kernel_rfl)
  · intro g t hg ht
    obtain rfl : 0 = g := Option.some.inj ((show Tryd.prog.globalNamed "loop.example/pub-tabcolumns/impl.errFull" = some 0 by kernel_rfl).symm.trans hg)
    obtain rfl : 48 = t := Option.some.inj ((show (Tryd.prog.globals[0]?).map (·.type) = some 48 by kernel_rfl).symm.trans ht)
    exact of_decide_eq_true (by kernel_rfl)

theorem laid_met (os : Os) : laidMet Tryd.prog Rows.fnExactFullUptoRow.laid ((laidWorld os).forCall (fun _ _ => 0) ⟨#[], #[conf0, .slice none 0 0, .int .i64 0], []⟩).memory :=
  laidMet_of_run' 8 (by kernel_rfl) (by kernel_rfl)
theorem reads (os : Os) {H : Type} (enc : TypeId × Value → H) : ∃ places, DataW.whole enc Tryd.prog ((laidWorld os).forCall (fun _ _ => 0) ⟨#[], #[conf0, .slice none 0 0, .int .i64 0], []⟩).memory Tryd.f3.params.toList Rows.fnExactFullSpec.vars false (#[conf0, .slice none 0 0, .int .i64 0] : Array Value).toList 8 = some ([.agg [.lit (.int .i64 0), .lit (.int .i64 0), .lit (.int .i64 0), .lit (.int .u8 0), .lit (.int .i64 0)], .nil, .lit (.int .i64 0)], [.held (enc (116, .pointer (some ⟨low + 1, 0, none⟩)))], places) :=
  ⟨[.cell 0 0], by kernel_rfl⟩

set_option maxRecDepth 100000 in
theorem lifted (os : Os) (started : os.Started) (H : Type) (enc : TypeId × Value → H) (F : Stop.Interp) :
    ReturnsInHanded {} Tryd.checked os 3 .any ((Rows.OpenSpec.upto Rows.fnExactFullSpec).preRow enc Tryd.prog Tryd.f3 Rows.fnExactFullUptoRow.domain false Rows.fnExactFullUptoRow.laid) (((Rows.OpenSpec.upto Rows.fnExactFullSpec).at F).post enc Tryd.prog Tryd.f3 false true false false) := by
  obtain ⟨places, hx⟩ := reads os enc
  refine returnsInHanded_of_row (C := Tryd.checked) (s := Rows.OpenSpec.upto Rows.fnExactFullSpec) own started (by kernel_rfl) Tryd.func3
    (witness_row_at (enc := enc) (C := Tryd.checked) false (laidWorld os) #[conf0, .slice none 0 0, .int .i64 0] rfl (by kernel_rfl) (by kernel_rfl) (by kernel_rfl)
      (OpenSpec.preRow_of_cond 8 hx (by kernel_rfl) (fun k hk => by cases hk; kernel_rfl) (by kernel_rfl) (laid_met os))) ?_
  intro W base args ds gs before hval hW _ hcond _ hL _ _
  exact contract H enc W base args ds gs before hval hW (of_decide_eq_true (hcond _ rfl)) hL

theorem said : Rows.FnExactFullUptoSaid :=
  OpenClaim.holds_of_cond 3 Tryd.f3 rfl rfl rfl rfl rfl rfl rfl ⟨rfl, rfl, rfl, rfl, rfl⟩ rfl rfl rfl rfl rfl (by kernel_rfl) Tryd.func3 (by kernel_rfl)
    (of_decide_eq_true (by kernel_rfl)) (by unfold Func.isWrapper; first | (rw [if_pos (by decide +kernel)]; kernel_rfl) | (rw [if_neg (by decide +kernel)]; exact ⟨rfl, rfl⟩))
    (fun os started H enc _ F => by rw [OpenClaim.pre_eq_preRow]; exact lifted os started H enc F)

theorem plain (f : FuncId) (fn : Func) (hf : Tryd.pinned.checked.prog.funcNamed "loop.example/pub-tabcolumns/laws.FnExactFull" = some f) (hfn : Tryd.pinned.checked.prog.funcs[f]? = some fn) :
    true = Tryd.pinned.checked.prog.looks [] ∧ ∀ (j : Nat) t, fn.params[j]? = some t → Tryd.pinned.checked.prog.wantsStandIn t = false := by
  obtain rfl : f = 3 := Option.some.inj ((show Tryd.prog.funcNamed "loop.example/pub-tabcolumns/laws.FnExactFull" = some 3 by kernel_rfl).symm.trans hf) |>.symm
  obtain rfl : fn = Tryd.f3 := (Option.some.inj (Tryd.func3.symm.trans hfn)).symm
  refine ⟨by kernel_rfl, fun j t ht => ?_⟩
  rw [Tryd.params3] at ht
  have hm := Array.mem_of_getElem? ht
  simp at hm
  rcases hm with rfl | rfl | rfl
  · exact (show Tryd.prog.wantsStandIn 23 = false by kernel_rfl)
  · exact (show Tryd.prog.wantsStandIn 24 = false by kernel_rfl)
  · exact (show Tryd.prog.wantsStandIn 3 = false by kernel_rfl)

theorem card : Rows.FnExactFullUptoCardSaid :=
  Claim7.holds_tied_plain_at .later [] _ _ _ _ said (fun _ h => by cases h) (by kernel_rfl) (fun _ h => by cases h) fnExactFullUpto_row_tie rfl ⟨rfl, rfl⟩ (by kernel_rfl) rfl plain (by kernel_rfl)
end Go.Proofs.YteildpeogbenbaaDoor.fnExactFull

namespace Go.Proofs.YteildpeogbenbaaDoor
theorem fnExactFullUpto_card : Rows.FnExactFullUptoCardSaid := fnExactFull.card
#print axioms fnExactFullUpto_card
end Go.Proofs.YteildpeogbenbaaDoor
