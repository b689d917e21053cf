/- 'FnFeeds': a formfeed ends all columns, like a flush. -/
import Derived.Test.YthcjaegnnfiboaaDoorCards
import Derived.Test.YthcjaegnnfiboaaDoorTie
import Derived.Test.YthcjaegnnfiboaaDoorVe
import Derived.Test.YthcjaegnnfiboaaDoorQe
import Derived.Test.YthcjaegnnfiboaaDoorLs
import Derived.Test.YthcjaegnnfiboaaDoorOrx
import Derived.WalkKit
import Derived.ProofKit
import Derived.OpenShut
import Derived.Deep.DeepHandedRow
import Derived.Deep.DeepWitnessRowRef
namespace Go.Proofs.YthcjaegnnfiboaaDoor
open Go.RowKit Go.Tw Go.Sort
set_option maxRecDepth 100000

theorem bld_empty {base : World} (wr : World) (t : Tch (New base) base wr) : Own (New base) (wr.alloc (.cells #[] 5)) 5 1 (.slice (some ⟨wr.heap.size, 0, none⟩) 0 0) 0 (bvs []) :=
  ⟨⟨rfl, .inr ⟨wr.heap.size, 0, #[], rfl, Nat.zero_le _, heap_alloc_new wr _, Nat.le_refl _, by simp [maxLen], rfl, rfl⟩⟩, fun g hg => by simp [Value.ownBlock] at hg; subst hg; exact t.size⟩
theorem bld_lit (wr : World) : Rd (wr.alloc (.cells #[.int .u8 10] 5)) (.slice (some ⟨wr.heap.size, 0, none⟩) 1 1) [10] := Rd.fresh wr [10] 1 (0, 0) rfl (by simp [maxLen])
theorem bld_first {base wr : World} (t : Tch (New base) base wr) {kE kL : Nat} {lit : List UInt8} (hE : Own (New base) wr 5 1 (.slice (some ⟨kE, 0, none⟩) 0 0) 0 (bvs [])) {x : Value} {bs : List UInt8} (hrd : Rd wr x bs) (hb : bs.length ≤ 1000000000000) (ty : TypeId) :
    ∃ ao cp w', (Builtin.append_ #[24, 24] ty #[.slice (some ⟨kE, 0, none⟩) 0 0, x]).run Tryd.prog wr = .ok (.slice ao bs.length cp) w' ∧ Own (New base) w' 5 1 (.slice ao bs.length cp) bs.length (bvs bs) ∧ Tch (New base) base w' ∧
      (kL ≠ kE → Rd wr (.slice (some ⟨kL, 0, none⟩) 1 1) lit → Rd w' (.slice (some ⟨kL, 0, none⟩) 1 1) lit) := by
  obtain ⟨v', w', hr, ho, tt, _⟩ := run_append_rd (fun k hk => Nat.le_trans t.size hk) hE hrd (by omega) ty
  rw [Nat.zero_add, List.nil_append] at ho
  obtain ⟨ao, cp, rfl⟩ := ho.shape
  refine ⟨ao, cp, w', hr, ho, t.trans (tt.mono (fun k e => hE.mem k e)), fun hne hl => hl.kept tt (fun _ g hg e => ?_)⟩
  simp only [Value.ownBlock] at hg e
  simp at hg e
  omega
set_option maxHeartbeats 16000000 in
theorem feedsLaw_calls (w : World) (mn tb pd fl : Int) (ch : UInt8) {va vb : Value} {a b : List UInt8} (h : Rd w va a) (hb : Rd w vb b) (hT : Lib.Utf8Tabs 0 1 w) :
    Calls Tryd.prog 8 #[.agg #[.int .i64 mn, .int .i64 tb, .int .i64 pd, .int .u8 ch.toNat, .int .i64 fl], va, vb] w fun e w' => e = .returned (.bool true) ∧ Below w.heap.size w w' := by
  have L0 := Lib.hid (LS.start (mn := mn) (tb := tb) (pd := pd) (ch := ch) (fl := fl) h)
  have HT := Lib.hid hT
  have HRA := Lib.hid h
  have HRB := Lib.hid hb
  obtain ⟨ao, cp, rfl, g1, g2⟩ := L0.out.shape
  obtain ⟨bo, bp, rfl, g3, g4, -⟩ := hb.val
  unfold maxLen at g4
  clear h hb hT
  by_cases hla : a.length ≤ 2147483647
  rotate_left
  · go_enter Tryd.func8, Tryd.ntmps8
    go_wp2_with fail
    go_ret
    exact ⟨rfl, L0.out.bel⟩
  by_cases hlb : b.length ≤ 2147483647
  rotate_left
  · go_enter Tryd.func8, Tryd.ntmps8
    go_wp2_with fail
    go_ret
    exact ⟨rfl, L0.out.bel⟩
  obtain ⟨d0, d1, d2, d3, d4⟩ := L0.out.cells
  have HRR := Lib.hid HRA.out
  obtain ⟨s, hs0⟩ : ∃ s, s = a ++ [10] := ⟨_, rfl⟩
  have HSE := Lib.hid hs0
  have HSL := Lib.hid (show s.length = a.length + 1 by rw [hs0]; simp)
  have hsl2 : s.length ≤ 2147483648 := by rw [hs0]; simp; omega
  clear hs0
  obtain ⟨g, hg⟩ : ∃ g, g = wfl fl 32 false := ⟨_, rfl⟩
  have HWI := Lib.hid (with_calls' (w.alloc (.cells #[.int .i64 mn, .int .i64 tb, .int .i64 pd, .int .u8 ch.toNat, .int .i64 fl] 23)) mn tb pd fl ch 32 false)
  rw [← hg] at HWI
  have HG := Lib.hid hg
  clear hg
  go_enter Tryd.func8, Tryd.ntmps8
  go_wp2_with fail
  refine HWI.out.mono ?_
  rintro e w0 ⟨rfl, hbw⟩
  have hL1 := L0.out.step hbw
  have hL2 : LS w mn tb pd ch g (.slice ao a.length cp) a (((((w0.setCell ⟨w.heap.size, 0, none⟩ (.int .i64 mn)).setCell ⟨w.heap.size, 1, none⟩ (.int .i64 tb)).setCell ⟨w.heap.size, 2, none⟩ (.int .i64 pd)).setCell ⟨w.heap.size, 3, none⟩ (.int .u8 ch.toNat)).setCell ⟨w.heap.size, 4, none⟩ (.int .i64 g)) := hL1.setFl HRR.out g
  obtain ⟨c0, c1, c2, c3, c4⟩ := hL1.cells
  have f0 := frozen_of_blk hL1.conf 0
  have f1 := frozen_of_blk hL1.conf 1
  have f2 := frozen_of_blk hL1.conf 2
  have f3 := frozen_of_blk hL1.conf 3
  have f4 := frozen_of_blk hL1.conf 4
  obtain ⟨y0, y1, y2, y3, y4⟩ := hL2.cells
  have HL2 := Lib.hid hL2
  clear hL1 hL2 hbw HWI L0 d0 d1 d2 d3 d4
  go_wp2_with fail
  clear c0 c1 c2 c3 c4 f0 f1 f2 f3 f4 y0 y1 y2 y3 y4
  revert HL2
  generalize (((((w0.setCell ⟨w.heap.size, 0, none⟩ (.int .i64 mn)).setCell ⟨w.heap.size, 1, none⟩ (.int .i64 tb)).setCell ⟨w.heap.size, 2, none⟩ (.int .i64 pd)).setCell ⟨w.heap.size, 3, none⟩ (.int .u8 ch.toNat)).setCell ⟨w.heap.size, 4, none⟩ (.int .i64 g)) = wx
  intro LX
  obtain ⟨d0, d1, d2, d3, d4⟩ := LX.out.cells
  have k0 : ∀ (p' : Regrown), (grow (redrawn wx p'.d) p'.os).cell? ⟨w.heap.size, 0, none⟩ = some (.int .i64 mn) := fun p' => cell_regrown d0 p'.d p'.os
  have k1 : ∀ (p' : Regrown), (grow (redrawn wx p'.d) p'.os).cell? ⟨w.heap.size, 1, none⟩ = some (.int .i64 tb) := fun p' => cell_regrown d1 p'.d p'.os
  have k2 : ∀ (p' : Regrown), (grow (redrawn wx p'.d) p'.os).cell? ⟨w.heap.size, 2, none⟩ = some (.int .i64 pd) := fun p' => cell_regrown d2 p'.d p'.os
  have k3 : ∀ (p' : Regrown), (grow (redrawn wx p'.d) p'.os).cell? ⟨w.heap.size, 3, none⟩ = some (.int .u8 ch.toNat) := fun p' => cell_regrown d3 p'.d p'.os
  have k4 : ∀ (p' : Regrown), (grow (redrawn wx p'.d) p'.os).cell? ⟨w.heap.size, 4, none⟩ = some (.int .i64 g) := fun p' => cell_regrown d4 p'.d p'.os
  refine wp_region_stages [([0, 2], [1, 3, 4, 5, 6, 7, 8]), ([9, 10], [11, 12, 13, 14]), ([15], [16, 17, 18, 19]), ([20], [21, 22, 23])] (by kernel_rfl) (by kernel_rfl) (by kernel_rfl) (fun _ _ d _ _ h => by cases d <;> exact h) ?_
  refine ⟨(fun w' => ∃ p' : Regrown, w' = grow (redrawn wx p'.d) p'.os), ⟨⟨wx.drawn + 1, #[]⟩, by rw [grow_empty]; rfl⟩, ?_⟩
  refine wpR_of (lr := [_, _]) rfl ?_
  iterate 2 (refine wpR_step rfl (fun K hK => ?_); go_simp; refine hK _ ?_; clear hK K)
  refine wpR_nil ?_
  clear k0 k1 k2 k3 k4 d0 d1 d2 d3 d4
  have HR := Lib.hid LX.out.rd
  have tt : Tch (New wx) wx wx.drew := Tch.drew _ _
  generalize wx.drew = wd at tt ⊢
  refine wpX_two 1 4 _ _ (by kernel_rfl) rfl rfl rfl rfl (fun K hK => ?_) (fun K hK => ?_)
  · go_simp
    have oE := bld_empty wd tt
    have tt' := tt.trans (Tch.alloc (New wx) wd (.cells #[] 5))
    obtain ⟨kE, hkE⟩ : ∃ k, k = wd.heap.size := ⟨_, rfl⟩
    rw [← hkE] at oE
    refine hK _ _ (regrown_of_below (New.below tt')) ?_
    clear hK K
    clear tt
    rw [← hkE]
    generalize World.alloc wd (.cells #[] 5) = wz1 at oE tt' ⊢
    have tt := tt'
    clear tt' hkE
    refine wpX_two 3 4 _ _ (by kernel_rfl) rfl rfl rfl rfl (fun K hK => ?_) (fun K hK => ?_)
    · obtain ⟨a3, p3, wz2, hr3, oA, tt', hl3⟩ := bld_first (kL := 0) (lit := [10]) tt oE (HR.out.below (New.below tt)) (by omega) 24
      refine wp_append_eq (.tmp 21) (.tmp 22) 24 rfl rfl rfl hr3 ?_
      go_simp
      refine hK _ _ (regrown_of_below (New.below tt')) ?_
      clear hK K
      clear tt
      clear oE hr3 hl3
      have tt := tt'
      clear tt'
      refine wpX_one 4 _ (by kernel_rfl) rfl rfl (fun K hK => ?_)
      go_simp
      have rL := bld_lit wz2
      have tt' := tt.trans (Tch.alloc (New wx) wz2 (.cells #[.int .u8 10] 5))
      have oA' := oA.kept (Tch.alloc (fun _ => False) wz2 (.cells #[.int .u8 10] 5)) (fun _ _ => id)
      clear oA
      obtain ⟨kL, hkL⟩ : ∃ k, k = wz2.heap.size := ⟨_, rfl⟩
      rw [← hkL] at rL
      refine hK _ _ (regrown_of_below (New.below tt')) ?_
      clear hK K
      clear tt
      rw [← hkL]
      generalize World.alloc wz2 (.cells #[.int .u8 10] 5) = wz3 at rL tt' oA' ⊢
      have tt := tt'
      clear tt' hkL
      have oA := oA'
      clear oA'
      refine wpX_one 5 _ (by kernel_rfl) rfl rfl (fun K hK => ?_)
      obtain ⟨a5, p5, ws, hr5, ho5, tt5⟩ := bld_rd tt oA rL (by simp; omega) 24
      have hr5 : (Builtin.append_ #[24, 24] 24 #[.slice a3 a.length p3, .slice (some ⟨kL, 0, none⟩) 1 1]).run Tryd.prog wz3 = .ok (.slice a5 s.length p5) ws := by rw [HSL.out]; exact hr5
      have rd5 : Rd ws (.slice a5 s.length p5) s := by have := Own.rd ho5; rw [← HSE.out] at this; rw [HSL.out]; exact this
      refine wp_append_eq (.tmp 23) (.tmp 24) 24 rfl rfl rfl hr5 ?_
      go_simp
      refine hK _ _ (regrown_of_below (New.below tt5)) ?_
      clear hK K hr5 ho5 oA rL tt
      have tt := tt5
      clear tt5
      refine wpX_one 6 _ (by kernel_rfl) rfl rfl (fun K hK => ?_)
      go_simp
      refine (spaces_calls ws mn tb pd g ch rd5 (Utf8Tabs_below HT.out (LX.out.step (New.below tt)).bel)).mono ?_
      rintro e w6 ⟨xb, rfl, hb6, hfact⟩
      have hb16 := (New.below tt).trans (hb6.mono (New.below tt).size)
      refine hK _ _ (regrown_of_below hb16) ?_
      clear hK K
      have L6 := Lib.hid (LX.out.step hb16)
      have HFA := Lib.hid hfact
      clear hfact hb6 rd5 tt
      cases xb
      · refine wpX_one 7 _ (by kernel_rfl) rfl rfl (fun K hK => ?_)
        go_simp
        refine hK _ _ (regrown_of_below hb16) ?_
        clear hK K
        refine wpX_one 8 _ (by kernel_rfl) rfl rfl (fun K hK => ?_)
        go_simp
        refine hK _ _ (regrown_of_below hb16) ?_
        clear hK K
        refine wpX_end ?_
        refine ⟨(fun w' => ∃ p' : Regrown, w' = grow (redrawn w6 p'.d) p'.os), ⟨⟨w6.drawn, #[]⟩, by rw [grow_empty]; rfl⟩, ?_⟩
        refine wpR_of (lr := [_, _]) rfl ?_
        refine wpR_skip (by kernel_rfl) ?_
        refine wpR_skip (by kernel_rfl) ?_
        refine wpR_nil ?_
        refine wpX_skip 11 _ (by kernel_rfl) rfl (by kernel_rfl) ⟨⟨w6.drawn, #[]⟩, by rw [grow_empty]; rfl⟩ ?_
        refine wpX_skip 12 _ (by kernel_rfl) rfl (by kernel_rfl) ⟨⟨w6.drawn, #[]⟩, by rw [grow_empty]; rfl⟩ ?_
        refine wpX_one 13 _ (by kernel_rfl) rfl rfl (fun K hK => ?_)
        go_simp
        refine hK _ _ ⟨⟨w6.drawn, #[]⟩, by rw [grow_empty]; rfl⟩ ?_
        clear hK K
        refine wpX_one 14 _ (by kernel_rfl) rfl rfl (fun K hK => ?_)
        go_simp
        refine hK _ _ ⟨⟨w6.drawn, #[]⟩, by rw [grow_empty]; rfl⟩ ?_
        clear hK K
        refine wpX_end ?_
        refine ⟨(fun w' => ∃ p' : Regrown, w' = grow (redrawn w6 p'.d) p'.os), ⟨⟨w6.drawn, #[]⟩, by rw [grow_empty]; rfl⟩, ?_⟩
        refine wpR_of (lr := [_]) rfl ?_
        refine wpR_skip (by kernel_rfl) ?_
        refine wpR_nil ?_
        refine wpX_skip 16 _ (by kernel_rfl) rfl (by kernel_rfl) ⟨⟨w6.drawn, #[]⟩, by rw [grow_empty]; rfl⟩ ?_
        refine wpX_skip 17 _ (by kernel_rfl) rfl (by kernel_rfl) ⟨⟨w6.drawn, #[]⟩, by rw [grow_empty]; rfl⟩ ?_
        refine wpX_one 18 _ (by kernel_rfl) rfl rfl (fun K hK => ?_)
        go_simp
        refine hK _ _ ⟨⟨w6.drawn, #[]⟩, by rw [grow_empty]; rfl⟩ ?_
        clear hK K
        refine wpX_one 19 _ (by kernel_rfl) rfl rfl (fun K hK => ?_)
        go_simp
        refine hK _ _ ⟨⟨w6.drawn, #[]⟩, by rw [grow_empty]; rfl⟩ ?_
        clear hK K
        refine wpX_end ?_
        refine ⟨(fun w' => ∃ p' : Regrown, w' = grow (redrawn w6 p'.d) p'.os), ⟨⟨w6.drawn, #[]⟩, by rw [grow_empty]; rfl⟩, ?_⟩
        refine wpR_of (lr := [_]) rfl ?_
        refine wpR_skip (by kernel_rfl) ?_
        refine wpR_nil ?_
        refine wpX_skip 21 _ (by kernel_rfl) rfl (by kernel_rfl) ⟨⟨w6.drawn, #[]⟩, by rw [grow_empty]; rfl⟩ ?_
        refine wpX_skip 22 _ (by kernel_rfl) rfl (by kernel_rfl) ⟨⟨w6.drawn, #[]⟩, by rw [grow_empty]; rfl⟩ ?_
        refine wpX_one 23 _ (by kernel_rfl) rfl rfl (fun K hK => ?_)
        go_simp
        refine hK _ _ ⟨⟨w6.drawn, #[]⟩, by rw [grow_empty]; rfl⟩ ?_
        clear hK K
        refine wpX_end (stg_nil ?_)
        go_wp2_with fail
        go_ret
        exact ⟨rfl, L6.out.bel⟩
      obtain ⟨m, t, p, f, rfl, rfl, rfl, rfl, l1, l2, l3, l4, hs, h9, h128, h16, h32, ho⟩ := HFA.out rfl
      have H32 := Lib.hid h32
      clear HFA h9 h128 h16 h32 ho
      refine wpX_one 7 _ (by kernel_rfl) rfl rfl (fun K hK => ?_)
      go_simp
      refine hK _ _ (regrown_of_below hb16) ?_
      clear hK K
      refine wpX_one 8 _ (by kernel_rfl) rfl rfl (fun K hK => ?_)
      go_simp
      refine hK _ _ (regrown_of_below hb16) ?_
      clear hK K hb16
      refine wpX_end ?_
      obtain ⟨d0, d1, d2, d3, d4⟩ := L6.out.cells
      have k0 : ∀ (p' : Regrown), (grow (redrawn w6 p'.d) p'.os).cell? ⟨w.heap.size, 0, none⟩ = some (.int .i64 m) := fun p' => cell_regrown d0 p'.d p'.os
      have k1 : ∀ (p' : Regrown), (grow (redrawn w6 p'.d) p'.os).cell? ⟨w.heap.size, 1, none⟩ = some (.int .i64 t) := fun p' => cell_regrown d1 p'.d p'.os
      have k2 : ∀ (p' : Regrown), (grow (redrawn w6 p'.d) p'.os).cell? ⟨w.heap.size, 2, none⟩ = some (.int .i64 p) := fun p' => cell_regrown d2 p'.d p'.os
      have k3 : ∀ (p' : Regrown), (grow (redrawn w6 p'.d) p'.os).cell? ⟨w.heap.size, 3, none⟩ = some (.int .u8 ch.toNat) := fun p' => cell_regrown d3 p'.d p'.os
      have k4 : ∀ (p' : Regrown), (grow (redrawn w6 p'.d) p'.os).cell? ⟨w.heap.size, 4, none⟩ = some (.int .i64 f) := fun p' => cell_regrown d4 p'.d p'.os
      refine ⟨(fun w' => ∃ p' : Regrown, w' = grow (redrawn w6 p'.d) p'.os), ⟨⟨w6.drawn, #[]⟩, by rw [grow_empty]; rfl⟩, ?_⟩
      refine wpR_of (lr := [_, _]) rfl ?_
      iterate 2 (refine wpR_stepG (by kernel_rfl) (fun K hK => ?_); go_simp; refine hK _ ?_; clear hK K)
      refine wpR_nil ?_
      clear k0 k1 k2 k3 k4 d0 d1 d2 d3 d4
      refine wpX_one 11 _ (by kernel_rfl) rfl (by kernel_rfl) (fun K hK => ?_)
      go_simp
      refine (spaces_calls w6 m t p f ch (HRB.out.below L6.out.bel) (Utf8Tabs_below HT.out L6.out.bel)).mono ?_
      rintro e w7 ⟨xb, rfl, hb7, hfact⟩
      refine hK _ _ (regrown_of_below hb7) ?_
      clear hK K
      have L7 := Lib.hid (L6.out.step hb7)
      have HFA := Lib.hid hfact
      clear hfact
      cases xb
      · refine wpX_one 12 _ (by kernel_rfl) rfl (by kernel_rfl) (fun K hK => ?_)
        go_simp
        refine hK _ _ (regrown_of_below hb7) ?_
        clear hK K
        refine wpX_one 13 _ (by kernel_rfl) rfl (by kernel_rfl) (fun K hK => ?_)
        go_simp
        refine hK _ _ (regrown_of_below hb7) ?_
        clear hK K
        refine wpX_one 14 _ (by kernel_rfl) rfl (by kernel_rfl) (fun K hK => ?_)
        go_simp
        refine hK _ _ (regrown_of_below hb7) ?_
        clear hK K
        refine wpX_end ?_
        refine ⟨(fun w' => ∃ p' : Regrown, w' = grow (redrawn w7 p'.d) p'.os), ⟨⟨w7.drawn, #[]⟩, by rw [grow_empty]; rfl⟩, ?_⟩
        refine wpR_of (lr := [_]) rfl ?_
        refine wpR_skip (by kernel_rfl) ?_
        refine wpR_nil ?_
        refine wpX_skip 16 _ (by kernel_rfl) rfl (by kernel_rfl) ⟨⟨w7.drawn, #[]⟩, by rw [grow_empty]; rfl⟩ ?_
        refine wpX_skip 17 _ (by kernel_rfl) rfl (by kernel_rfl) ⟨⟨w7.drawn, #[]⟩, by rw [grow_empty]; rfl⟩ ?_
        refine wpX_one 18 _ (by kernel_rfl) rfl rfl (fun K hK => ?_)
        go_simp
        refine hK _ _ ⟨⟨w7.drawn, #[]⟩, by rw [grow_empty]; rfl⟩ ?_
        clear hK K
        refine wpX_one 19 _ (by kernel_rfl) rfl rfl (fun K hK => ?_)
        go_simp
        refine hK _ _ ⟨⟨w7.drawn, #[]⟩, by rw [grow_empty]; rfl⟩ ?_
        clear hK K
        refine wpX_end ?_
        refine ⟨(fun w' => ∃ p' : Regrown, w' = grow (redrawn w7 p'.d) p'.os), ⟨⟨w7.drawn, #[]⟩, by rw [grow_empty]; rfl⟩, ?_⟩
        refine wpR_of (lr := [_]) rfl ?_
        refine wpR_skip (by kernel_rfl) ?_
        refine wpR_nil ?_
        refine wpX_skip 21 _ (by kernel_rfl) rfl (by kernel_rfl) ⟨⟨w7.drawn, #[]⟩, by rw [grow_empty]; rfl⟩ ?_
        refine wpX_skip 22 _ (by kernel_rfl) rfl (by kernel_rfl) ⟨⟨w7.drawn, #[]⟩, by rw [grow_empty]; rfl⟩ ?_
        refine wpX_one 23 _ (by kernel_rfl) rfl rfl (fun K hK => ?_)
        go_simp
        refine hK _ _ ⟨⟨w7.drawn, #[]⟩, by rw [grow_empty]; rfl⟩ ?_
        clear hK K
        refine wpX_end (stg_nil ?_)
        go_wp2_with fail
        go_ret
        exact ⟨rfl, L7.out.bel⟩
      obtain ⟨-, -, -, -, -, -, -, -, -, -, -, -, hsb, -⟩ := HFA.out rfl
      clear HFA
      refine wpX_one 12 _ (by kernel_rfl) rfl (by kernel_rfl) (fun K hK => ?_)
      go_simp
      refine hK _ _ (regrown_of_below hb7) ?_
      clear hK K
      refine wpX_one 13 _ (by kernel_rfl) rfl (by kernel_rfl) (fun K hK => ?_)
      go_simp
      refine hK _ _ (regrown_of_below hb7) ?_
      clear hK K
      refine wpX_one 14 _ (by kernel_rfl) rfl (by kernel_rfl) (fun K hK => ?_)
      go_simp
      refine hK _ _ (regrown_of_below hb7) ?_
      clear hK K
      refine wpX_end ?_
      clear hb7 L6
      refine ⟨(fun w' => ∃ p' : Regrown, w' = grow (redrawn w7 p'.d) p'.os), ⟨⟨w7.drawn, #[]⟩, by rw [grow_empty]; rfl⟩, ?_⟩
      refine wpR_of (lr := [_]) rfl ?_
      iterate 1 (refine wpR_stepG (by kernel_rfl) (fun K hK => ?_); go_simp; refine hK _ ?_; clear hK K)
      refine wpR_nil ?_
      refine wpX_one 16 _ (by kernel_rfl) rfl (by kernel_rfl) (fun K hK => ?_)
      go_simp
      have HTM := tame_calls w7 (HRA.out.below L7.out.bel) (by omega)
      obtain ⟨xt, hxt⟩ : ∃ x, x = tame a := ⟨_, rfl⟩
      rw [← hxt] at HTM
      refine HTM.mono ?_
      rintro e w8 ⟨rfl, rfl⟩
      refine hK _ _ ⟨⟨w7.drawn, #[]⟩, by rw [grow_empty]; rfl⟩ ?_
      clear hK K HTM
      have HXT := Lib.hid hxt
      clear hxt
      cases xt
      · refine wpX_one 17 _ (by kernel_rfl) rfl (by kernel_rfl) (fun K hK => ?_)
        go_simp
        refine hK _ _ ⟨⟨w7.drawn, #[]⟩, by rw [grow_empty]; rfl⟩ ?_
        clear hK K
        refine wpX_one 18 _ (by kernel_rfl) rfl (by kernel_rfl) (fun K hK => ?_)
        go_simp
        refine hK _ _ ⟨⟨w7.drawn, #[]⟩, by rw [grow_empty]; rfl⟩ ?_
        clear hK K
        refine wpX_one 19 _ (by kernel_rfl) rfl (by kernel_rfl) (fun K hK => ?_)
        go_simp
        refine hK _ _ ⟨⟨w7.drawn, #[]⟩, by rw [grow_empty]; rfl⟩ ?_
        clear hK K
        refine wpX_end ?_
        refine ⟨(fun w' => ∃ p' : Regrown, w' = grow (redrawn w7 p'.d) p'.os), ⟨⟨w7.drawn, #[]⟩, by rw [grow_empty]; rfl⟩, ?_⟩
        refine wpR_of (lr := [_]) rfl ?_
        refine wpR_skip (by kernel_rfl) ?_
        refine wpR_nil ?_
        refine wpX_skip 21 _ (by kernel_rfl) rfl (by kernel_rfl) ⟨⟨w7.drawn, #[]⟩, by rw [grow_empty]; rfl⟩ ?_
        refine wpX_skip 22 _ (by kernel_rfl) rfl (by kernel_rfl) ⟨⟨w7.drawn, #[]⟩, by rw [grow_empty]; rfl⟩ ?_
        refine wpX_one 23 _ (by kernel_rfl) rfl rfl (fun K hK => ?_)
        go_simp
        refine hK _ _ ⟨⟨w7.drawn, #[]⟩, by rw [grow_empty]; rfl⟩ ?_
        clear hK K
        refine wpX_end (stg_nil ?_)
        go_wp2_with fail
        go_ret
        exact ⟨rfl, L7.out.bel⟩
      have HTa := Lib.hid (tame_Tm HXT.out.symm)
      clear HXT
      refine wpX_one 17 _ (by kernel_rfl) rfl (by kernel_rfl) (fun K hK => ?_)
      go_simp
      refine hK _ _ ⟨⟨w7.drawn, #[]⟩, by rw [grow_empty]; rfl⟩ ?_
      clear hK K
      refine wpX_one 18 _ (by kernel_rfl) rfl (by kernel_rfl) (fun K hK => ?_)
      go_simp
      refine hK _ _ ⟨⟨w7.drawn, #[]⟩, by rw [grow_empty]; rfl⟩ ?_
      clear hK K
      refine wpX_one 19 _ (by kernel_rfl) rfl (by kernel_rfl) (fun K hK => ?_)
      go_simp
      refine hK _ _ ⟨⟨w7.drawn, #[]⟩, by rw [grow_empty]; rfl⟩ ?_
      clear hK K
      refine wpX_end ?_
      refine ⟨(fun w' => ∃ p' : Regrown, w' = grow (redrawn w7 p'.d) p'.os), ⟨⟨w7.drawn, #[]⟩, by rw [grow_empty]; rfl⟩, ?_⟩
      refine wpR_of (lr := [_]) rfl ?_
      iterate 1 (refine wpR_stepG (by kernel_rfl) (fun K hK => ?_); go_simp; refine hK _ ?_; clear hK K)
      refine wpR_nil ?_
      refine wpX_one 21 _ (by kernel_rfl) rfl (by kernel_rfl) (fun K hK => ?_)
      go_simp
      have HTM := tame_calls w7 (HRB.out.below L7.out.bel) (by omega)
      obtain ⟨xt, hxt⟩ : ∃ x, x = tame b := ⟨_, rfl⟩
      rw [← hxt] at HTM
      refine HTM.mono ?_
      rintro e w8 ⟨rfl, rfl⟩
      refine hK _ _ ⟨⟨w7.drawn, #[]⟩, by rw [grow_empty]; rfl⟩ ?_
      clear hK K HTM
      have HXT := Lib.hid hxt
      clear hxt
      cases xt
      · refine wpX_one 22 _ (by kernel_rfl) rfl (by kernel_rfl) (fun K hK => ?_)
        go_simp
        refine hK _ _ ⟨⟨w7.drawn, #[]⟩, by rw [grow_empty]; rfl⟩ ?_
        clear hK K
        refine wpX_one 23 _ (by kernel_rfl) rfl (by kernel_rfl) (fun K hK => ?_)
        go_simp
        refine hK _ _ ⟨⟨w7.drawn, #[]⟩, by rw [grow_empty]; rfl⟩ ?_
        clear hK K
        refine wpX_end (stg_nil ?_)
        go_wp2_with fail
        go_ret
        exact ⟨rfl, L7.out.bel⟩
      have HTb := Lib.hid (tame_Tm HXT.out.symm)
      clear HXT
      refine wpX_one 22 _ (by kernel_rfl) rfl (by kernel_rfl) (fun K hK => ?_)
      go_simp
      refine hK _ _ ⟨⟨w7.drawn, #[]⟩, by rw [grow_empty]; rfl⟩ ?_
      clear hK K
      refine wpX_one 23 _ (by kernel_rfl) rfl (by kernel_rfl) (fun K hK => ?_)
      go_simp
      refine hK _ _ ⟨⟨w7.drawn, #[]⟩, by rw [grow_empty]; rfl⟩ ?_
      clear hK K
      refine wpX_end (stg_nil ?_)
      clear HR LX
      obtain ⟨aB0, pB0, xB0, hrB0, hoB0, tB0⟩ := bld_copy (Tch.refl (New w7) w7) L7.out.rd (by omega) 24
      have HRUNB0 := Lib.hid hrB0
      obtain ⟨aB1, pB1, xB1, hrB1, hoB1, tB1⟩ := bld_one tB0 hoB0 12 (by omega) 24
      have HRUNB1 := Lib.hid (show (Builtin.append_ #[24, 24] 24 #[.slice aB0 (a.length) pB0, .slice (some ⟨xB0.heap.size, 0, none⟩) 1 1]).run Tryd.prog (xB0.alloc (.cells #[.int .u8 12] 5)) = .ok (.slice aB1 (a.length + 1) pB1) xB1 from hrB1)
      obtain ⟨aB2, pB2, xB2, hrB2, hoB2, tB2⟩ := bld_rd tB1 hoB1 (HRB.out.below (L7.out.bel.trans ((New.below tB1).mono L7.out.bel.size))) (by omega) 24
      have HRUNB2 := Lib.hid hrB2
      obtain ⟨fd, hfd⟩ : ∃ fd, fd = (a ++ [12]) ++ b := ⟨_, rfl⟩
      have hrf := Own.rd hoB2
      have hal : a.length ≤ 3000 := by have := HSL.out; omega
      have hfl : fd.length = a.length + 1 + b.length := by rw [hfd]; simp; omega
      have hfl2 : fd.length ≤ 6001 := by omega
      rw [← hfd, ← hfl] at hrf
      rw [← hfl] at HRUNB2
      have HFD := Lib.hid hfd
      have L8 := Lib.hid (L7.out.step (New.below tB2))
      have HB8 := Lib.hid hrf
      clear hrB0 hoB0 tB0 hrB1 hoB1 tB1 hrB2 hoB2 tB2 hfd hrf hfl L7
      obtain ⟨d0, d1, d2, d3, d4⟩ := L8.out.cells
      have k0 : ∀ (p' : Regrown), (grow (redrawn xB2 p'.d) p'.os).cell? ⟨w.heap.size, 0, none⟩ = some (.int .i64 m) := fun p' => cell_regrown d0 p'.d p'.os
      have k1 : ∀ (p' : Regrown), (grow (redrawn xB2 p'.d) p'.os).cell? ⟨w.heap.size, 1, none⟩ = some (.int .i64 t) := fun p' => cell_regrown d1 p'.d p'.os
      have k2 : ∀ (p' : Regrown), (grow (redrawn xB2 p'.d) p'.os).cell? ⟨w.heap.size, 2, none⟩ = some (.int .i64 p) := fun p' => cell_regrown d2 p'.d p'.os
      have k3 : ∀ (p' : Regrown), (grow (redrawn xB2 p'.d) p'.os).cell? ⟨w.heap.size, 3, none⟩ = some (.int .u8 ch.toNat) := fun p' => cell_regrown d3 p'.d p'.os
      have k4 : ∀ (p' : Regrown), (grow (redrawn xB2 p'.d) p'.os).cell? ⟨w.heap.size, 4, none⟩ = some (.int .i64 f) := fun p' => cell_regrown d4 p'.d p'.os
      go_wp2_with (first | (at_builtin; refine wpList_append_eq rfl (.tmp 44) (.tmp 45) 24 rfl rfl rfl HRUNB0.out ?_) | (at_builtin; refine wpList_append_eq rfl (.tmp 46) (.tmp 47) 24 rfl rfl rfl HRUNB1.out ?_) | (at_builtin; refine wpList_append_eq rfl (.tmp 48) (.tmp 49) 24 rfl rfl rfl HRUNB2.out ?_))
      clear HRUNB0 HRUNB1 HRUNB2
      refine wp_region_stages [([0, 2], [1, 3, 4, 5, 6, 7, 8])] (by kernel_rfl) (by kernel_rfl) (by kernel_rfl) (fun _ _ d _ _ h => by cases d <;> exact h) ?_
      refine ⟨(fun w' => ∃ p' : Regrown, w' = grow (redrawn xB2 p'.d) p'.os), ⟨⟨xB2.drawn + 1, #[]⟩, by rw [grow_empty]; rfl⟩, ?_⟩
      refine wpR_of (lr := [_, _]) rfl ?_
      iterate 2 (refine wpR_step rfl (fun K hK => ?_); go_simp; refine hK _ ?_; clear hK K)
      refine wpR_nil ?_
      clear k0 k1 k2 k3 k4 d0 d1 d2 d3 d4
      have HR := Lib.hid L8.out.rd
      have tt : Tch (New xB2) xB2 xB2.drew := Tch.drew _ _
      generalize xB2.drew = wd at tt ⊢
      refine wpX_two 1 4 _ _ (by kernel_rfl) rfl rfl rfl rfl (fun K hK => ?_) (fun K hK => ?_)
      · go_simp
        have oE := bld_empty wd tt
        have tt' := tt.trans (Tch.alloc (New xB2) wd (.cells #[] 5))
        obtain ⟨kE, hkE⟩ : ∃ k, k = wd.heap.size := ⟨_, rfl⟩
        rw [← hkE] at oE
        refine hK _ _ (regrown_of_below (New.below tt')) ?_
        clear hK K
        clear tt
        rw [← hkE]
        generalize World.alloc wd (.cells #[] 5) = wz1 at oE tt' ⊢
        have tt := tt'
        clear tt' hkE
        refine wpX_two 3 4 _ _ (by kernel_rfl) rfl rfl rfl rfl (fun K hK => ?_) (fun K hK => ?_)
        · obtain ⟨a3, p3, wz2, hr3, oA, tt', hl3⟩ := bld_first (kL := 0) (lit := [10]) tt oE (HR.out.below (New.below tt)) (by omega) 24
          refine wp_append_eq (.tmp 52) (.tmp 53) 24 rfl rfl rfl hr3 ?_
          go_simp
          refine hK _ _ (regrown_of_below (New.below tt')) ?_
          clear hK K
          clear tt
          clear oE hr3 hl3
          have tt := tt'
          clear tt'
          refine wpX_one 4 _ (by kernel_rfl) rfl rfl (fun K hK => ?_)
          go_simp
          have rL := bld_lit wz2
          have tt' := tt.trans (Tch.alloc (New xB2) wz2 (.cells #[.int .u8 10] 5))
          have oA' := oA.kept (Tch.alloc (fun _ => False) wz2 (.cells #[.int .u8 10] 5)) (fun _ _ => id)
          clear oA
          obtain ⟨kL, hkL⟩ : ∃ k, k = wz2.heap.size := ⟨_, rfl⟩
          rw [← hkL] at rL
          refine hK _ _ (regrown_of_below (New.below tt')) ?_
          clear hK K
          clear tt
          rw [← hkL]
          generalize World.alloc wz2 (.cells #[.int .u8 10] 5) = wz3 at rL tt' oA' ⊢
          have tt := tt'
          clear tt' hkL
          have oA := oA'
          clear oA'
          refine wpX_one 5 _ (by kernel_rfl) rfl rfl (fun K hK => ?_)
          obtain ⟨a5, p5, ws, hr5, ho5, tt5⟩ := bld_rd tt oA rL (by simp; omega) 24
          have hr5 : (Builtin.append_ #[24, 24] 24 #[.slice a3 a.length p3, .slice (some ⟨kL, 0, none⟩) 1 1]).run Tryd.prog wz3 = .ok (.slice a5 s.length p5) ws := by rw [HSL.out]; exact hr5
          have rd5 : Rd ws (.slice a5 s.length p5) s := by have := Own.rd ho5; rw [← HSE.out] at this; rw [HSL.out]; exact this
          refine wp_append_eq (.tmp 54) (.tmp 55) 24 rfl rfl rfl hr5 ?_
          go_simp
          refine hK _ _ (regrown_of_below (New.below tt5)) ?_
          clear hK K hr5 ho5 oA rL tt
          have tt := tt5
          clear tt5
          refine wpX_one 6 _ (by kernel_rfl) rfl rfl (fun K hK => ?_)
          go_simp
          have tt' := (New.below tt).alloc (New.below tt).size (.cells #[.slice a5 s.length p5] 24)
          refine hK _ _ (regrown_of_below tt') ?_
          clear hK K
          refine wpX_one 7 _ (by kernel_rfl) rfl rfl (fun K hK => ?_)
          go_simp
          refine (write_one ws m t p f l4 ch rd5 (by omega) l1 l2 l3).mono ?_
          rintro e w9 ⟨v9, rfl, hr9, hb9⟩
          have hb19 := (New.below tt).trans (hb9.mono (New.below tt).size)
          refine hK _ _ (regrown_of_below hb19) ?_
          clear hK K
          obtain ⟨fx, hfx⟩ : ∃ x, x = formatO (cfgOf m t p f ch) s := ⟨_, rfl⟩
          rw [← hfx] at hr9
          have HFfx := Lib.hid hfx
          clear hfx
          refine wpX_one 8 _ (by kernel_rfl) rfl rfl (fun K hK => ?_)
          go_simp
          refine hK _ _ (regrown_of_below hb19) ?_
          clear hK K
          refine wpX_end (stg_nil ?_)
          have L9 := Lib.hid (L8.out.step hb19)
          have HX9 := Lib.hid hr9
          have HB9 := Lib.hid (HB8.out.below hb19)
          obtain ⟨a9, c9, rfl, -, q9, -⟩ := hr9.val
          unfold maxLen at q9
          clear hb19 hb9 hr9 tt tt' rd5 HR L8 HB8
          obtain ⟨d0, d1, d2, d3, d4⟩ := L9.out.cells
          have HW := Lib.hid (write_one w9 m t p f l4 ch (HRB.out.below L9.out.bel) (by omega) l1 l2 l3)
          go_wp2_with fail
          refine HW.out.mono ?_
          rintro e w10 ⟨v10, rfl, hr10, hb10⟩
          have L10 := Lib.hid (L9.out.step hb10)
          have HX10 := Lib.hid (HX9.out.below hb10)
          clear HX9
          have HB10 := Lib.hid (HB9.out.below hb10)
          clear HB9
          obtain ⟨fy, hfy⟩ : ∃ x, x = formatO (cfgOf m t p f ch) b := ⟨_, rfl⟩
          rw [← hfy] at hr10
          have HFfy := Lib.hid hfy
          clear hfy
          have HY10 := Lib.hid hr10
          obtain ⟨a10, c10, rfl, -, q10, -⟩ := hr10.val
          unfold maxLen at q10
          clear HW L9 hb10 hr10 d0 d1 d2 d3 d4
          obtain ⟨d0, d1, d2, d3, d4⟩ := L10.out.cells
          have HW := Lib.hid (write_one w10 m t p f l4 ch HB10.out (by omega) l1 l2 l3)
          go_wp2_with fail
          refine HW.out.mono ?_
          rintro e w11 ⟨v11, rfl, hr11, hb11⟩
          have L11 := Lib.hid (L10.out.step hb11)
          have HX11 := Lib.hid (HX10.out.below hb11)
          clear HX10
          have HY11 := Lib.hid (HY10.out.below hb11)
          clear HY10
          obtain ⟨fz, hfz⟩ : ∃ x, x = formatO (cfgOf m t p f ch) fd := ⟨_, rfl⟩
          rw [← hfz] at hr11
          have HFfz := Lib.hid hfz
          clear hfz
          have HZ11 := Lib.hid hr11
          obtain ⟨a11, c11, rfl, -, q11, -⟩ := hr11.val
          unfold maxLen at q11
          clear HW L10 hb11 hr11 d0 d1 d2 d3 d4
          have hfx : fx.length ≤ 100000000000 := by rw [HFfx.out]; exact format_bound m t p f ch l1 l2 l3 s hs
          have hfy : fy.length ≤ 100000000000 := by rw [HFfy.out]; exact format_bound m t p f ch l1 l2 l3 b hsb
          obtain ⟨aC0, pC0, xC0, hrC0, hoC0, tC0⟩ := bld_copy (Tch.refl (New w11) w11) HX11.out (by omega) 24
          have HRUNC0 := Lib.hid hrC0
          obtain ⟨aC1, pC1, xC1, hrC1, hoC1, tC1⟩ := bld_rd tC0 hoC0 (HY11.out.below (New.below tC0)) (by omega) 24
          have HRUNC1 := Lib.hid hrC1
          obtain ⟨wt, hwt⟩ : ∃ wt, wt = fx ++ fy := ⟨_, rfl⟩
          have hrw := Own.rd hoC1
          have hwl : wt.length = fx.length + fy.length := by rw [hwt]; simp
          have hwl2 : wt.length ≤ 300000000000 := by omega
          have L12 := Lib.hid (L11.out.step (New.below tC1))
          rw [← hwt, ← hwl] at hrw
          rw [← hwl] at HRUNC1
          have hSm := same_calls xC1 (HZ11.out.below (New.below tC1)) hrw
          rw [decide_eq_true (show fz = wt from by rw [HFfz.out, HFD.out, hwt, HFfx.out, HFfy.out, HSE.out, List.append_assoc]; exact format_feeds H32.out HTa.out HTb.out)] at hSm
          have HSM := Lib.hid hSm
          clear hrC0 hoC0 tC0 hrC1 hoC1 tC1 hrw hwl hwt hSm L11 HX11 HY11 HZ11
          go_wp2_with (first | (at_builtin; refine wpList_append_eq rfl (.tmp 67) (.tmp 68) 24 rfl rfl rfl HRUNC0.out ?_) | (at_builtin; refine wpList_append_eq rfl (.tmp 69) (.tmp 70) 24 rfl rfl rfl HRUNC1.out ?_))
          refine HSM.out.mono ?_
          rintro e wq ⟨rfl, rfl⟩
          clear HSM
          obtain ⟨d0, d1, d2, d3, d4⟩ := L12.out.cells
          go_wp2_with fail
          refine (format_calls xC1 m t p f l4 ch (HRB.out.below L12.out.bel) hsb l1 l2 l3).mono ?_
          rintro e w13 ⟨v13, rfl, hr13, hb13⟩
          rw [← HFfy.out] at hr13
          have L13 := Lib.hid (L12.out.step hb13)
          obtain ⟨a13, c13, rfl, -⟩ := hr13.val
          clear hb13 d0 d1 d2 d3 d4
          go_wp2_with fail
          go_ret
          exact ⟨rfl, L13.out.bel⟩
        · go_simp
          have rL := bld_lit wz1
          have tt' := tt.trans (Tch.alloc (New xB2) wz1 (.cells #[.int .u8 10] 5))
          have hne := Nat.ne_of_gt (oE.lt rfl)
          have oE' := oE.kept (Tch.alloc (fun _ => False) wz1 (.cells #[.int .u8 10] 5)) (fun _ _ => id)
          clear oE
          obtain ⟨kL, hkL⟩ : ∃ k, k = wz1.heap.size := ⟨_, rfl⟩
          rw [← hkL] at rL hne
          refine hK _ _ (regrown_of_below (New.below tt')) ?_
          clear hK K
          clear tt
          rw [← hkL]
          generalize World.alloc wz1 (.cells #[.int .u8 10] 5) = wz4 at rL tt' oE' ⊢
          have tt := tt'
          clear tt' hkL
          have oE := oE'
          clear oE'
          refine wpX_one 3 _ (by kernel_rfl) rfl rfl (fun K hK => ?_)
          obtain ⟨a3, p3, wz5, hr3, oA, tt', hl3⟩ := bld_first (kL := kL) (lit := [10]) tt oE (HR.out.below (New.below tt)) (by omega) 24
          refine wp_append_eq (.tmp 52) (.tmp 53) 24 rfl rfl rfl hr3 ?_
          go_simp
          have rL' := hl3 hne rL
          clear rL hne
          refine hK _ _ (regrown_of_below (New.below tt')) ?_
          clear hK K
          clear tt
          clear oE hr3 hl3
          have tt := tt'
          clear tt'
          have rL := rL'
          clear rL'
          refine wpX_one 5 _ (by kernel_rfl) rfl rfl (fun K hK => ?_)
          obtain ⟨a5, p5, ws, hr5, ho5, tt5⟩ := bld_rd tt oA rL (by simp; omega) 24
          have hr5 : (Builtin.append_ #[24, 24] 24 #[.slice a3 a.length p3, .slice (some ⟨kL, 0, none⟩) 1 1]).run Tryd.prog wz5 = .ok (.slice a5 s.length p5) ws := by rw [HSL.out]; exact hr5
          have rd5 : Rd ws (.slice a5 s.length p5) s := by have := Own.rd ho5; rw [← HSE.out] at this; rw [HSL.out]; exact this
          refine wp_append_eq (.tmp 54) (.tmp 55) 24 rfl rfl rfl hr5 ?_
          go_simp
          refine hK _ _ (regrown_of_below (New.below tt5)) ?_
          clear hK K hr5 ho5 oA rL tt
          have tt := tt5
          clear tt5
          refine wpX_one 6 _ (by kernel_rfl) rfl rfl (fun K hK => ?_)
          go_simp
          have tt' := (New.below tt).alloc (New.below tt).size (.cells #[.slice a5 s.length p5] 24)
          refine hK _ _ (regrown_of_below tt') ?_
          clear hK K
          refine wpX_one 7 _ (by kernel_rfl) rfl rfl (fun K hK => ?_)
          go_simp
          refine (write_one ws m t p f l4 ch rd5 (by omega) l1 l2 l3).mono ?_
          rintro e w9 ⟨v9, rfl, hr9, hb9⟩
          have hb19 := (New.below tt).trans (hb9.mono (New.below tt).size)
          refine hK _ _ (regrown_of_below hb19) ?_
          clear hK K
          obtain ⟨fx, hfx⟩ : ∃ x, x = formatO (cfgOf m t p f ch) s := ⟨_, rfl⟩
          rw [← hfx] at hr9
          have HFfx := Lib.hid hfx
          clear hfx
          refine wpX_one 8 _ (by kernel_rfl) rfl rfl (fun K hK => ?_)
          go_simp
          refine hK _ _ (regrown_of_below hb19) ?_
          clear hK K
          refine wpX_end (stg_nil ?_)
          have L9 := Lib.hid (L8.out.step hb19)
          have HX9 := Lib.hid hr9
          have HB9 := Lib.hid (HB8.out.below hb19)
          obtain ⟨a9, c9, rfl, -, q9, -⟩ := hr9.val
          unfold maxLen at q9
          clear hb19 hb9 hr9 tt tt' rd5 HR L8 HB8
          obtain ⟨d0, d1, d2, d3, d4⟩ := L9.out.cells
          have HW := Lib.hid (write_one w9 m t p f l4 ch (HRB.out.below L9.out.bel) (by omega) l1 l2 l3)
          go_wp2_with fail
          refine HW.out.mono ?_
          rintro e w10 ⟨v10, rfl, hr10, hb10⟩
          have L10 := Lib.hid (L9.out.step hb10)
          have HX10 := Lib.hid (HX9.out.below hb10)
          clear HX9
          have HB10 := Lib.hid (HB9.out.below hb10)
          clear HB9
          obtain ⟨fy, hfy⟩ : ∃ x, x = formatO (cfgOf m t p f ch) b := ⟨_, rfl⟩
          rw [← hfy] at hr10
          have HFfy := Lib.hid hfy
          clear hfy
          have HY10 := Lib.hid hr10
          obtain ⟨a10, c10, rfl, -, q10, -⟩ := hr10.val
          unfold maxLen at q10
          clear HW L9 hb10 hr10 d0 d1 d2 d3 d4
          obtain ⟨d0, d1, d2, d3, d4⟩ := L10.out.cells
          have HW := Lib.hid (write_one w10 m t p f l4 ch HB10.out (by omega) l1 l2 l3)
          go_wp2_with fail
          refine HW.out.mono ?_
          rintro e w11 ⟨v11, rfl, hr11, hb11⟩
          have L11 := Lib.hid (L10.out.step hb11)
          have HX11 := Lib.hid (HX10.out.below hb11)
          clear HX10
          have HY11 := Lib.hid (HY10.out.below hb11)
          clear HY10
          obtain ⟨fz, hfz⟩ : ∃ x, x = formatO (cfgOf m t p f ch) fd := ⟨_, rfl⟩
          rw [← hfz] at hr11
          have HFfz := Lib.hid hfz
          clear hfz
          have HZ11 := Lib.hid hr11
          obtain ⟨a11, c11, rfl, -, q11, -⟩ := hr11.val
          unfold maxLen at q11
          clear HW L10 hb11 hr11 d0 d1 d2 d3 d4
          have hfx : fx.length ≤ 100000000000 := by rw [HFfx.out]; exact format_bound m t p f ch l1 l2 l3 s hs
          have hfy : fy.length ≤ 100000000000 := by rw [HFfy.out]; exact format_bound m t p f ch l1 l2 l3 b hsb
          obtain ⟨aC0, pC0, xC0, hrC0, hoC0, tC0⟩ := bld_copy (Tch.refl (New w11) w11) HX11.out (by omega) 24
          have HRUNC0 := Lib.hid hrC0
          obtain ⟨aC1, pC1, xC1, hrC1, hoC1, tC1⟩ := bld_rd tC0 hoC0 (HY11.out.below (New.below tC0)) (by omega) 24
          have HRUNC1 := Lib.hid hrC1
          obtain ⟨wt, hwt⟩ : ∃ wt, wt = fx ++ fy := ⟨_, rfl⟩
          have hrw := Own.rd hoC1
          have hwl : wt.length = fx.length + fy.length := by rw [hwt]; simp
          have hwl2 : wt.length ≤ 300000000000 := by omega
          have L12 := Lib.hid (L11.out.step (New.below tC1))
          rw [← hwt, ← hwl] at hrw
          rw [← hwl] at HRUNC1
          have hSm := same_calls xC1 (HZ11.out.below (New.below tC1)) hrw
          rw [decide_eq_true (show fz = wt from by rw [HFfz.out, HFD.out, hwt, HFfx.out, HFfy.out, HSE.out, List.append_assoc]; exact format_feeds H32.out HTa.out HTb.out)] at hSm
          have HSM := Lib.hid hSm
          clear hrC0 hoC0 tC0 hrC1 hoC1 tC1 hrw hwl hwt hSm L11 HX11 HY11 HZ11
          go_wp2_with (first | (at_builtin; refine wpList_append_eq rfl (.tmp 67) (.tmp 68) 24 rfl rfl rfl HRUNC0.out ?_) | (at_builtin; refine wpList_append_eq rfl (.tmp 69) (.tmp 70) 24 rfl rfl rfl HRUNC1.out ?_))
          refine HSM.out.mono ?_
          rintro e wq ⟨rfl, rfl⟩
          clear HSM
          obtain ⟨d0, d1, d2, d3, d4⟩ := L12.out.cells
          go_wp2_with fail
          refine (format_calls xC1 m t p f l4 ch (HRB.out.below L12.out.bel) hsb l1 l2 l3).mono ?_
          rintro e w13 ⟨v13, rfl, hr13, hb13⟩
          rw [← HFfy.out] at hr13
          have L13 := Lib.hid (L12.out.step hb13)
          obtain ⟨a13, c13, rfl, -⟩ := hr13.val
          clear hb13 d0 d1 d2 d3 d4
          go_wp2_with fail
          go_ret
          exact ⟨rfl, L13.out.bel⟩
      · go_simp
        have rL := bld_lit wd
        have tt' := tt.trans (Tch.alloc (New xB2) wd (.cells #[.int .u8 10] 5))
        obtain ⟨kL, hkL⟩ : ∃ k, k = wd.heap.size := ⟨_, rfl⟩
        rw [← hkL] at rL
        refine hK _ _ (regrown_of_below (New.below tt')) ?_
        clear hK K
        clear tt
        rw [← hkL]
        generalize World.alloc wd (.cells #[.int .u8 10] 5) = wz6 at rL tt' ⊢
        have tt := tt'
        clear tt' hkL
        refine wpX_one 1 _ (by kernel_rfl) rfl rfl (fun K hK => ?_)
        go_simp
        have oE := bld_empty wz6 tt
        have tt' := tt.trans (Tch.alloc (New xB2) wz6 (.cells #[] 5))
        have hne := Nat.ne_of_lt (rL.lt (by simp) rfl)
        have rL' := rL.below ((Below.refl _ wz6).alloc (Nat.le_refl _) (.cells #[] 5))
        clear rL
        obtain ⟨kE, hkE⟩ : ∃ k, k = wz6.heap.size := ⟨_, rfl⟩
        rw [← hkE] at hne oE
        refine hK _ _ (regrown_of_below (New.below tt')) ?_
        clear hK K
        clear tt
        rw [← hkE]
        generalize World.alloc wz6 (.cells #[] 5) = wz7 at oE tt' rL' ⊢
        have tt := tt'
        clear tt' hkE
        have rL := rL'
        clear rL'
        refine wpX_one 3 _ (by kernel_rfl) rfl rfl (fun K hK => ?_)
        obtain ⟨a3, p3, wz8, hr3, oA, tt', hl3⟩ := bld_first (kL := kL) (lit := [10]) tt oE (HR.out.below (New.below tt)) (by omega) 24
        refine wp_append_eq (.tmp 52) (.tmp 53) 24 rfl rfl rfl hr3 ?_
        go_simp
        have rL' := hl3 hne rL
        clear rL hne
        refine hK _ _ (regrown_of_below (New.below tt')) ?_
        clear hK K
        clear tt
        clear oE hr3 hl3
        have tt := tt'
        clear tt'
        have rL := rL'
        clear rL'
        refine wpX_one 5 _ (by kernel_rfl) rfl rfl (fun K hK => ?_)
        obtain ⟨a5, p5, ws, hr5, ho5, tt5⟩ := bld_rd tt oA rL (by simp; omega) 24
        have hr5 : (Builtin.append_ #[24, 24] 24 #[.slice a3 a.length p3, .slice (some ⟨kL, 0, none⟩) 1 1]).run Tryd.prog wz8 = .ok (.slice a5 s.length p5) ws := by rw [HSL.out]; exact hr5
        have rd5 : Rd ws (.slice a5 s.length p5) s := by have := Own.rd ho5; rw [← HSE.out] at this; rw [HSL.out]; exact this
        refine wp_append_eq (.tmp 54) (.tmp 55) 24 rfl rfl rfl hr5 ?_
        go_simp
        refine hK _ _ (regrown_of_below (New.below tt5)) ?_
        clear hK K hr5 ho5 oA rL tt
        have tt := tt5
        clear tt5
        refine wpX_one 6 _ (by kernel_rfl) rfl rfl (fun K hK => ?_)
        go_simp
        have tt' := (New.below tt).alloc (New.below tt).size (.cells #[.slice a5 s.length p5] 24)
        refine hK _ _ (regrown_of_below tt') ?_
        clear hK K
        refine wpX_one 7 _ (by kernel_rfl) rfl rfl (fun K hK => ?_)
        go_simp
        refine (write_one ws m t p f l4 ch rd5 (by omega) l1 l2 l3).mono ?_
        rintro e w9 ⟨v9, rfl, hr9, hb9⟩
        have hb19 := (New.below tt).trans (hb9.mono (New.below tt).size)
        refine hK _ _ (regrown_of_below hb19) ?_
        clear hK K
        obtain ⟨fx, hfx⟩ : ∃ x, x = formatO (cfgOf m t p f ch) s := ⟨_, rfl⟩
        rw [← hfx] at hr9
        have HFfx := Lib.hid hfx
        clear hfx
        refine wpX_one 8 _ (by kernel_rfl) rfl rfl (fun K hK => ?_)
        go_simp
        refine hK _ _ (regrown_of_below hb19) ?_
        clear hK K
        refine wpX_end (stg_nil ?_)
        have L9 := Lib.hid (L8.out.step hb19)
        have HX9 := Lib.hid hr9
        have HB9 := Lib.hid (HB8.out.below hb19)
        obtain ⟨a9, c9, rfl, -, q9, -⟩ := hr9.val
        unfold maxLen at q9
        clear hb19 hb9 hr9 tt tt' rd5 HR L8 HB8
        obtain ⟨d0, d1, d2, d3, d4⟩ := L9.out.cells
        have HW := Lib.hid (write_one w9 m t p f l4 ch (HRB.out.below L9.out.bel) (by omega) l1 l2 l3)
        go_wp2_with fail
        refine HW.out.mono ?_
        rintro e w10 ⟨v10, rfl, hr10, hb10⟩
        have L10 := Lib.hid (L9.out.step hb10)
        have HX10 := Lib.hid (HX9.out.below hb10)
        clear HX9
        have HB10 := Lib.hid (HB9.out.below hb10)
        clear HB9
        obtain ⟨fy, hfy⟩ : ∃ x, x = formatO (cfgOf m t p f ch) b := ⟨_, rfl⟩
        rw [← hfy] at hr10
        have HFfy := Lib.hid hfy
        clear hfy
        have HY10 := Lib.hid hr10
        obtain ⟨a10, c10, rfl, -, q10, -⟩ := hr10.val
        unfold maxLen at q10
        clear HW L9 hb10 hr10 d0 d1 d2 d3 d4
        obtain ⟨d0, d1, d2, d3, d4⟩ := L10.out.cells
        have HW := Lib.hid (write_one w10 m t p f l4 ch HB10.out (by omega) l1 l2 l3)
        go_wp2_with fail
        refine HW.out.mono ?_
        rintro e w11 ⟨v11, rfl, hr11, hb11⟩
        have L11 := Lib.hid (L10.out.step hb11)
        have HX11 := Lib.hid (HX10.out.below hb11)
        clear HX10
        have HY11 := Lib.hid (HY10.out.below hb11)
        clear HY10
        obtain ⟨fz, hfz⟩ : ∃ x, x = formatO (cfgOf m t p f ch) fd := ⟨_, rfl⟩
        rw [← hfz] at hr11
        have HFfz := Lib.hid hfz
        clear hfz
        have HZ11 := Lib.hid hr11
        obtain ⟨a11, c11, rfl, -, q11, -⟩ := hr11.val
        unfold maxLen at q11
        clear HW L10 hb11 hr11 d0 d1 d2 d3 d4
        have hfx : fx.length ≤ 100000000000 := by rw [HFfx.out]; exact format_bound m t p f ch l1 l2 l3 s hs
        have hfy : fy.length ≤ 100000000000 := by rw [HFfy.out]; exact format_bound m t p f ch l1 l2 l3 b hsb
        obtain ⟨aC0, pC0, xC0, hrC0, hoC0, tC0⟩ := bld_copy (Tch.refl (New w11) w11) HX11.out (by omega) 24
        have HRUNC0 := Lib.hid hrC0
        obtain ⟨aC1, pC1, xC1, hrC1, hoC1, tC1⟩ := bld_rd tC0 hoC0 (HY11.out.below (New.below tC0)) (by omega) 24
        have HRUNC1 := Lib.hid hrC1
        obtain ⟨wt, hwt⟩ : ∃ wt, wt = fx ++ fy := ⟨_, rfl⟩
        have hrw := Own.rd hoC1
        have hwl : wt.length = fx.length + fy.length := by rw [hwt]; simp
        have hwl2 : wt.length ≤ 300000000000 := by omega
        have L12 := Lib.hid (L11.out.step (New.below tC1))
        rw [← hwt, ← hwl] at hrw
        rw [← hwl] at HRUNC1
        have hSm := same_calls xC1 (HZ11.out.below (New.below tC1)) hrw
        rw [decide_eq_true (show fz = wt from by rw [HFfz.out, HFD.out, hwt, HFfx.out, HFfy.out, HSE.out, List.append_assoc]; exact format_feeds H32.out HTa.out HTb.out)] at hSm
        have HSM := Lib.hid hSm
        clear hrC0 hoC0 tC0 hrC1 hoC1 tC1 hrw hwl hwt hSm L11 HX11 HY11 HZ11
        go_wp2_with (first | (at_builtin; refine wpList_append_eq rfl (.tmp 67) (.tmp 68) 24 rfl rfl rfl HRUNC0.out ?_) | (at_builtin; refine wpList_append_eq rfl (.tmp 69) (.tmp 70) 24 rfl rfl rfl HRUNC1.out ?_))
        refine HSM.out.mono ?_
        rintro e wq ⟨rfl, rfl⟩
        clear HSM
        obtain ⟨d0, d1, d2, d3, d4⟩ := L12.out.cells
        go_wp2_with fail
        refine (format_calls xC1 m t p f l4 ch (HRB.out.below L12.out.bel) hsb l1 l2 l3).mono ?_
        rintro e w13 ⟨v13, rfl, hr13, hb13⟩
        rw [← HFfy.out] at hr13
        have L13 := Lib.hid (L12.out.step hb13)
        obtain ⟨a13, c13, rfl, -⟩ := hr13.val
        clear hb13 d0 d1 d2 d3 d4
        go_wp2_with fail
        go_ret
        exact ⟨rfl, L13.out.bel⟩
    · go_simp
      have rL := bld_lit wz1
      have tt' := tt.trans (Tch.alloc (New wx) wz1 (.cells #[.int .u8 10] 5))
      have hne := Nat.ne_of_gt (oE.lt rfl)
      have oE' := oE.kept (Tch.alloc (fun _ => False) wz1 (.cells #[.int .u8 10] 5)) (fun _ _ => id)
      clear oE
      obtain ⟨kL, hkL⟩ : ∃ k, k = wz1.heap.size := ⟨_, rfl⟩
      rw [← hkL] at rL hne
      refine hK _ _ (regrown_of_below (New.below tt')) ?_
      clear hK K
      clear tt
      rw [← hkL]
      generalize World.alloc wz1 (.cells #[.int .u8 10] 5) = wz4 at rL tt' oE' ⊢
      have tt := tt'
      clear tt' hkL
      have oE := oE'
      clear oE'
      refine wpX_one 3 _ (by kernel_rfl) rfl rfl (fun K hK => ?_)
      obtain ⟨a3, p3, wz5, hr3, oA, tt', hl3⟩ := bld_first (kL := kL) (lit := [10]) tt oE (HR.out.below (New.below tt)) (by omega) 24
      refine wp_append_eq (.tmp 21) (.tmp 22) 24 rfl rfl rfl hr3 ?_
      go_simp
      have rL' := hl3 hne rL
      clear rL hne
      refine hK _ _ (regrown_of_below (New.below tt')) ?_
      clear hK K
      clear tt
      clear oE hr3 hl3
      have tt := tt'
      clear tt'
      have rL := rL'
      clear rL'
      refine wpX_one 5 _ (by kernel_rfl) rfl rfl (fun K hK => ?_)
      obtain ⟨a5, p5, ws, hr5, ho5, tt5⟩ := bld_rd tt oA rL (by simp; omega) 24
      have hr5 : (Builtin.append_ #[24, 24] 24 #[.slice a3 a.length p3, .slice (some ⟨kL, 0, none⟩) 1 1]).run Tryd.prog wz5 = .ok (.slice a5 s.length p5) ws := by rw [HSL.out]; exact hr5
      have rd5 : Rd ws (.slice a5 s.length p5) s := by have := Own.rd ho5; rw [← HSE.out] at this; rw [HSL.out]; exact this
      refine wp_append_eq (.tmp 23) (.tmp 24) 24 rfl rfl rfl hr5 ?_
      go_simp
      refine hK _ _ (regrown_of_below (New.below tt5)) ?_
      clear hK K hr5 ho5 oA rL tt
      have tt := tt5
      clear tt5
      refine wpX_one 6 _ (by kernel_rfl) rfl rfl (fun K hK => ?_)
      go_simp
      refine (spaces_calls ws mn tb pd g ch rd5 (Utf8Tabs_below HT.out (LX.out.step (New.below tt)).bel)).mono ?_
      rintro e w6 ⟨xb, rfl, hb6, hfact⟩
      have hb16 := (New.below tt).trans (hb6.mono (New.below tt).size)
      refine hK _ _ (regrown_of_below hb16) ?_
      clear hK K
      have L6 := Lib.hid (LX.out.step hb16)
      have HFA := Lib.hid hfact
      clear hfact hb6 rd5 tt
      cases xb
      · refine wpX_one 7 _ (by kernel_rfl) rfl rfl (fun K hK => ?_)
        go_simp
        refine hK _ _ (regrown_of_below hb16) ?_
        clear hK K
        refine wpX_one 8 _ (by kernel_rfl) rfl rfl (fun K hK => ?_)
        go_simp
        refine hK _ _ (regrown_of_below hb16) ?_
        clear hK K
        refine wpX_end ?_
        refine ⟨(fun w' => ∃ p' : Regrown, w' = grow (redrawn w6 p'.d) p'.os), ⟨⟨w6.drawn, #[]⟩, by rw [grow_empty]; rfl⟩, ?_⟩
        refine wpR_of (lr := [_, _]) rfl ?_
        refine wpR_skip (by kernel_rfl) ?_
        refine wpR_skip (by kernel_rfl) ?_
        refine wpR_nil ?_
        refine wpX_skip 11 _ (by kernel_rfl) rfl (by kernel_rfl) ⟨⟨w6.drawn, #[]⟩, by rw [grow_empty]; rfl⟩ ?_
        refine wpX_skip 12 _ (by kernel_rfl) rfl (by kernel_rfl) ⟨⟨w6.drawn, #[]⟩, by rw [grow_empty]; rfl⟩ ?_
        refine wpX_one 13 _ (by kernel_rfl) rfl rfl (fun K hK => ?_)
        go_simp
        refine hK _ _ ⟨⟨w6.drawn, #[]⟩, by rw [grow_empty]; rfl⟩ ?_
        clear hK K
        refine wpX_one 14 _ (by kernel_rfl) rfl rfl (fun K hK => ?_)
        go_simp
        refine hK _ _ ⟨⟨w6.drawn, #[]⟩, by rw [grow_empty]; rfl⟩ ?_
        clear hK K
        refine wpX_end ?_
        refine ⟨(fun w' => ∃ p' : Regrown, w' = grow (redrawn w6 p'.d) p'.os), ⟨⟨w6.drawn, #[]⟩, by rw [grow_empty]; rfl⟩, ?_⟩
        refine wpR_of (lr := [_]) rfl ?_
        refine wpR_skip (by kernel_rfl) ?_
        refine wpR_nil ?_
        refine wpX_skip 16 _ (by kernel_rfl) rfl (by kernel_rfl) ⟨⟨w6.drawn, #[]⟩, by rw [grow_empty]; rfl⟩ ?_
        refine wpX_skip 17 _ (by kernel_rfl) rfl (by kernel_rfl) ⟨⟨w6.drawn, #[]⟩, by rw [grow_empty]; rfl⟩ ?_
        refine wpX_one 18 _ (by kernel_rfl) rfl rfl (fun K hK => ?_)
        go_simp
        refine hK _ _ ⟨⟨w6.drawn, #[]⟩, by rw [grow_empty]; rfl⟩ ?_
        clear hK K
        refine wpX_one 19 _ (by kernel_rfl) rfl rfl (fun K hK => ?_)
        go_simp
        refine hK _ _ ⟨⟨w6.drawn, #[]⟩, by rw [grow_empty]; rfl⟩ ?_
        clear hK K
        refine wpX_end ?_
        refine ⟨(fun w' => ∃ p' : Regrown, w' = grow (redrawn w6 p'.d) p'.os), ⟨⟨w6.drawn, #[]⟩, by rw [grow_empty]; rfl⟩, ?_⟩
        refine wpR_of (lr := [_]) rfl ?_
        refine wpR_skip (by kernel_rfl) ?_
        refine wpR_nil ?_
        refine wpX_skip 21 _ (by kernel_rfl) rfl (by kernel_rfl) ⟨⟨w6.drawn, #[]⟩, by rw [grow_empty]; rfl⟩ ?_
        refine wpX_skip 22 _ (by kernel_rfl) rfl (by kernel_rfl) ⟨⟨w6.drawn, #[]⟩, by rw [grow_empty]; rfl⟩ ?_
        refine wpX_one 23 _ (by kernel_rfl) rfl rfl (fun K hK => ?_)
        go_simp
        refine hK _ _ ⟨⟨w6.drawn, #[]⟩, by rw [grow_empty]; rfl⟩ ?_
        clear hK K
        refine wpX_end (stg_nil ?_)
        go_wp2_with fail
        go_ret
        exact ⟨rfl, L6.out.bel⟩
      obtain ⟨m, t, p, f, rfl, rfl, rfl, rfl, l1, l2, l3, l4, hs, h9, h128, h16, h32, ho⟩ := HFA.out rfl
      have H32 := Lib.hid h32
      clear HFA h9 h128 h16 h32 ho
      refine wpX_one 7 _ (by kernel_rfl) rfl rfl (fun K hK => ?_)
      go_simp
      refine hK _ _ (regrown_of_below hb16) ?_
      clear hK K
      refine wpX_one 8 _ (by kernel_rfl) rfl rfl (fun K hK => ?_)
      go_simp
      refine hK _ _ (regrown_of_below hb16) ?_
      clear hK K hb16
      refine wpX_end ?_
      obtain ⟨d0, d1, d2, d3, d4⟩ := L6.out.cells
      have k0 : ∀ (p' : Regrown), (grow (redrawn w6 p'.d) p'.os).cell? ⟨w.heap.size, 0, none⟩ = some (.int .i64 m) := fun p' => cell_regrown d0 p'.d p'.os
      have k1 : ∀ (p' : Regrown), (grow (redrawn w6 p'.d) p'.os).cell? ⟨w.heap.size, 1, none⟩ = some (.int .i64 t) := fun p' => cell_regrown d1 p'.d p'.os
      have k2 : ∀ (p' : Regrown), (grow (redrawn w6 p'.d) p'.os).cell? ⟨w.heap.size, 2, none⟩ = some (.int .i64 p) := fun p' => cell_regrown d2 p'.d p'.os
      have k3 : ∀ (p' : Regrown), (grow (redrawn w6 p'.d) p'.os).cell? ⟨w.heap.size, 3, none⟩ = some (.int .u8 ch.toNat) := fun p' => cell_regrown d3 p'.d p'.os
      have k4 : ∀ (p' : Regrown), (grow (redrawn w6 p'.d) p'.os).cell? ⟨w.heap.size, 4, none⟩ = some (.int .i64 f) := fun p' => cell_regrown d4 p'.d p'.os
      refine ⟨(fun w' => ∃ p' : Regrown, w' = grow (redrawn w6 p'.d) p'.os), ⟨⟨w6.drawn, #[]⟩, by rw [grow_empty]; rfl⟩, ?_⟩
      refine wpR_of (lr := [_, _]) rfl ?_
      iterate 2 (refine wpR_stepG (by kernel_rfl) (fun K hK => ?_); go_simp; refine hK _ ?_; clear hK K)
      refine wpR_nil ?_
      clear k0 k1 k2 k3 k4 d0 d1 d2 d3 d4
      refine wpX_one 11 _ (by kernel_rfl) rfl (by kernel_rfl) (fun K hK => ?_)
      go_simp
      refine (spaces_calls w6 m t p f ch (HRB.out.below L6.out.bel) (Utf8Tabs_below HT.out L6.out.bel)).mono ?_
      rintro e w7 ⟨xb, rfl, hb7, hfact⟩
      refine hK _ _ (regrown_of_below hb7) ?_
      clear hK K
      have L7 := Lib.hid (L6.out.step hb7)
      have HFA := Lib.hid hfact
      clear hfact
      cases xb
      · refine wpX_one 12 _ (by kernel_rfl) rfl (by kernel_rfl) (fun K hK => ?_)
        go_simp
        refine hK _ _ (regrown_of_below hb7) ?_
        clear hK K
        refine wpX_one 13 _ (by kernel_rfl) rfl (by kernel_rfl) (fun K hK => ?_)
        go_simp
        refine hK _ _ (regrown_of_below hb7) ?_
        clear hK K
        refine wpX_one 14 _ (by kernel_rfl) rfl (by kernel_rfl) (fun K hK => ?_)
        go_simp
        refine hK _ _ (regrown_of_below hb7) ?_
        clear hK K
        refine wpX_end ?_
        refine ⟨(fun w' => ∃ p' : Regrown, w' = grow (redrawn w7 p'.d) p'.os), ⟨⟨w7.drawn, #[]⟩, by rw [grow_empty]; rfl⟩, ?_⟩
        refine wpR_of (lr := [_]) rfl ?_
        refine wpR_skip (by kernel_rfl) ?_
        refine wpR_nil ?_
        refine wpX_skip 16 _ (by kernel_rfl) rfl (by kernel_rfl) ⟨⟨w7.drawn, #[]⟩, by rw [grow_empty]; rfl⟩ ?_
        refine wpX_skip 17 _ (by kernel_rfl) rfl (by kernel_rfl) ⟨⟨w7.drawn, #[]⟩, by rw [grow_empty]; rfl⟩ ?_
        refine wpX_one 18 _ (by kernel_rfl) rfl rfl (fun K hK => ?_)
        go_simp
        refine hK _ _ ⟨⟨w7.drawn, #[]⟩, by rw [grow_empty]; rfl⟩ ?_
        clear hK K
        refine wpX_one 19 _ (by kernel_rfl) rfl rfl (fun K hK => ?_)
        go_simp
        refine hK _ _ ⟨⟨w7.drawn, #[]⟩, by rw [grow_empty]; rfl⟩ ?_
        clear hK K
        refine wpX_end ?_
        refine ⟨(fun w' => ∃ p' : Regrown, w' = grow (redrawn w7 p'.d) p'.os), ⟨⟨w7.drawn, #[]⟩, by rw [grow_empty]; rfl⟩, ?_⟩
        refine wpR_of (lr := [_]) rfl ?_
        refine wpR_skip (by kernel_rfl) ?_
        refine wpR_nil ?_
        refine wpX_skip 21 _ (by kernel_rfl) rfl (by kernel_rfl) ⟨⟨w7.drawn, #[]⟩, by rw [grow_empty]; rfl⟩ ?_
        refine wpX_skip 22 _ (by kernel_rfl) rfl (by kernel_rfl) ⟨⟨w7.drawn, #[]⟩, by rw [grow_empty]; rfl⟩ ?_
        refine wpX_one 23 _ (by kernel_rfl) rfl rfl (fun K hK => ?_)
        go_simp
        refine hK _ _ ⟨⟨w7.drawn, #[]⟩, by rw [grow_empty]; rfl⟩ ?_
        clear hK K
        refine wpX_end (stg_nil ?_)
        go_wp2_with fail
        go_ret
        exact ⟨rfl, L7.out.bel⟩
      obtain ⟨-, -, -, -, -, -, -, -, -, -, -, -, hsb, -⟩ := HFA.out rfl
      clear HFA
      refine wpX_one 12 _ (by kernel_rfl) rfl (by kernel_rfl) (fun K hK => ?_)
      go_simp
      refine hK _ _ (regrown_of_below hb7) ?_
      clear hK K
      refine wpX_one 13 _ (by kernel_rfl) rfl (by kernel_rfl) (fun K hK => ?_)
      go_simp
      refine hK _ _ (regrown_of_below hb7) ?_
      clear hK K
      refine wpX_one 14 _ (by kernel_rfl) rfl (by kernel_rfl) (fun K hK => ?_)
      go_simp
      refine hK _ _ (regrown_of_below hb7) ?_
      clear hK K
      refine wpX_end ?_
      clear hb7 L6
      refine ⟨(fun w' => ∃ p' : Regrown, w' = grow (redrawn w7 p'.d) p'.os), ⟨⟨w7.drawn, #[]⟩, by rw [grow_empty]; rfl⟩, ?_⟩
      refine wpR_of (lr := [_]) rfl ?_
      iterate 1 (refine wpR_stepG (by kernel_rfl) (fun K hK => ?_); go_simp; refine hK _ ?_; clear hK K)
      refine wpR_nil ?_
      refine wpX_one 16 _ (by kernel_rfl) rfl (by kernel_rfl) (fun K hK => ?_)
      go_simp
      have HTM := tame_calls w7 (HRA.out.below L7.out.bel) (by omega)
      obtain ⟨xt, hxt⟩ : ∃ x, x = tame a := ⟨_, rfl⟩
      rw [← hxt] at HTM
      refine HTM.mono ?_
      rintro e w8 ⟨rfl, rfl⟩
      refine hK _ _ ⟨⟨w7.drawn, #[]⟩, by rw [grow_empty]; rfl⟩ ?_
      clear hK K HTM
      have HXT := Lib.hid hxt
      clear hxt
      cases xt
      · refine wpX_one 17 _ (by kernel_rfl) rfl (by kernel_rfl) (fun K hK => ?_)
        go_simp
        refine hK _ _ ⟨⟨w7.drawn, #[]⟩, by rw [grow_empty]; rfl⟩ ?_
        clear hK K
        refine wpX_one 18 _ (by kernel_rfl) rfl (by kernel_rfl) (fun K hK => ?_)
        go_simp
        refine hK _ _ ⟨⟨w7.drawn, #[]⟩, by rw [grow_empty]; rfl⟩ ?_
        clear hK K
        refine wpX_one 19 _ (by kernel_rfl) rfl (by kernel_rfl) (fun K hK => ?_)
        go_simp
        refine hK _ _ ⟨⟨w7.drawn, #[]⟩, by rw [grow_empty]; rfl⟩ ?_
        clear hK K
        refine wpX_end ?_
        refine ⟨(fun w' => ∃ p' : Regrown, w' = grow (redrawn w7 p'.d) p'.os), ⟨⟨w7.drawn, #[]⟩, by rw [grow_empty]; rfl⟩, ?_⟩
        refine wpR_of (lr := [_]) rfl ?_
        refine wpR_skip (by kernel_rfl) ?_
        refine wpR_nil ?_
        refine wpX_skip 21 _ (by kernel_rfl) rfl (by kernel_rfl) ⟨⟨w7.drawn, #[]⟩, by rw [grow_empty]; rfl⟩ ?_
        refine wpX_skip 22 _ (by kernel_rfl) rfl (by kernel_rfl) ⟨⟨w7.drawn, #[]⟩, by rw [grow_empty]; rfl⟩ ?_
        refine wpX_one 23 _ (by kernel_rfl) rfl rfl (fun K hK => ?_)
        go_simp
        refine hK _ _ ⟨⟨w7.drawn, #[]⟩, by rw [grow_empty]; rfl⟩ ?_
        clear hK K
        refine wpX_end (stg_nil ?_)
        go_wp2_with fail
        go_ret
        exact ⟨rfl, L7.out.bel⟩
      have HTa := Lib.hid (tame_Tm HXT.out.symm)
      clear HXT
      refine wpX_one 17 _ (by kernel_rfl) rfl (by kernel_rfl) (fun K hK => ?_)
      go_simp
      refine hK _ _ ⟨⟨w7.drawn, #[]⟩, by rw [grow_empty]; rfl⟩ ?_
      clear hK K
      refine wpX_one 18 _ (by kernel_rfl) rfl (by kernel_rfl) (fun K hK => ?_)
      go_simp
      refine hK _ _ ⟨⟨w7.drawn, #[]⟩, by rw [grow_empty]; rfl⟩ ?_
      clear hK K
      refine wpX_one 19 _ (by kernel_rfl) rfl (by kernel_rfl) (fun K hK => ?_)
      go_simp
      refine hK _ _ ⟨⟨w7.drawn, #[]⟩, by rw [grow_empty]; rfl⟩ ?_
      clear hK K
      refine wpX_end ?_
      refine ⟨(fun w' => ∃ p' : Regrown, w' = grow (redrawn w7 p'.d) p'.os), ⟨⟨w7.drawn, #[]⟩, by rw [grow_empty]; rfl⟩, ?_⟩
      refine wpR_of (lr := [_]) rfl ?_
      iterate 1 (refine wpR_stepG (by kernel_rfl) (fun K hK => ?_); go_simp; refine hK _ ?_; clear hK K)
      refine wpR_nil ?_
      refine wpX_one 21 _ (by kernel_rfl) rfl (by kernel_rfl) (fun K hK => ?_)
      go_simp
      have HTM := tame_calls w7 (HRB.out.below L7.out.bel) (by omega)
      obtain ⟨xt, hxt⟩ : ∃ x, x = tame b := ⟨_, rfl⟩
      rw [← hxt] at HTM
      refine HTM.mono ?_
      rintro e w8 ⟨rfl, rfl⟩
      refine hK _ _ ⟨⟨w7.drawn, #[]⟩, by rw [grow_empty]; rfl⟩ ?_
      clear hK K HTM
      have HXT := Lib.hid hxt
      clear hxt
      cases xt
      · refine wpX_one 22 _ (by kernel_rfl) rfl (by kernel_rfl) (fun K hK => ?_)
        go_simp
        refine hK _ _ ⟨⟨w7.drawn, #[]⟩, by rw [grow_empty]; rfl⟩ ?_
        clear hK K
        refine wpX_one 23 _ (by kernel_rfl) rfl (by kernel_rfl) (fun K hK => ?_)
        go_simp
        refine hK _ _ ⟨⟨w7.drawn, #[]⟩, by rw [grow_empty]; rfl⟩ ?_
        clear hK K
        refine wpX_end (stg_nil ?_)
        go_wp2_with fail
        go_ret
        exact ⟨rfl, L7.out.bel⟩
      have HTb := Lib.hid (tame_Tm HXT.out.symm)
      clear HXT
      refine wpX_one 22 _ (by kernel_rfl) rfl (by kernel_rfl) (fun K hK => ?_)
      go_simp
      refine hK _ _ ⟨⟨w7.drawn, #[]⟩, by rw [grow_empty]; rfl⟩ ?_
      clear hK K
      refine wpX_one 23 _ (by kernel_rfl) rfl (by kernel_rfl) (fun K hK => ?_)
      go_simp
      refine hK _ _ ⟨⟨w7.drawn, #[]⟩, by rw [grow_empty]; rfl⟩ ?_
      clear hK K
      refine wpX_end (stg_nil ?_)
      clear HR LX
      obtain ⟨aB0, pB0, xB0, hrB0, hoB0, tB0⟩ := bld_copy (Tch.refl (New w7) w7) L7.out.rd (by omega) 24
      have HRUNB0 := Lib.hid hrB0
      obtain ⟨aB1, pB1, xB1, hrB1, hoB1, tB1⟩ := bld_one tB0 hoB0 12 (by omega) 24
      have HRUNB1 := Lib.hid (show (Builtin.append_ #[24, 24] 24 #[.slice aB0 (a.length) pB0, .slice (some ⟨xB0.heap.size, 0, none⟩) 1 1]).run Tryd.prog (xB0.alloc (.cells #[.int .u8 12] 5)) = .ok (.slice aB1 (a.length + 1) pB1) xB1 from hrB1)
      obtain ⟨aB2, pB2, xB2, hrB2, hoB2, tB2⟩ := bld_rd tB1 hoB1 (HRB.out.below (L7.out.bel.trans ((New.below tB1).mono L7.out.bel.size))) (by omega) 24
      have HRUNB2 := Lib.hid hrB2
      obtain ⟨fd, hfd⟩ : ∃ fd, fd = (a ++ [12]) ++ b := ⟨_, rfl⟩
      have hrf := Own.rd hoB2
      have hal : a.length ≤ 3000 := by have := HSL.out; omega
      have hfl : fd.length = a.length + 1 + b.length := by rw [hfd]; simp; omega
      have hfl2 : fd.length ≤ 6001 := by omega
      rw [← hfd, ← hfl] at hrf
      rw [← hfl] at HRUNB2
      have HFD := Lib.hid hfd
      have L8 := Lib.hid (L7.out.step (New.below tB2))
      have HB8 := Lib.hid hrf
      clear hrB0 hoB0 tB0 hrB1 hoB1 tB1 hrB2 hoB2 tB2 hfd hrf hfl L7
      obtain ⟨d0, d1, d2, d3, d4⟩ := L8.out.cells
      have k0 : ∀ (p' : Regrown), (grow (redrawn xB2 p'.d) p'.os).cell? ⟨w.heap.size, 0, none⟩ = some (.int .i64 m) := fun p' => cell_regrown d0 p'.d p'.os
      have k1 : ∀ (p' : Regrown), (grow (redrawn xB2 p'.d) p'.os).cell? ⟨w.heap.size, 1, none⟩ = some (.int .i64 t) := fun p' => cell_regrown d1 p'.d p'.os
      have k2 : ∀ (p' : Regrown), (grow (redrawn xB2 p'.d) p'.os).cell? ⟨w.heap.size, 2, none⟩ = some (.int .i64 p) := fun p' => cell_regrown d2 p'.d p'.os
      have k3 : ∀ (p' : Regrown), (grow (redrawn xB2 p'.d) p'.os).cell? ⟨w.heap.size, 3, none⟩ = some (.int .u8 ch.toNat) := fun p' => cell_regrown d3 p'.d p'.os
      have k4 : ∀ (p' : Regrown), (grow (redrawn xB2 p'.d) p'.os).cell? ⟨w.heap.size, 4, none⟩ = some (.int .i64 f) := fun p' => cell_regrown d4 p'.d p'.os
      go_wp2_with (first | (at_builtin; refine wpList_append_eq rfl (.tmp 44) (.tmp 45) 24 rfl rfl rfl HRUNB0.out ?_) | (at_builtin; refine wpList_append_eq rfl (.tmp 46) (.tmp 47) 24 rfl rfl rfl HRUNB1.out ?_) | (at_builtin; refine wpList_append_eq rfl (.tmp 48) (.tmp 49) 24 rfl rfl rfl HRUNB2.out ?_))
      clear HRUNB0 HRUNB1 HRUNB2
      refine wp_region_stages [([0, 2], [1, 3, 4, 5, 6, 7, 8])] (by kernel_rfl) (by kernel_rfl) (by kernel_rfl) (fun _ _ d _ _ h => by cases d <;> exact h) ?_
      refine ⟨(fun w' => ∃ p' : Regrown, w' = grow (redrawn xB2 p'.d) p'.os), ⟨⟨xB2.drawn + 1, #[]⟩, by rw [grow_empty]; rfl⟩, ?_⟩
      refine wpR_of (lr := [_, _]) rfl ?_
      iterate 2 (refine wpR_step rfl (fun K hK => ?_); go_simp; refine hK _ ?_; clear hK K)
      refine wpR_nil ?_
      clear k0 k1 k2 k3 k4 d0 d1 d2 d3 d4
      have HR := Lib.hid L8.out.rd
      have tt : Tch (New xB2) xB2 xB2.drew := Tch.drew _ _
      generalize xB2.drew = wd at tt ⊢
      refine wpX_two 1 4 _ _ (by kernel_rfl) rfl rfl rfl rfl (fun K hK => ?_) (fun K hK => ?_)
      · go_simp
        have oE := bld_empty wd tt
        have tt' := tt.trans (Tch.alloc (New xB2) wd (.cells #[] 5))
        obtain ⟨kE, hkE⟩ : ∃ k, k = wd.heap.size := ⟨_, rfl⟩
        rw [← hkE] at oE
        refine hK _ _ (regrown_of_below (New.below tt')) ?_
        clear hK K
        clear tt
        rw [← hkE]
        generalize World.alloc wd (.cells #[] 5) = wz1 at oE tt' ⊢
        have tt := tt'
        clear tt' hkE
        refine wpX_two 3 4 _ _ (by kernel_rfl) rfl rfl rfl rfl (fun K hK => ?_) (fun K hK => ?_)
        · obtain ⟨a3, p3, wz2, hr3, oA, tt', hl3⟩ := bld_first (kL := 0) (lit := [10]) tt oE (HR.out.below (New.below tt)) (by omega) 24
          refine wp_append_eq (.tmp 52) (.tmp 53) 24 rfl rfl rfl hr3 ?_
          go_simp
          refine hK _ _ (regrown_of_below (New.below tt')) ?_
          clear hK K
          clear tt
          clear oE hr3 hl3
          have tt := tt'
          clear tt'
          refine wpX_one 4 _ (by kernel_rfl) rfl rfl (fun K hK => ?_)
          go_simp
          have rL := bld_lit wz2
          have tt' := tt.trans (Tch.alloc (New xB2) wz2 (.cells #[.int .u8 10] 5))
          have oA' := oA.kept (Tch.alloc (fun _ => False) wz2 (.cells #[.int .u8 10] 5)) (fun _ _ => id)
          clear oA
          obtain ⟨kL, hkL⟩ : ∃ k, k = wz2.heap.size := ⟨_, rfl⟩
          rw [← hkL] at rL
          refine hK _ _ (regrown_of_below (New.below tt')) ?_
          clear hK K
          clear tt
          rw [← hkL]
          generalize World.alloc wz2 (.cells #[.int .u8 10] 5) = wz3 at rL tt' oA' ⊢
          have tt := tt'
          clear tt' hkL
          have oA := oA'
          clear oA'
          refine wpX_one 5 _ (by kernel_rfl) rfl rfl (fun K hK => ?_)
          obtain ⟨a5, p5, ws, hr5, ho5, tt5⟩ := bld_rd tt oA rL (by simp; omega) 24
          have hr5 : (Builtin.append_ #[24, 24] 24 #[.slice a3 a.length p3, .slice (some ⟨kL, 0, none⟩) 1 1]).run Tryd.prog wz3 = .ok (.slice a5 s.length p5) ws := by rw [HSL.out]; exact hr5
          have rd5 : Rd ws (.slice a5 s.length p5) s := by have := Own.rd ho5; rw [← HSE.out] at this; rw [HSL.out]; exact this
          refine wp_append_eq (.tmp 54) (.tmp 55) 24 rfl rfl rfl hr5 ?_
          go_simp
          refine hK _ _ (regrown_of_below (New.below tt5)) ?_
          clear hK K hr5 ho5 oA rL tt
          have tt := tt5
          clear tt5
          refine wpX_one 6 _ (by kernel_rfl) rfl rfl (fun K hK => ?_)
          go_simp
          have tt' := (New.below tt).alloc (New.below tt).size (.cells #[.slice a5 s.length p5] 24)
          refine hK _ _ (regrown_of_below tt') ?_
          clear hK K
          refine wpX_one 7 _ (by kernel_rfl) rfl rfl (fun K hK => ?_)
          go_simp
          refine (write_one ws m t p f l4 ch rd5 (by omega) l1 l2 l3).mono ?_
          rintro e w9 ⟨v9, rfl, hr9, hb9⟩
          have hb19 := (New.below tt).trans (hb9.mono (New.below tt).size)
          refine hK _ _ (regrown_of_below hb19) ?_
          clear hK K
          obtain ⟨fx, hfx⟩ : ∃ x, x = formatO (cfgOf m t p f ch) s := ⟨_, rfl⟩
          rw [← hfx] at hr9
          have HFfx := Lib.hid hfx
          clear hfx
          refine wpX_one 8 _ (by kernel_rfl) rfl rfl (fun K hK => ?_)
          go_simp
          refine hK _ _ (regrown_of_below hb19) ?_
          clear hK K
          refine wpX_end (stg_nil ?_)
          have L9 := Lib.hid (L8.out.step hb19)
          have HX9 := Lib.hid hr9
          have HB9 := Lib.hid (HB8.out.below hb19)
          obtain ⟨a9, c9, rfl, -, q9, -⟩ := hr9.val
          unfold maxLen at q9
          clear hb19 hb9 hr9 tt tt' rd5 HR L8 HB8
          obtain ⟨d0, d1, d2, d3, d4⟩ := L9.out.cells
          have HW := Lib.hid (write_one w9 m t p f l4 ch (HRB.out.below L9.out.bel) (by omega) l1 l2 l3)
          go_wp2_with fail
          refine HW.out.mono ?_
          rintro e w10 ⟨v10, rfl, hr10, hb10⟩
          have L10 := Lib.hid (L9.out.step hb10)
          have HX10 := Lib.hid (HX9.out.below hb10)
          clear HX9
          have HB10 := Lib.hid (HB9.out.below hb10)
          clear HB9
          obtain ⟨fy, hfy⟩ : ∃ x, x = formatO (cfgOf m t p f ch) b := ⟨_, rfl⟩
          rw [← hfy] at hr10
          have HFfy := Lib.hid hfy
          clear hfy
          have HY10 := Lib.hid hr10
          obtain ⟨a10, c10, rfl, -, q10, -⟩ := hr10.val
          unfold maxLen at q10
          clear HW L9 hb10 hr10 d0 d1 d2 d3 d4
          obtain ⟨d0, d1, d2, d3, d4⟩ := L10.out.cells
          have HW := Lib.hid (write_one w10 m t p f l4 ch HB10.out (by omega) l1 l2 l3)
          go_wp2_with fail
          refine HW.out.mono ?_
          rintro e w11 ⟨v11, rfl, hr11, hb11⟩
          have L11 := Lib.hid (L10.out.step hb11)
          have HX11 := Lib.hid (HX10.out.below hb11)
          clear HX10
          have HY11 := Lib.hid (HY10.out.below hb11)
          clear HY10
          obtain ⟨fz, hfz⟩ : ∃ x, x = formatO (cfgOf m t p f ch) fd := ⟨_, rfl⟩
          rw [← hfz] at hr11
          have HFfz := Lib.hid hfz
          clear hfz
          have HZ11 := Lib.hid hr11
          obtain ⟨a11, c11, rfl, -, q11, -⟩ := hr11.val
          unfold maxLen at q11
          clear HW L10 hb11 hr11 d0 d1 d2 d3 d4
          have hfx : fx.length ≤ 100000000000 := by rw [HFfx.out]; exact format_bound m t p f ch l1 l2 l3 s hs
          have hfy : fy.length ≤ 100000000000 := by rw [HFfy.out]; exact format_bound m t p f ch l1 l2 l3 b hsb
          obtain ⟨aC0, pC0, xC0, hrC0, hoC0, tC0⟩ := bld_copy (Tch.refl (New w11) w11) HX11.out (by omega) 24
          have HRUNC0 := Lib.hid hrC0
          obtain ⟨aC1, pC1, xC1, hrC1, hoC1, tC1⟩ := bld_rd tC0 hoC0 (HY11.out.below (New.below tC0)) (by omega) 24
          have HRUNC1 := Lib.hid hrC1
          obtain ⟨wt, hwt⟩ : ∃ wt, wt = fx ++ fy := ⟨_, rfl⟩
          have hrw := Own.rd hoC1
          have hwl : wt.length = fx.length + fy.length := by rw [hwt]; simp
          have hwl2 : wt.length ≤ 300000000000 := by omega
          have L12 := Lib.hid (L11.out.step (New.below tC1))
          rw [← hwt, ← hwl] at hrw
          rw [← hwl] at HRUNC1
          have hSm := same_calls xC1 (HZ11.out.below (New.below tC1)) hrw
          rw [decide_eq_true (show fz = wt from by rw [HFfz.out, HFD.out, hwt, HFfx.out, HFfy.out, HSE.out, List.append_assoc]; exact format_feeds H32.out HTa.out HTb.out)] at hSm
          have HSM := Lib.hid hSm
          clear hrC0 hoC0 tC0 hrC1 hoC1 tC1 hrw hwl hwt hSm L11 HX11 HY11 HZ11
          go_wp2_with (first | (at_builtin; refine wpList_append_eq rfl (.tmp 67) (.tmp 68) 24 rfl rfl rfl HRUNC0.out ?_) | (at_builtin; refine wpList_append_eq rfl (.tmp 69) (.tmp 70) 24 rfl rfl rfl HRUNC1.out ?_))
          refine HSM.out.mono ?_
          rintro e wq ⟨rfl, rfl⟩
          clear HSM
          obtain ⟨d0, d1, d2, d3, d4⟩ := L12.out.cells
          go_wp2_with fail
          refine (format_calls xC1 m t p f l4 ch (HRB.out.below L12.out.bel) hsb l1 l2 l3).mono ?_
          rintro e w13 ⟨v13, rfl, hr13, hb13⟩
          rw [← HFfy.out] at hr13
          have L13 := Lib.hid (L12.out.step hb13)
          obtain ⟨a13, c13, rfl, -⟩ := hr13.val
          clear hb13 d0 d1 d2 d3 d4
          go_wp2_with fail
          go_ret
          exact ⟨rfl, L13.out.bel⟩
        · go_simp
          have rL := bld_lit wz1
          have tt' := tt.trans (Tch.alloc (New xB2) wz1 (.cells #[.int .u8 10] 5))
          have hne := Nat.ne_of_gt (oE.lt rfl)
          have oE' := oE.kept (Tch.alloc (fun _ => False) wz1 (.cells #[.int .u8 10] 5)) (fun _ _ => id)
          clear oE
          obtain ⟨kL, hkL⟩ : ∃ k, k = wz1.heap.size := ⟨_, rfl⟩
          rw [← hkL] at rL hne
          refine hK _ _ (regrown_of_below (New.below tt')) ?_
          clear hK K
          clear tt
          rw [← hkL]
          generalize World.alloc wz1 (.cells #[.int .u8 10] 5) = wz4 at rL tt' oE' ⊢
          have tt := tt'
          clear tt' hkL
          have oE := oE'
          clear oE'
          refine wpX_one 3 _ (by kernel_rfl) rfl rfl (fun K hK => ?_)
          obtain ⟨a3, p3, wz5, hr3, oA, tt', hl3⟩ := bld_first (kL := kL) (lit := [10]) tt oE (HR.out.below (New.below tt)) (by omega) 24
          refine wp_append_eq (.tmp 52) (.tmp 53) 24 rfl rfl rfl hr3 ?_
          go_simp
          have rL' := hl3 hne rL
          clear rL hne
          refine hK _ _ (regrown_of_below (New.below tt')) ?_
          clear hK K
          clear tt
          clear oE hr3 hl3
          have tt := tt'
          clear tt'
          have rL := rL'
          clear rL'
          refine wpX_one 5 _ (by kernel_rfl) rfl rfl (fun K hK => ?_)
          obtain ⟨a5, p5, ws, hr5, ho5, tt5⟩ := bld_rd tt oA rL (by simp; omega) 24
          have hr5 : (Builtin.append_ #[24, 24] 24 #[.slice a3 a.length p3, .slice (some ⟨kL, 0, none⟩) 1 1]).run Tryd.prog wz5 = .ok (.slice a5 s.length p5) ws := by rw [HSL.out]; exact hr5
          have rd5 : Rd ws (.slice a5 s.length p5) s := by have := Own.rd ho5; rw [← HSE.out] at this; rw [HSL.out]; exact this
          refine wp_append_eq (.tmp 54) (.tmp 55) 24 rfl rfl rfl hr5 ?_
          go_simp
          refine hK _ _ (regrown_of_below (New.below tt5)) ?_
          clear hK K hr5 ho5 oA rL tt
          have tt := tt5
          clear tt5
          refine wpX_one 6 _ (by kernel_rfl) rfl rfl (fun K hK => ?_)
          go_simp
          have tt' := (New.below tt).alloc (New.below tt).size (.cells #[.slice a5 s.length p5] 24)
          refine hK _ _ (regrown_of_below tt') ?_
          clear hK K
          refine wpX_one 7 _ (by kernel_rfl) rfl rfl (fun K hK => ?_)
          go_simp
          refine (write_one ws m t p f l4 ch rd5 (by omega) l1 l2 l3).mono ?_
          rintro e w9 ⟨v9, rfl, hr9, hb9⟩
          have hb19 := (New.below tt).trans (hb9.mono (New.below tt).size)
          refine hK _ _ (regrown_of_below hb19) ?_
          clear hK K
          obtain ⟨fx, hfx⟩ : ∃ x, x = formatO (cfgOf m t p f ch) s := ⟨_, rfl⟩
          rw [← hfx] at hr9
          have HFfx := Lib.hid hfx
          clear hfx
          refine wpX_one 8 _ (by kernel_rfl) rfl rfl (fun K hK => ?_)
          go_simp
          refine hK _ _ (regrown_of_below hb19) ?_
          clear hK K
          refine wpX_end (stg_nil ?_)
          have L9 := Lib.hid (L8.out.step hb19)
          have HX9 := Lib.hid hr9
          have HB9 := Lib.hid (HB8.out.below hb19)
          obtain ⟨a9, c9, rfl, -, q9, -⟩ := hr9.val
          unfold maxLen at q9
          clear hb19 hb9 hr9 tt tt' rd5 HR L8 HB8
          obtain ⟨d0, d1, d2, d3, d4⟩ := L9.out.cells
          have HW := Lib.hid (write_one w9 m t p f l4 ch (HRB.out.below L9.out.bel) (by omega) l1 l2 l3)
          go_wp2_with fail
          refine HW.out.mono ?_
          rintro e w10 ⟨v10, rfl, hr10, hb10⟩
          have L10 := Lib.hid (L9.out.step hb10)
          have HX10 := Lib.hid (HX9.out.below hb10)
          clear HX9
          have HB10 := Lib.hid (HB9.out.below hb10)
          clear HB9
          obtain ⟨fy, hfy⟩ : ∃ x, x = formatO (cfgOf m t p f ch) b := ⟨_, rfl⟩
          rw [← hfy] at hr10
          have HFfy := Lib.hid hfy
          clear hfy
          have HY10 := Lib.hid hr10
          obtain ⟨a10, c10, rfl, -, q10, -⟩ := hr10.val
          unfold maxLen at q10
          clear HW L9 hb10 hr10 d0 d1 d2 d3 d4
          obtain ⟨d0, d1, d2, d3, d4⟩ := L10.out.cells
          have HW := Lib.hid (write_one w10 m t p f l4 ch HB10.out (by omega) l1 l2 l3)
          go_wp2_with fail
          refine HW.out.mono ?_
          rintro e w11 ⟨v11, rfl, hr11, hb11⟩
          have L11 := Lib.hid (L10.out.step hb11)
          have HX11 := Lib.hid (HX10.out.below hb11)
          clear HX10
          have HY11 := Lib.hid (HY10.out.below hb11)
          clear HY10
          obtain ⟨fz, hfz⟩ : ∃ x, x = formatO (cfgOf m t p f ch) fd := ⟨_, rfl⟩
          rw [← hfz] at hr11
          have HFfz := Lib.hid hfz
          clear hfz
          have HZ11 := Lib.hid hr11
          obtain ⟨a11, c11, rfl, -, q11, -⟩ := hr11.val
          unfold maxLen at q11
          clear HW L10 hb11 hr11 d0 d1 d2 d3 d4
          have hfx : fx.length ≤ 100000000000 := by rw [HFfx.out]; exact format_bound m t p f ch l1 l2 l3 s hs
          have hfy : fy.length ≤ 100000000000 := by rw [HFfy.out]; exact format_bound m t p f ch l1 l2 l3 b hsb
          obtain ⟨aC0, pC0, xC0, hrC0, hoC0, tC0⟩ := bld_copy (Tch.refl (New w11) w11) HX11.out (by omega) 24
          have HRUNC0 := Lib.hid hrC0
          obtain ⟨aC1, pC1, xC1, hrC1, hoC1, tC1⟩ := bld_rd tC0 hoC0 (HY11.out.below (New.below tC0)) (by omega) 24
          have HRUNC1 := Lib.hid hrC1
          obtain ⟨wt, hwt⟩ : ∃ wt, wt = fx ++ fy := ⟨_, rfl⟩
          have hrw := Own.rd hoC1
          have hwl : wt.length = fx.length + fy.length := by rw [hwt]; simp
          have hwl2 : wt.length ≤ 300000000000 := by omega
          have L12 := Lib.hid (L11.out.step (New.below tC1))
          rw [← hwt, ← hwl] at hrw
          rw [← hwl] at HRUNC1
          have hSm := same_calls xC1 (HZ11.out.below (New.below tC1)) hrw
          rw [decide_eq_true (show fz = wt from by rw [HFfz.out, HFD.out, hwt, HFfx.out, HFfy.out, HSE.out, List.append_assoc]; exact format_feeds H32.out HTa.out HTb.out)] at hSm
          have HSM := Lib.hid hSm
          clear hrC0 hoC0 tC0 hrC1 hoC1 tC1 hrw hwl hwt hSm L11 HX11 HY11 HZ11
          go_wp2_with (first | (at_builtin; refine wpList_append_eq rfl (.tmp 67) (.tmp 68) 24 rfl rfl rfl HRUNC0.out ?_) | (at_builtin; refine wpList_append_eq rfl (.tmp 69) (.tmp 70) 24 rfl rfl rfl HRUNC1.out ?_))
          refine HSM.out.mono ?_
          rintro e wq ⟨rfl, rfl⟩
          clear HSM
          obtain ⟨d0, d1, d2, d3, d4⟩ := L12.out.cells
          go_wp2_with fail
          refine (format_calls xC1 m t p f l4 ch (HRB.out.below L12.out.bel) hsb l1 l2 l3).mono ?_
          rintro e w13 ⟨v13, rfl, hr13, hb13⟩
          rw [← HFfy.out] at hr13
          have L13 := Lib.hid (L12.out.step hb13)
          obtain ⟨a13, c13, rfl, -⟩ := hr13.val
          clear hb13 d0 d1 d2 d3 d4
          go_wp2_with fail
          go_ret
          exact ⟨rfl, L13.out.bel⟩
      · go_simp
        have rL := bld_lit wd
        have tt' := tt.trans (Tch.alloc (New xB2) wd (.cells #[.int .u8 10] 5))
        obtain ⟨kL, hkL⟩ : ∃ k, k = wd.heap.size := ⟨_, rfl⟩
        rw [← hkL] at rL
        refine hK _ _ (regrown_of_below (New.below tt')) ?_
        clear hK K
        clear tt
        rw [← hkL]
        generalize World.alloc wd (.cells #[.int .u8 10] 5) = wz6 at rL tt' ⊢
        have tt := tt'
        clear tt' hkL
        refine wpX_one 1 _ (by kernel_rfl) rfl rfl (fun K hK => ?_)
        go_simp
        have oE := bld_empty wz6 tt
        have tt' := tt.trans (Tch.alloc (New xB2) wz6 (.cells #[] 5))
        have hne := Nat.ne_of_lt (rL.lt (by simp) rfl)
        have rL' := rL.below ((Below.refl _ wz6).alloc (Nat.le_refl _) (.cells #[] 5))
        clear rL
        obtain ⟨kE, hkE⟩ : ∃ k, k = wz6.heap.size := ⟨_, rfl⟩
        rw [← hkE] at hne oE
        refine hK _ _ (regrown_of_below (New.below tt')) ?_
        clear hK K
        clear tt
        rw [← hkE]
        generalize World.alloc wz6 (.cells #[] 5) = wz7 at oE tt' rL' ⊢
        have tt := tt'
        clear tt' hkE
        have rL := rL'
        clear rL'
        refine wpX_one 3 _ (by kernel_rfl) rfl rfl (fun K hK => ?_)
        obtain ⟨a3, p3, wz8, hr3, oA, tt', hl3⟩ := bld_first (kL := kL) (lit := [10]) tt oE (HR.out.below (New.below tt)) (by omega) 24
        refine wp_append_eq (.tmp 52) (.tmp 53) 24 rfl rfl rfl hr3 ?_
        go_simp
        have rL' := hl3 hne rL
        clear rL hne
        refine hK _ _ (regrown_of_below (New.below tt')) ?_
        clear hK K
        clear tt
        clear oE hr3 hl3
        have tt := tt'
        clear tt'
        have rL := rL'
        clear rL'
        refine wpX_one 5 _ (by kernel_rfl) rfl rfl (fun K hK => ?_)
        obtain ⟨a5, p5, ws, hr5, ho5, tt5⟩ := bld_rd tt oA rL (by simp; omega) 24
        have hr5 : (Builtin.append_ #[24, 24] 24 #[.slice a3 a.length p3, .slice (some ⟨kL, 0, none⟩) 1 1]).run Tryd.prog wz8 = .ok (.slice a5 s.length p5) ws := by rw [HSL.out]; exact hr5
        have rd5 : Rd ws (.slice a5 s.length p5) s := by have := Own.rd ho5; rw [← HSE.out] at this; rw [HSL.out]; exact this
        refine wp_append_eq (.tmp 54) (.tmp 55) 24 rfl rfl rfl hr5 ?_
        go_simp
        refine hK _ _ (regrown_of_below (New.below tt5)) ?_
        clear hK K hr5 ho5 oA rL tt
        have tt := tt5
        clear tt5
        refine wpX_one 6 _ (by kernel_rfl) rfl rfl (fun K hK => ?_)
        go_simp
        have tt' := (New.below tt).alloc (New.below tt).size (.cells #[.slice a5 s.length p5] 24)
        refine hK _ _ (regrown_of_below tt') ?_
        clear hK K
        refine wpX_one 7 _ (by kernel_rfl) rfl rfl (fun K hK => ?_)
        go_simp
        refine (write_one ws m t p f l4 ch rd5 (by omega) l1 l2 l3).mono ?_
        rintro e w9 ⟨v9, rfl, hr9, hb9⟩
        have hb19 := (New.below tt).trans (hb9.mono (New.below tt).size)
        refine hK _ _ (regrown_of_below hb19) ?_
        clear hK K
        obtain ⟨fx, hfx⟩ : ∃ x, x = formatO (cfgOf m t p f ch) s := ⟨_, rfl⟩
        rw [← hfx] at hr9
        have HFfx := Lib.hid hfx
        clear hfx
        refine wpX_one 8 _ (by kernel_rfl) rfl rfl (fun K hK => ?_)
        go_simp
        refine hK _ _ (regrown_of_below hb19) ?_
        clear hK K
        refine wpX_end (stg_nil ?_)
        have L9 := Lib.hid (L8.out.step hb19)
        have HX9 := Lib.hid hr9
        have HB9 := Lib.hid (HB8.out.below hb19)
        obtain ⟨a9, c9, rfl, -, q9, -⟩ := hr9.val
        unfold maxLen at q9
        clear hb19 hb9 hr9 tt tt' rd5 HR L8 HB8
        obtain ⟨d0, d1, d2, d3, d4⟩ := L9.out.cells
        have HW := Lib.hid (write_one w9 m t p f l4 ch (HRB.out.below L9.out.bel) (by omega) l1 l2 l3)
        go_wp2_with fail
        refine HW.out.mono ?_
        rintro e w10 ⟨v10, rfl, hr10, hb10⟩
        have L10 := Lib.hid (L9.out.step hb10)
        have HX10 := Lib.hid (HX9.out.below hb10)
        clear HX9
        have HB10 := Lib.hid (HB9.out.below hb10)
        clear HB9
        obtain ⟨fy, hfy⟩ : ∃ x, x = formatO (cfgOf m t p f ch) b := ⟨_, rfl⟩
        rw [← hfy] at hr10
        have HFfy := Lib.hid hfy
        clear hfy
        have HY10 := Lib.hid hr10
        obtain ⟨a10, c10, rfl, -, q10, -⟩ := hr10.val
        unfold maxLen at q10
        clear HW L9 hb10 hr10 d0 d1 d2 d3 d4
        obtain ⟨d0, d1, d2, d3, d4⟩ := L10.out.cells
        have HW := Lib.hid (write_one w10 m t p f l4 ch HB10.out (by omega) l1 l2 l3)
        go_wp2_with fail
        refine HW.out.mono ?_
        rintro e w11 ⟨v11, rfl, hr11, hb11⟩
        have L11 := Lib.hid (L10.out.step hb11)
        have HX11 := Lib.hid (HX10.out.below hb11)
        clear HX10
        have HY11 := Lib.hid (HY10.out.below hb11)
        clear HY10
        obtain ⟨fz, hfz⟩ : ∃ x, x = formatO (cfgOf m t p f ch) fd := ⟨_, rfl⟩
        rw [← hfz] at hr11
        have HFfz := Lib.hid hfz
        clear hfz
        have HZ11 := Lib.hid hr11
        obtain ⟨a11, c11, rfl, -, q11, -⟩ := hr11.val
        unfold maxLen at q11
        clear HW L10 hb11 hr11 d0 d1 d2 d3 d4
        have hfx : fx.length ≤ 100000000000 := by rw [HFfx.out]; exact format_bound m t p f ch l1 l2 l3 s hs
        have hfy : fy.length ≤ 100000000000 := by rw [HFfy.out]; exact format_bound m t p f ch l1 l2 l3 b hsb
        obtain ⟨aC0, pC0, xC0, hrC0, hoC0, tC0⟩ := bld_copy (Tch.refl (New w11) w11) HX11.out (by omega) 24
        have HRUNC0 := Lib.hid hrC0
        obtain ⟨aC1, pC1, xC1, hrC1, hoC1, tC1⟩ := bld_rd tC0 hoC0 (HY11.out.below (New.below tC0)) (by omega) 24
        have HRUNC1 := Lib.hid hrC1
        obtain ⟨wt, hwt⟩ : ∃ wt, wt = fx ++ fy := ⟨_, rfl⟩
        have hrw := Own.rd hoC1
        have hwl : wt.length = fx.length + fy.length := by rw [hwt]; simp
        have hwl2 : wt.length ≤ 300000000000 := by omega
        have L12 := Lib.hid (L11.out.step (New.below tC1))
        rw [← hwt, ← hwl] at hrw
        rw [← hwl] at HRUNC1
        have hSm := same_calls xC1 (HZ11.out.below (New.below tC1)) hrw
        rw [decide_eq_true (show fz = wt from by rw [HFfz.out, HFD.out, hwt, HFfx.out, HFfy.out, HSE.out, List.append_assoc]; exact format_feeds H32.out HTa.out HTb.out)] at hSm
        have HSM := Lib.hid hSm
        clear hrC0 hoC0 tC0 hrC1 hoC1 tC1 hrw hwl hwt hSm L11 HX11 HY11 HZ11
        go_wp2_with (first | (at_builtin; refine wpList_append_eq rfl (.tmp 67) (.tmp 68) 24 rfl rfl rfl HRUNC0.out ?_) | (at_builtin; refine wpList_append_eq rfl (.tmp 69) (.tmp 70) 24 rfl rfl rfl HRUNC1.out ?_))
        refine HSM.out.mono ?_
        rintro e wq ⟨rfl, rfl⟩
        clear HSM
        obtain ⟨d0, d1, d2, d3, d4⟩ := L12.out.cells
        go_wp2_with fail
        refine (format_calls xC1 m t p f l4 ch (HRB.out.below L12.out.bel) hsb l1 l2 l3).mono ?_
        rintro e w13 ⟨v13, rfl, hr13, hb13⟩
        rw [← HFfy.out] at hr13
        have L13 := Lib.hid (L12.out.step hb13)
        obtain ⟨a13, c13, rfl, -⟩ := hr13.val
        clear hb13 d0 d1 d2 d3 d4
        go_wp2_with fail
        go_ret
        exact ⟨rfl, L13.out.bel⟩
  · go_simp
    have rL := bld_lit wd
    have tt' := tt.trans (Tch.alloc (New wx) wd (.cells #[.int .u8 10] 5))
    obtain ⟨kL, hkL⟩ : ∃ k, k = wd.heap.size := ⟨_, rfl⟩
    rw [← hkL] at rL
    refine hK _ _ (regrown_of_below (New.below tt')) ?_
    clear hK K
    clear tt
    rw [← hkL]
    generalize World.alloc wd (.cells #[.int .u8 10] 5) = wz6 at rL tt' ⊢
    have tt := tt'
    clear tt' hkL
    refine wpX_one 1 _ (by kernel_rfl) rfl rfl (fun K hK => ?_)
    go_simp
    have oE := bld_empty wz6 tt
    have tt' := tt.trans (Tch.alloc (New wx) wz6 (.cells #[] 5))
    have hne := Nat.ne_of_lt (rL.lt (by simp) rfl)
    have rL' := rL.below ((Below.refl _ wz6).alloc (Nat.le_refl _) (.cells #[] 5))
    clear rL
    obtain ⟨kE, hkE⟩ : ∃ k, k = wz6.heap.size := ⟨_, rfl⟩
    rw [← hkE] at hne oE
    refine hK _ _ (regrown_of_below (New.below tt')) ?_
    clear hK K
    clear tt
    rw [← hkE]
    generalize World.alloc wz6 (.cells #[] 5) = wz7 at oE tt' rL' ⊢
    have tt := tt'
    clear tt' hkE
    have rL := rL'
    clear rL'
    refine wpX_one 3 _ (by kernel_rfl) rfl rfl (fun K hK => ?_)
    obtain ⟨a3, p3, wz8, hr3, oA, tt', hl3⟩ := bld_first (kL := kL) (lit := [10]) tt oE (HR.out.below (New.below tt)) (by omega) 24
    refine wp_append_eq (.tmp 21) (.tmp 22) 24 rfl rfl rfl hr3 ?_
    go_simp
    have rL' := hl3 hne rL
    clear rL hne
    refine hK _ _ (regrown_of_below (New.below tt')) ?_
    clear hK K
    clear tt
    clear oE hr3 hl3
    have tt := tt'
    clear tt'
    have rL := rL'
    clear rL'
    refine wpX_one 5 _ (by kernel_rfl) rfl rfl (fun K hK => ?_)
    obtain ⟨a5, p5, ws, hr5, ho5, tt5⟩ := bld_rd tt oA rL (by simp; omega) 24
    have hr5 : (Builtin.append_ #[24, 24] 24 #[.slice a3 a.length p3, .slice (some ⟨kL, 0, none⟩) 1 1]).run Tryd.prog wz8 = .ok (.slice a5 s.length p5) ws := by rw [HSL.out]; exact hr5
    have rd5 : Rd ws (.slice a5 s.length p5) s := by have := Own.rd ho5; rw [← HSE.out] at this; rw [HSL.out]; exact this
    refine wp_append_eq (.tmp 23) (.tmp 24) 24 rfl rfl rfl hr5 ?_
    go_simp
    refine hK _ _ (regrown_of_below (New.below tt5)) ?_
    clear hK K hr5 ho5 oA rL tt
    have tt := tt5
    clear tt5
    refine wpX_one 6 _ (by kernel_rfl) rfl rfl (fun K hK => ?_)
    go_simp
    refine (spaces_calls ws mn tb pd g ch rd5 (Utf8Tabs_below HT.out (LX.out.step (New.below tt)).bel)).mono ?_
    rintro e w6 ⟨xb, rfl, hb6, hfact⟩
    have hb16 := (New.below tt).trans (hb6.mono (New.below tt).size)
    refine hK _ _ (regrown_of_below hb16) ?_
    clear hK K
    have L6 := Lib.hid (LX.out.step hb16)
    have HFA := Lib.hid hfact
    clear hfact hb6 rd5 tt
    cases xb
    · refine wpX_one 7 _ (by kernel_rfl) rfl rfl (fun K hK => ?_)
      go_simp
      refine hK _ _ (regrown_of_below hb16) ?_
      clear hK K
      refine wpX_one 8 _ (by kernel_rfl) rfl rfl (fun K hK => ?_)
      go_simp
      refine hK _ _ (regrown_of_below hb16) ?_
      clear hK K
      refine wpX_end ?_
      refine ⟨(fun w' => ∃ p' : Regrown, w' = grow (redrawn w6 p'.d) p'.os), ⟨⟨w6.drawn, #[]⟩, by rw [grow_empty]; rfl⟩, ?_⟩
      refine wpR_of (lr := [_, _]) rfl ?_
      refine wpR_skip (by kernel_rfl) ?_
      refine wpR_skip (by kernel_rfl) ?_
      refine wpR_nil ?_
      refine wpX_skip 11 _ (by kernel_rfl) rfl (by kernel_rfl) ⟨⟨w6.drawn, #[]⟩, by rw [grow_empty]; rfl⟩ ?_
      refine wpX_skip 12 _ (by kernel_rfl) rfl (by kernel_rfl) ⟨⟨w6.drawn, #[]⟩, by rw [grow_empty]; rfl⟩ ?_
      refine wpX_one 13 _ (by kernel_rfl) rfl rfl (fun K hK => ?_)
      go_simp
      refine hK _ _ ⟨⟨w6.drawn, #[]⟩, by rw [grow_empty]; rfl⟩ ?_
      clear hK K
      refine wpX_one 14 _ (by kernel_rfl) rfl rfl (fun K hK => ?_)
      go_simp
      refine hK _ _ ⟨⟨w6.drawn, #[]⟩, by rw [grow_empty]; rfl⟩ ?_
      clear hK K
      refine wpX_end ?_
      refine ⟨(fun w' => ∃ p' : Regrown, w' = grow (redrawn w6 p'.d) p'.os), ⟨⟨w6.drawn, #[]⟩, by rw [grow_empty]; rfl⟩, ?_⟩
      refine wpR_of (lr := [_]) rfl ?_
      refine wpR_skip (by kernel_rfl) ?_
      refine wpR_nil ?_
      refine wpX_skip 16 _ (by kernel_rfl) rfl (by kernel_rfl) ⟨⟨w6.drawn, #[]⟩, by rw [grow_empty]; rfl⟩ ?_
      refine wpX_skip 17 _ (by kernel_rfl) rfl (by kernel_rfl) ⟨⟨w6.drawn, #[]⟩, by rw [grow_empty]; rfl⟩ ?_
      refine wpX_one 18 _ (by kernel_rfl) rfl rfl (fun K hK => ?_)
      go_simp
      refine hK _ _ ⟨⟨w6.drawn, #[]⟩, by rw [grow_empty]; rfl⟩ ?_
      clear hK K
      refine wpX_one 19 _ (by kernel_rfl) rfl rfl (fun K hK => ?_)
      go_simp
      refine hK _ _ ⟨⟨w6.drawn, #[]⟩, by rw [grow_empty]; rfl⟩ ?_
      clear hK K
      refine wpX_end ?_
      refine ⟨(fun w' => ∃ p' : Regrown, w' = grow (redrawn w6 p'.d) p'.os), ⟨⟨w6.drawn, #[]⟩, by rw [grow_empty]; rfl⟩, ?_⟩
      refine wpR_of (lr := [_]) rfl ?_
      refine wpR_skip (by kernel_rfl) ?_
      refine wpR_nil ?_
      refine wpX_skip 21 _ (by kernel_rfl) rfl (by kernel_rfl) ⟨⟨w6.drawn, #[]⟩, by rw [grow_empty]; rfl⟩ ?_
      refine wpX_skip 22 _ (by kernel_rfl) rfl (by kernel_rfl) ⟨⟨w6.drawn, #[]⟩, by rw [grow_empty]; rfl⟩ ?_
      refine wpX_one 23 _ (by kernel_rfl) rfl rfl (fun K hK => ?_)
      go_simp
      refine hK _ _ ⟨⟨w6.drawn, #[]⟩, by rw [grow_empty]; rfl⟩ ?_
      clear hK K
      refine wpX_end (stg_nil ?_)
      go_wp2_with fail
      go_ret
      exact ⟨rfl, L6.out.bel⟩
    obtain ⟨m, t, p, f, rfl, rfl, rfl, rfl, l1, l2, l3, l4, hs, h9, h128, h16, h32, ho⟩ := HFA.out rfl
    have H32 := Lib.hid h32
    clear HFA h9 h128 h16 h32 ho
    refine wpX_one 7 _ (by kernel_rfl) rfl rfl (fun K hK => ?_)
    go_simp
    refine hK _ _ (regrown_of_below hb16) ?_
    clear hK K
    refine wpX_one 8 _ (by kernel_rfl) rfl rfl (fun K hK => ?_)
    go_simp
    refine hK _ _ (regrown_of_below hb16) ?_
    clear hK K hb16
    refine wpX_end ?_
    obtain ⟨d0, d1, d2, d3, d4⟩ := L6.out.cells
    have k0 : ∀ (p' : Regrown), (grow (redrawn w6 p'.d) p'.os).cell? ⟨w.heap.size, 0, none⟩ = some (.int .i64 m) := fun p' => cell_regrown d0 p'.d p'.os
    have k1 : ∀ (p' : Regrown), (grow (redrawn w6 p'.d) p'.os).cell? ⟨w.heap.size, 1, none⟩ = some (.int .i64 t) := fun p' => cell_regrown d1 p'.d p'.os
    have k2 : ∀ (p' : Regrown), (grow (redrawn w6 p'.d) p'.os).cell? ⟨w.heap.size, 2, none⟩ = some (.int .i64 p) := fun p' => cell_regrown d2 p'.d p'.os
    have k3 : ∀ (p' : Regrown), (grow (redrawn w6 p'.d) p'.os).cell? ⟨w.heap.size, 3, none⟩ = some (.int .u8 ch.toNat) := fun p' => cell_regrown d3 p'.d p'.os
    have k4 : ∀ (p' : Regrown), (grow (redrawn w6 p'.d) p'.os).cell? ⟨w.heap.size, 4, none⟩ = some (.int .i64 f) := fun p' => cell_regrown d4 p'.d p'.os
    refine ⟨(fun w' => ∃ p' : Regrown, w' = grow (redrawn w6 p'.d) p'.os), ⟨⟨w6.drawn, #[]⟩, by rw [grow_empty]; rfl⟩, ?_⟩
    refine wpR_of (lr := [_, _]) rfl ?_
    iterate 2 (refine wpR_stepG (by kernel_rfl) (fun K hK => ?_); go_simp; refine hK _ ?_; clear hK K)
    refine wpR_nil ?_
    clear k0 k1 k2 k3 k4 d0 d1 d2 d3 d4
    refine wpX_one 11 _ (by kernel_rfl) rfl (by kernel_rfl) (fun K hK => ?_)
    go_simp
    refine (spaces_calls w6 m t p f ch (HRB.out.below L6.out.bel) (Utf8Tabs_below HT.out L6.out.bel)).mono ?_
    rintro e w7 ⟨xb, rfl, hb7, hfact⟩
    refine hK _ _ (regrown_of_below hb7) ?_
    clear hK K
    have L7 := Lib.hid (L6.out.step hb7)
    have HFA := Lib.hid hfact
    clear hfact
    cases xb
    · refine wpX_one 12 _ (by kernel_rfl) rfl (by kernel_rfl) (fun K hK => ?_)
      go_simp
      refine hK _ _ (regrown_of_below hb7) ?_
      clear hK K
      refine wpX_one 13 _ (by kernel_rfl) rfl (by kernel_rfl) (fun K hK => ?_)
      go_simp
      refine hK _ _ (regrown_of_below hb7) ?_
      clear hK K
      refine wpX_one 14 _ (by kernel_rfl) rfl (by kernel_rfl) (fun K hK => ?_)
      go_simp
      refine hK _ _ (regrown_of_below hb7) ?_
      clear hK K
      refine wpX_end ?_
      refine ⟨(fun w' => ∃ p' : Regrown, w' = grow (redrawn w7 p'.d) p'.os), ⟨⟨w7.drawn, #[]⟩, by rw [grow_empty]; rfl⟩, ?_⟩
      refine wpR_of (lr := [_]) rfl ?_
      refine wpR_skip (by kernel_rfl) ?_
      refine wpR_nil ?_
      refine wpX_skip 16 _ (by kernel_rfl) rfl (by kernel_rfl) ⟨⟨w7.drawn, #[]⟩, by rw [grow_empty]; rfl⟩ ?_
      refine wpX_skip 17 _ (by kernel_rfl) rfl (by kernel_rfl) ⟨⟨w7.drawn, #[]⟩, by rw [grow_empty]; rfl⟩ ?_
      refine wpX_one 18 _ (by kernel_rfl) rfl rfl (fun K hK => ?_)
      go_simp
      refine hK _ _ ⟨⟨w7.drawn, #[]⟩, by rw [grow_empty]; rfl⟩ ?_
      clear hK K
      refine wpX_one 19 _ (by kernel_rfl) rfl rfl (fun K hK => ?_)
      go_simp
      refine hK _ _ ⟨⟨w7.drawn, #[]⟩, by rw [grow_empty]; rfl⟩ ?_
      clear hK K
      refine wpX_end ?_
      refine ⟨(fun w' => ∃ p' : Regrown, w' = grow (redrawn w7 p'.d) p'.os), ⟨⟨w7.drawn, #[]⟩, by rw [grow_empty]; rfl⟩, ?_⟩
      refine wpR_of (lr := [_]) rfl ?_
      refine wpR_skip (by kernel_rfl) ?_
      refine wpR_nil ?_
      refine wpX_skip 21 _ (by kernel_rfl) rfl (by kernel_rfl) ⟨⟨w7.drawn, #[]⟩, by rw [grow_empty]; rfl⟩ ?_
      refine wpX_skip 22 _ (by kernel_rfl) rfl (by kernel_rfl) ⟨⟨w7.drawn, #[]⟩, by rw [grow_empty]; rfl⟩ ?_
      refine wpX_one 23 _ (by kernel_rfl) rfl rfl (fun K hK => ?_)
      go_simp
      refine hK _ _ ⟨⟨w7.drawn, #[]⟩, by rw [grow_empty]; rfl⟩ ?_
      clear hK K
      refine wpX_end (stg_nil ?_)
      go_wp2_with fail
      go_ret
      exact ⟨rfl, L7.out.bel⟩
    obtain ⟨-, -, -, -, -, -, -, -, -, -, -, -, hsb, -⟩ := HFA.out rfl
    clear HFA
    refine wpX_one 12 _ (by kernel_rfl) rfl (by kernel_rfl) (fun K hK => ?_)
    go_simp
    refine hK _ _ (regrown_of_below hb7) ?_
    clear hK K
    refine wpX_one 13 _ (by kernel_rfl) rfl (by kernel_rfl) (fun K hK => ?_)
    go_simp
    refine hK _ _ (regrown_of_below hb7) ?_
    clear hK K
    refine wpX_one 14 _ (by kernel_rfl) rfl (by kernel_rfl) (fun K hK => ?_)
    go_simp
    refine hK _ _ (regrown_of_below hb7) ?_
    clear hK K
    refine wpX_end ?_
    clear hb7 L6
    refine ⟨(fun w' => ∃ p' : Regrown, w' = grow (redrawn w7 p'.d) p'.os), ⟨⟨w7.drawn, #[]⟩, by rw [grow_empty]; rfl⟩, ?_⟩
    refine wpR_of (lr := [_]) rfl ?_
    iterate 1 (refine wpR_stepG (by kernel_rfl) (fun K hK => ?_); go_simp; refine hK _ ?_; clear hK K)
    refine wpR_nil ?_
    refine wpX_one 16 _ (by kernel_rfl) rfl (by kernel_rfl) (fun K hK => ?_)
    go_simp
    have HTM := tame_calls w7 (HRA.out.below L7.out.bel) (by omega)
    obtain ⟨xt, hxt⟩ : ∃ x, x = tame a := ⟨_, rfl⟩
    rw [← hxt] at HTM
    refine HTM.mono ?_
    rintro e w8 ⟨rfl, rfl⟩
    refine hK _ _ ⟨⟨w7.drawn, #[]⟩, by rw [grow_empty]; rfl⟩ ?_
    clear hK K HTM
    have HXT := Lib.hid hxt
    clear hxt
    cases xt
    · refine wpX_one 17 _ (by kernel_rfl) rfl (by kernel_rfl) (fun K hK => ?_)
      go_simp
      refine hK _ _ ⟨⟨w7.drawn, #[]⟩, by rw [grow_empty]; rfl⟩ ?_
      clear hK K
      refine wpX_one 18 _ (by kernel_rfl) rfl (by kernel_rfl) (fun K hK => ?_)
      go_simp
      refine hK _ _ ⟨⟨w7.drawn, #[]⟩, by rw [grow_empty]; rfl⟩ ?_
      clear hK K
      refine wpX_one 19 _ (by kernel_rfl) rfl (by kernel_rfl) (fun K hK => ?_)
      go_simp
      refine hK _ _ ⟨⟨w7.drawn, #[]⟩, by rw [grow_empty]; rfl⟩ ?_
      clear hK K
      refine wpX_end ?_
      refine ⟨(fun w' => ∃ p' : Regrown, w' = grow (redrawn w7 p'.d) p'.os), ⟨⟨w7.drawn, #[]⟩, by rw [grow_empty]; rfl⟩, ?_⟩
      refine wpR_of (lr := [_]) rfl ?_
      refine wpR_skip (by kernel_rfl) ?_
      refine wpR_nil ?_
      refine wpX_skip 21 _ (by kernel_rfl) rfl (by kernel_rfl) ⟨⟨w7.drawn, #[]⟩, by rw [grow_empty]; rfl⟩ ?_
      refine wpX_skip 22 _ (by kernel_rfl) rfl (by kernel_rfl) ⟨⟨w7.drawn, #[]⟩, by rw [grow_empty]; rfl⟩ ?_
      refine wpX_one 23 _ (by kernel_rfl) rfl rfl (fun K hK => ?_)
      go_simp
      refine hK _ _ ⟨⟨w7.drawn, #[]⟩, by rw [grow_empty]; rfl⟩ ?_
      clear hK K
      refine wpX_end (stg_nil ?_)
      go_wp2_with fail
      go_ret
      exact ⟨rfl, L7.out.bel⟩
    have HTa := Lib.hid (tame_Tm HXT.out.symm)
    clear HXT
    refine wpX_one 17 _ (by kernel_rfl) rfl (by kernel_rfl) (fun K hK => ?_)
    go_simp
    refine hK _ _ ⟨⟨w7.drawn, #[]⟩, by rw [grow_empty]; rfl⟩ ?_
    clear hK K
    refine wpX_one 18 _ (by kernel_rfl) rfl (by kernel_rfl) (fun K hK => ?_)
    go_simp
    refine hK _ _ ⟨⟨w7.drawn, #[]⟩, by rw [grow_empty]; rfl⟩ ?_
    clear hK K
    refine wpX_one 19 _ (by kernel_rfl) rfl (by kernel_rfl) (fun K hK => ?_)
    go_simp
    refine hK _ _ ⟨⟨w7.drawn, #[]⟩, by rw [grow_empty]; rfl⟩ ?_
    clear hK K
    refine wpX_end ?_
    refine ⟨(fun w' => ∃ p' : Regrown, w' = grow (redrawn w7 p'.d) p'.os), ⟨⟨w7.drawn, #[]⟩, by rw [grow_empty]; rfl⟩, ?_⟩
    refine wpR_of (lr := [_]) rfl ?_
    iterate 1 (refine wpR_stepG (by kernel_rfl) (fun K hK => ?_); go_simp; refine hK _ ?_; clear hK K)
    refine wpR_nil ?_
    refine wpX_one 21 _ (by kernel_rfl) rfl (by kernel_rfl) (fun K hK => ?_)
    go_simp
    have HTM := tame_calls w7 (HRB.out.below L7.out.bel) (by omega)
    obtain ⟨xt, hxt⟩ : ∃ x, x = tame b := ⟨_, rfl⟩
    rw [← hxt] at HTM
    refine HTM.mono ?_
    rintro e w8 ⟨rfl, rfl⟩
    refine hK _ _ ⟨⟨w7.drawn, #[]⟩, by rw [grow_empty]; rfl⟩ ?_
    clear hK K HTM
    have HXT := Lib.hid hxt
    clear hxt
    cases xt
    · refine wpX_one 22 _ (by kernel_rfl) rfl (by kernel_rfl) (fun K hK => ?_)
      go_simp
      refine hK _ _ ⟨⟨w7.drawn, #[]⟩, by rw [grow_empty]; rfl⟩ ?_
      clear hK K
      refine wpX_one 23 _ (by kernel_rfl) rfl (by kernel_rfl) (fun K hK => ?_)
      go_simp
      refine hK _ _ ⟨⟨w7.drawn, #[]⟩, by rw [grow_empty]; rfl⟩ ?_
      clear hK K
      refine wpX_end (stg_nil ?_)
      go_wp2_with fail
      go_ret
      exact ⟨rfl, L7.out.bel⟩
    have HTb := Lib.hid (tame_Tm HXT.out.symm)
    clear HXT
    refine wpX_one 22 _ (by kernel_rfl) rfl (by kernel_rfl) (fun K hK => ?_)
    go_simp
    refine hK _ _ ⟨⟨w7.drawn, #[]⟩, by rw [grow_empty]; rfl⟩ ?_
    clear hK K
    refine wpX_one 23 _ (by kernel_rfl) rfl (by kernel_rfl) (fun K hK => ?_)
    go_simp
    refine hK _ _ ⟨⟨w7.drawn, #[]⟩, by rw [grow_empty]; rfl⟩ ?_
    clear hK K
    refine wpX_end (stg_nil ?_)
    clear HR LX
    obtain ⟨aB0, pB0, xB0, hrB0, hoB0, tB0⟩ := bld_copy (Tch.refl (New w7) w7) L7.out.rd (by omega) 24
    have HRUNB0 := Lib.hid hrB0
    obtain ⟨aB1, pB1, xB1, hrB1, hoB1, tB1⟩ := bld_one tB0 hoB0 12 (by omega) 24
    have HRUNB1 := Lib.hid (show (Builtin.append_ #[24, 24] 24 #[.slice aB0 (a.length) pB0, .slice (some ⟨xB0.heap.size, 0, none⟩) 1 1]).run Tryd.prog (xB0.alloc (.cells #[.int .u8 12] 5)) = .ok (.slice aB1 (a.length + 1) pB1) xB1 from hrB1)
    obtain ⟨aB2, pB2, xB2, hrB2, hoB2, tB2⟩ := bld_rd tB1 hoB1 (HRB.out.below (L7.out.bel.trans ((New.below tB1).mono L7.out.bel.size))) (by omega) 24
    have HRUNB2 := Lib.hid hrB2
    obtain ⟨fd, hfd⟩ : ∃ fd, fd = (a ++ [12]) ++ b := ⟨_, rfl⟩
    have hrf := Own.rd hoB2
    have hal : a.length ≤ 3000 := by have := HSL.out; omega
    have hfl : fd.length = a.length + 1 + b.length := by rw [hfd]; simp; omega
    have hfl2 : fd.length ≤ 6001 := by omega
    rw [← hfd, ← hfl] at hrf
    rw [← hfl] at HRUNB2
    have HFD := Lib.hid hfd
    have L8 := Lib.hid (L7.out.step (New.below tB2))
    have HB8 := Lib.hid hrf
    clear hrB0 hoB0 tB0 hrB1 hoB1 tB1 hrB2 hoB2 tB2 hfd hrf hfl L7
    obtain ⟨d0, d1, d2, d3, d4⟩ := L8.out.cells
    have k0 : ∀ (p' : Regrown), (grow (redrawn xB2 p'.d) p'.os).cell? ⟨w.heap.size, 0, none⟩ = some (.int .i64 m) := fun p' => cell_regrown d0 p'.d p'.os
    have k1 : ∀ (p' : Regrown), (grow (redrawn xB2 p'.d) p'.os).cell? ⟨w.heap.size, 1, none⟩ = some (.int .i64 t) := fun p' => cell_regrown d1 p'.d p'.os
    have k2 : ∀ (p' : Regrown), (grow (redrawn xB2 p'.d) p'.os).cell? ⟨w.heap.size, 2, none⟩ = some (.int .i64 p) := fun p' => cell_regrown d2 p'.d p'.os
    have k3 : ∀ (p' : Regrown), (grow (redrawn xB2 p'.d) p'.os).cell? ⟨w.heap.size, 3, none⟩ = some (.int .u8 ch.toNat) := fun p' => cell_regrown d3 p'.d p'.os
    have k4 : ∀ (p' : Regrown), (grow (redrawn xB2 p'.d) p'.os).cell? ⟨w.heap.size, 4, none⟩ = some (.int .i64 f) := fun p' => cell_regrown d4 p'.d p'.os
    go_wp2_with (first | (at_builtin; refine wpList_append_eq rfl (.tmp 44) (.tmp 45) 24 rfl rfl rfl HRUNB0.out ?_) | (at_builtin; refine wpList_append_eq rfl (.tmp 46) (.tmp 47) 24 rfl rfl rfl HRUNB1.out ?_) | (at_builtin; refine wpList_append_eq rfl (.tmp 48) (.tmp 49) 24 rfl rfl rfl HRUNB2.out ?_))
    clear HRUNB0 HRUNB1 HRUNB2
    refine wp_region_stages [([0, 2], [1, 3, 4, 5, 6, 7, 8])] (by kernel_rfl) (by kernel_rfl) (by kernel_rfl) (fun _ _ d _ _ h => by cases d <;> exact h) ?_
    refine ⟨(fun w' => ∃ p' : Regrown, w' = grow (redrawn xB2 p'.d) p'.os), ⟨⟨xB2.drawn + 1, #[]⟩, by rw [grow_empty]; rfl⟩, ?_⟩
    refine wpR_of (lr := [_, _]) rfl ?_
    iterate 2 (refine wpR_step rfl (fun K hK => ?_); go_simp; refine hK _ ?_; clear hK K)
    refine wpR_nil ?_
    clear k0 k1 k2 k3 k4 d0 d1 d2 d3 d4
    have HR := Lib.hid L8.out.rd
    have tt : Tch (New xB2) xB2 xB2.drew := Tch.drew _ _
    generalize xB2.drew = wd at tt ⊢
    refine wpX_two 1 4 _ _ (by kernel_rfl) rfl rfl rfl rfl (fun K hK => ?_) (fun K hK => ?_)
    · go_simp
      have oE := bld_empty wd tt
      have tt' := tt.trans (Tch.alloc (New xB2) wd (.cells #[] 5))
      obtain ⟨kE, hkE⟩ : ∃ k, k = wd.heap.size := ⟨_, rfl⟩
      rw [← hkE] at oE
      refine hK _ _ (regrown_of_below (New.below tt')) ?_
      clear hK K
      clear tt
      rw [← hkE]
      generalize World.alloc wd (.cells #[] 5) = wz1 at oE tt' ⊢
      have tt := tt'
      clear tt' hkE
      refine wpX_two 3 4 _ _ (by kernel_rfl) rfl rfl rfl rfl (fun K hK => ?_) (fun K hK => ?_)
      · obtain ⟨a3, p3, wz2, hr3, oA, tt', hl3⟩ := bld_first (kL := 0) (lit := [10]) tt oE (HR.out.below (New.below tt)) (by omega) 24
        refine wp_append_eq (.tmp 52) (.tmp 53) 24 rfl rfl rfl hr3 ?_
        go_simp
        refine hK _ _ (regrown_of_below (New.below tt')) ?_
        clear hK K
        clear tt
        clear oE hr3 hl3
        have tt := tt'
        clear tt'
        refine wpX_one 4 _ (by kernel_rfl) rfl rfl (fun K hK => ?_)
        go_simp
        have rL := bld_lit wz2
        have tt' := tt.trans (Tch.alloc (New xB2) wz2 (.cells #[.int .u8 10] 5))
        have oA' := oA.kept (Tch.alloc (fun _ => False) wz2 (.cells #[.int .u8 10] 5)) (fun _ _ => id)
        clear oA
        obtain ⟨kL, hkL⟩ : ∃ k, k = wz2.heap.size := ⟨_, rfl⟩
        rw [← hkL] at rL
        refine hK _ _ (regrown_of_below (New.below tt')) ?_
        clear hK K
        clear tt
        rw [← hkL]
        generalize World.alloc wz2 (.cells #[.int .u8 10] 5) = wz3 at rL tt' oA' ⊢
        have tt := tt'
        clear tt' hkL
        have oA := oA'
        clear oA'
        refine wpX_one 5 _ (by kernel_rfl) rfl rfl (fun K hK => ?_)
        obtain ⟨a5, p5, ws, hr5, ho5, tt5⟩ := bld_rd tt oA rL (by simp; omega) 24
        have hr5 : (Builtin.append_ #[24, 24] 24 #[.slice a3 a.length p3, .slice (some ⟨kL, 0, none⟩) 1 1]).run Tryd.prog wz3 = .ok (.slice a5 s.length p5) ws := by rw [HSL.out]; exact hr5
        have rd5 : Rd ws (.slice a5 s.length p5) s := by have := Own.rd ho5; rw [← HSE.out] at this; rw [HSL.out]; exact this
        refine wp_append_eq (.tmp 54) (.tmp 55) 24 rfl rfl rfl hr5 ?_
        go_simp
        refine hK _ _ (regrown_of_below (New.below tt5)) ?_
        clear hK K hr5 ho5 oA rL tt
        have tt := tt5
        clear tt5
        refine wpX_one 6 _ (by kernel_rfl) rfl rfl (fun K hK => ?_)
        go_simp
        have tt' := (New.below tt).alloc (New.below tt).size (.cells #[.slice a5 s.length p5] 24)
        refine hK _ _ (regrown_of_below tt') ?_
        clear hK K
        refine wpX_one 7 _ (by kernel_rfl) rfl rfl (fun K hK => ?_)
        go_simp
        refine (write_one ws m t p f l4 ch rd5 (by omega) l1 l2 l3).mono ?_
        rintro e w9 ⟨v9, rfl, hr9, hb9⟩
        have hb19 := (New.below tt).trans (hb9.mono (New.below tt).size)
        refine hK _ _ (regrown_of_below hb19) ?_
        clear hK K
        obtain ⟨fx, hfx⟩ : ∃ x, x = formatO (cfgOf m t p f ch) s := ⟨_, rfl⟩
        rw [← hfx] at hr9
        have HFfx := Lib.hid hfx
        clear hfx
        refine wpX_one 8 _ (by kernel_rfl) rfl rfl (fun K hK => ?_)
        go_simp
        refine hK _ _ (regrown_of_below hb19) ?_
        clear hK K
        refine wpX_end (stg_nil ?_)
        have L9 := Lib.hid (L8.out.step hb19)
        have HX9 := Lib.hid hr9
        have HB9 := Lib.hid (HB8.out.below hb19)
        obtain ⟨a9, c9, rfl, -, q9, -⟩ := hr9.val
        unfold maxLen at q9
        clear hb19 hb9 hr9 tt tt' rd5 HR L8 HB8
        obtain ⟨d0, d1, d2, d3, d4⟩ := L9.out.cells
        have HW := Lib.hid (write_one w9 m t p f l4 ch (HRB.out.below L9.out.bel) (by omega) l1 l2 l3)
        go_wp2_with fail
        refine HW.out.mono ?_
        rintro e w10 ⟨v10, rfl, hr10, hb10⟩
        have L10 := Lib.hid (L9.out.step hb10)
        have HX10 := Lib.hid (HX9.out.below hb10)
        clear HX9
        have HB10 := Lib.hid (HB9.out.below hb10)
        clear HB9
        obtain ⟨fy, hfy⟩ : ∃ x, x = formatO (cfgOf m t p f ch) b := ⟨_, rfl⟩
        rw [← hfy] at hr10
        have HFfy := Lib.hid hfy
        clear hfy
        have HY10 := Lib.hid hr10
        obtain ⟨a10, c10, rfl, -, q10, -⟩ := hr10.val
        unfold maxLen at q10
        clear HW L9 hb10 hr10 d0 d1 d2 d3 d4
        obtain ⟨d0, d1, d2, d3, d4⟩ := L10.out.cells
        have HW := Lib.hid (write_one w10 m t p f l4 ch HB10.out (by omega) l1 l2 l3)
        go_wp2_with fail
        refine HW.out.mono ?_
        rintro e w11 ⟨v11, rfl, hr11, hb11⟩
        have L11 := Lib.hid (L10.out.step hb11)
        have HX11 := Lib.hid (HX10.out.below hb11)
        clear HX10
        have HY11 := Lib.hid (HY10.out.below hb11)
        clear HY10
        obtain ⟨fz, hfz⟩ : ∃ x, x = formatO (cfgOf m t p f ch) fd := ⟨_, rfl⟩
        rw [← hfz] at hr11
        have HFfz := Lib.hid hfz
        clear hfz
        have HZ11 := Lib.hid hr11
        obtain ⟨a11, c11, rfl, -, q11, -⟩ := hr11.val
        unfold maxLen at q11
        clear HW L10 hb11 hr11 d0 d1 d2 d3 d4
        have hfx : fx.length ≤ 100000000000 := by rw [HFfx.out]; exact format_bound m t p f ch l1 l2 l3 s hs
        have hfy : fy.length ≤ 100000000000 := by rw [HFfy.out]; exact format_bound m t p f ch l1 l2 l3 b hsb
        obtain ⟨aC0, pC0, xC0, hrC0, hoC0, tC0⟩ := bld_copy (Tch.refl (New w11) w11) HX11.out (by omega) 24
        have HRUNC0 := Lib.hid hrC0
        obtain ⟨aC1, pC1, xC1, hrC1, hoC1, tC1⟩ := bld_rd tC0 hoC0 (HY11.out.below (New.below tC0)) (by omega) 24
        have HRUNC1 := Lib.hid hrC1
        obtain ⟨wt, hwt⟩ : ∃ wt, wt = fx ++ fy := ⟨_, rfl⟩
        have hrw := Own.rd hoC1
        have hwl : wt.length = fx.length + fy.length := by rw [hwt]; simp
        have hwl2 : wt.length ≤ 300000000000 := by omega
        have L12 := Lib.hid (L11.out.step (New.below tC1))
        rw [← hwt, ← hwl] at hrw
        rw [← hwl] at HRUNC1
        have hSm := same_calls xC1 (HZ11.out.below (New.below tC1)) hrw
        rw [decide_eq_true (show fz = wt from by rw [HFfz.out, HFD.out, hwt, HFfx.out, HFfy.out, HSE.out, List.append_assoc]; exact format_feeds H32.out HTa.out HTb.out)] at hSm
        have HSM := Lib.hid hSm
        clear hrC0 hoC0 tC0 hrC1 hoC1 tC1 hrw hwl hwt hSm L11 HX11 HY11 HZ11
        go_wp2_with (first | (at_builtin; refine wpList_append_eq rfl (.tmp 67) (.tmp 68) 24 rfl rfl rfl HRUNC0.out ?_) | (at_builtin; refine wpList_append_eq rfl (.tmp 69) (.tmp 70) 24 rfl rfl rfl HRUNC1.out ?_))
        refine HSM.out.mono ?_
        rintro e wq ⟨rfl, rfl⟩
        clear HSM
        obtain ⟨d0, d1, d2, d3, d4⟩ := L12.out.cells
        go_wp2_with fail
        refine (format_calls xC1 m t p f l4 ch (HRB.out.below L12.out.bel) hsb l1 l2 l3).mono ?_
        rintro e w13 ⟨v13, rfl, hr13, hb13⟩
        rw [← HFfy.out] at hr13
        have L13 := Lib.hid (L12.out.step hb13)
        obtain ⟨a13, c13, rfl, -⟩ := hr13.val
        clear hb13 d0 d1 d2 d3 d4
        go_wp2_with fail
        go_ret
        exact ⟨rfl, L13.out.bel⟩
      · go_simp
        have rL := bld_lit wz1
        have tt' := tt.trans (Tch.alloc (New xB2) wz1 (.cells #[.int .u8 10] 5))
        have hne := Nat.ne_of_gt (oE.lt rfl)
        have oE' := oE.kept (Tch.alloc (fun _ => False) wz1 (.cells #[.int .u8 10] 5)) (fun _ _ => id)
        clear oE
        obtain ⟨kL, hkL⟩ : ∃ k, k = wz1.heap.size := ⟨_, rfl⟩
        rw [← hkL] at rL hne
        refine hK _ _ (regrown_of_below (New.below tt')) ?_
        clear hK K
        clear tt
        rw [← hkL]
        generalize World.alloc wz1 (.cells #[.int .u8 10] 5) = wz4 at rL tt' oE' ⊢
        have tt := tt'
        clear tt' hkL
        have oE := oE'
        clear oE'
        refine wpX_one 3 _ (by kernel_rfl) rfl rfl (fun K hK => ?_)
        obtain ⟨a3, p3, wz5, hr3, oA, tt', hl3⟩ := bld_first (kL := kL) (lit := [10]) tt oE (HR.out.below (New.below tt)) (by omega) 24
        refine wp_append_eq (.tmp 52) (.tmp 53) 24 rfl rfl rfl hr3 ?_
        go_simp
        have rL' := hl3 hne rL
        clear rL hne
        refine hK _ _ (regrown_of_below (New.below tt')) ?_
        clear hK K
        clear tt
        clear oE hr3 hl3
        have tt := tt'
        clear tt'
        have rL := rL'
        clear rL'
        refine wpX_one 5 _ (by kernel_rfl) rfl rfl (fun K hK => ?_)
        obtain ⟨a5, p5, ws, hr5, ho5, tt5⟩ := bld_rd tt oA rL (by simp; omega) 24
        have hr5 : (Builtin.append_ #[24, 24] 24 #[.slice a3 a.length p3, .slice (some ⟨kL, 0, none⟩) 1 1]).run Tryd.prog wz5 = .ok (.slice a5 s.length p5) ws := by rw [HSL.out]; exact hr5
        have rd5 : Rd ws (.slice a5 s.length p5) s := by have := Own.rd ho5; rw [← HSE.out] at this; rw [HSL.out]; exact this
        refine wp_append_eq (.tmp 54) (.tmp 55) 24 rfl rfl rfl hr5 ?_
        go_simp
        refine hK _ _ (regrown_of_below (New.below tt5)) ?_
        clear hK K hr5 ho5 oA rL tt
        have tt := tt5
        clear tt5
        refine wpX_one 6 _ (by kernel_rfl) rfl rfl (fun K hK => ?_)
        go_simp
        have tt' := (New.below tt).alloc (New.below tt).size (.cells #[.slice a5 s.length p5] 24)
        refine hK _ _ (regrown_of_below tt') ?_
        clear hK K
        refine wpX_one 7 _ (by kernel_rfl) rfl rfl (fun K hK => ?_)
        go_simp
        refine (write_one ws m t p f l4 ch rd5 (by omega) l1 l2 l3).mono ?_
        rintro e w9 ⟨v9, rfl, hr9, hb9⟩
        have hb19 := (New.below tt).trans (hb9.mono (New.below tt).size)
        refine hK _ _ (regrown_of_below hb19) ?_
        clear hK K
        obtain ⟨fx, hfx⟩ : ∃ x, x = formatO (cfgOf m t p f ch) s := ⟨_, rfl⟩
        rw [← hfx] at hr9
        have HFfx := Lib.hid hfx
        clear hfx
        refine wpX_one 8 _ (by kernel_rfl) rfl rfl (fun K hK => ?_)
        go_simp
        refine hK _ _ (regrown_of_below hb19) ?_
        clear hK K
        refine wpX_end (stg_nil ?_)
        have L9 := Lib.hid (L8.out.step hb19)
        have HX9 := Lib.hid hr9
        have HB9 := Lib.hid (HB8.out.below hb19)
        obtain ⟨a9, c9, rfl, -, q9, -⟩ := hr9.val
        unfold maxLen at q9
        clear hb19 hb9 hr9 tt tt' rd5 HR L8 HB8
        obtain ⟨d0, d1, d2, d3, d4⟩ := L9.out.cells
        have HW := Lib.hid (write_one w9 m t p f l4 ch (HRB.out.below L9.out.bel) (by omega) l1 l2 l3)
        go_wp2_with fail
        refine HW.out.mono ?_
        rintro e w10 ⟨v10, rfl, hr10, hb10⟩
        have L10 := Lib.hid (L9.out.step hb10)
        have HX10 := Lib.hid (HX9.out.below hb10)
        clear HX9
        have HB10 := Lib.hid (HB9.out.below hb10)
        clear HB9
        obtain ⟨fy, hfy⟩ : ∃ x, x = formatO (cfgOf m t p f ch) b := ⟨_, rfl⟩
        rw [← hfy] at hr10
        have HFfy := Lib.hid hfy
        clear hfy
        have HY10 := Lib.hid hr10
        obtain ⟨a10, c10, rfl, -, q10, -⟩ := hr10.val
        unfold maxLen at q10
        clear HW L9 hb10 hr10 d0 d1 d2 d3 d4
        obtain ⟨d0, d1, d2, d3, d4⟩ := L10.out.cells
        have HW := Lib.hid (write_one w10 m t p f l4 ch HB10.out (by omega) l1 l2 l3)
        go_wp2_with fail
        refine HW.out.mono ?_
        rintro e w11 ⟨v11, rfl, hr11, hb11⟩
        have L11 := Lib.hid (L10.out.step hb11)
        have HX11 := Lib.hid (HX10.out.below hb11)
        clear HX10
        have HY11 := Lib.hid (HY10.out.below hb11)
        clear HY10
        obtain ⟨fz, hfz⟩ : ∃ x, x = formatO (cfgOf m t p f ch) fd := ⟨_, rfl⟩
        rw [← hfz] at hr11
        have HFfz := Lib.hid hfz
        clear hfz
        have HZ11 := Lib.hid hr11
        obtain ⟨a11, c11, rfl, -, q11, -⟩ := hr11.val
        unfold maxLen at q11
        clear HW L10 hb11 hr11 d0 d1 d2 d3 d4
        have hfx : fx.length ≤ 100000000000 := by rw [HFfx.out]; exact format_bound m t p f ch l1 l2 l3 s hs
        have hfy : fy.length ≤ 100000000000 := by rw [HFfy.out]; exact format_bound m t p f ch l1 l2 l3 b hsb
        obtain ⟨aC0, pC0, xC0, hrC0, hoC0, tC0⟩ := bld_copy (Tch.refl (New w11) w11) HX11.out (by omega) 24
        have HRUNC0 := Lib.hid hrC0
        obtain ⟨aC1, pC1, xC1, hrC1, hoC1, tC1⟩ := bld_rd tC0 hoC0 (HY11.out.below (New.below tC0)) (by omega) 24
        have HRUNC1 := Lib.hid hrC1
        obtain ⟨wt, hwt⟩ : ∃ wt, wt = fx ++ fy := ⟨_, rfl⟩
        have hrw := Own.rd hoC1
        have hwl : wt.length = fx.length + fy.length := by rw [hwt]; simp
        have hwl2 : wt.length ≤ 300000000000 := by omega
        have L12 := Lib.hid (L11.out.step (New.below tC1))
        rw [← hwt, ← hwl] at hrw
        rw [← hwl] at HRUNC1
        have hSm := same_calls xC1 (HZ11.out.below (New.below tC1)) hrw
        rw [decide_eq_true (show fz = wt from by rw [HFfz.out, HFD.out, hwt, HFfx.out, HFfy.out, HSE.out, List.append_assoc]; exact format_feeds H32.out HTa.out HTb.out)] at hSm
        have HSM := Lib.hid hSm
        clear hrC0 hoC0 tC0 hrC1 hoC1 tC1 hrw hwl hwt hSm L11 HX11 HY11 HZ11
        go_wp2_with (first | (at_builtin; refine wpList_append_eq rfl (.tmp 67) (.tmp 68) 24 rfl rfl rfl HRUNC0.out ?_) | (at_builtin; refine wpList_append_eq rfl (.tmp 69) (.tmp 70) 24 rfl rfl rfl HRUNC1.out ?_))
        refine HSM.out.mono ?_
        rintro e wq ⟨rfl, rfl⟩
        clear HSM
        obtain ⟨d0, d1, d2, d3, d4⟩ := L12.out.cells
        go_wp2_with fail
        refine (format_calls xC1 m t p f l4 ch (HRB.out.below L12.out.bel) hsb l1 l2 l3).mono ?_
        rintro e w13 ⟨v13, rfl, hr13, hb13⟩
        rw [← HFfy.out] at hr13
        have L13 := Lib.hid (L12.out.step hb13)
        obtain ⟨a13, c13, rfl, -⟩ := hr13.val
        clear hb13 d0 d1 d2 d3 d4
        go_wp2_with fail
        go_ret
        exact ⟨rfl, L13.out.bel⟩
    · go_simp
      have rL := bld_lit wd
      have tt' := tt.trans (Tch.alloc (New xB2) wd (.cells #[.int .u8 10] 5))
      obtain ⟨kL, hkL⟩ : ∃ k, k = wd.heap.size := ⟨_, rfl⟩
      rw [← hkL] at rL
      refine hK _ _ (regrown_of_below (New.below tt')) ?_
      clear hK K
      clear tt
      rw [← hkL]
      generalize World.alloc wd (.cells #[.int .u8 10] 5) = wz6 at rL tt' ⊢
      have tt := tt'
      clear tt' hkL
      refine wpX_one 1 _ (by kernel_rfl) rfl rfl (fun K hK => ?_)
      go_simp
      have oE := bld_empty wz6 tt
      have tt' := tt.trans (Tch.alloc (New xB2) wz6 (.cells #[] 5))
      have hne := Nat.ne_of_lt (rL.lt (by simp) rfl)
      have rL' := rL.below ((Below.refl _ wz6).alloc (Nat.le_refl _) (.cells #[] 5))
      clear rL
      obtain ⟨kE, hkE⟩ : ∃ k, k = wz6.heap.size := ⟨_, rfl⟩
      rw [← hkE] at hne oE
      refine hK _ _ (regrown_of_below (New.below tt')) ?_
      clear hK K
      clear tt
      rw [← hkE]
      generalize World.alloc wz6 (.cells #[] 5) = wz7 at oE tt' rL' ⊢
      have tt := tt'
      clear tt' hkE
      have rL := rL'
      clear rL'
      refine wpX_one 3 _ (by kernel_rfl) rfl rfl (fun K hK => ?_)
      obtain ⟨a3, p3, wz8, hr3, oA, tt', hl3⟩ := bld_first (kL := kL) (lit := [10]) tt oE (HR.out.below (New.below tt)) (by omega) 24
      refine wp_append_eq (.tmp 52) (.tmp 53) 24 rfl rfl rfl hr3 ?_
      go_simp
      have rL' := hl3 hne rL
      clear rL hne
      refine hK _ _ (regrown_of_below (New.below tt')) ?_
      clear hK K
      clear tt
      clear oE hr3 hl3
      have tt := tt'
      clear tt'
      have rL := rL'
      clear rL'
      refine wpX_one 5 _ (by kernel_rfl) rfl rfl (fun K hK => ?_)
      obtain ⟨a5, p5, ws, hr5, ho5, tt5⟩ := bld_rd tt oA rL (by simp; omega) 24
      have hr5 : (Builtin.append_ #[24, 24] 24 #[.slice a3 a.length p3, .slice (some ⟨kL, 0, none⟩) 1 1]).run Tryd.prog wz8 = .ok (.slice a5 s.length p5) ws := by rw [HSL.out]; exact hr5
      have rd5 : Rd ws (.slice a5 s.length p5) s := by have := Own.rd ho5; rw [← HSE.out] at this; rw [HSL.out]; exact this
      refine wp_append_eq (.tmp 54) (.tmp 55) 24 rfl rfl rfl hr5 ?_
      go_simp
      refine hK _ _ (regrown_of_below (New.below tt5)) ?_
      clear hK K hr5 ho5 oA rL tt
      have tt := tt5
      clear tt5
      refine wpX_one 6 _ (by kernel_rfl) rfl rfl (fun K hK => ?_)
      go_simp
      have tt' := (New.below tt).alloc (New.below tt).size (.cells #[.slice a5 s.length p5] 24)
      refine hK _ _ (regrown_of_below tt') ?_
      clear hK K
      refine wpX_one 7 _ (by kernel_rfl) rfl rfl (fun K hK => ?_)
      go_simp
      refine (write_one ws m t p f l4 ch rd5 (by omega) l1 l2 l3).mono ?_
      rintro e w9 ⟨v9, rfl, hr9, hb9⟩
      have hb19 := (New.below tt).trans (hb9.mono (New.below tt).size)
      refine hK _ _ (regrown_of_below hb19) ?_
      clear hK K
      obtain ⟨fx, hfx⟩ : ∃ x, x = formatO (cfgOf m t p f ch) s := ⟨_, rfl⟩
      rw [← hfx] at hr9
      have HFfx := Lib.hid hfx
      clear hfx
      refine wpX_one 8 _ (by kernel_rfl) rfl rfl (fun K hK => ?_)
      go_simp
      refine hK _ _ (regrown_of_below hb19) ?_
      clear hK K
      refine wpX_end (stg_nil ?_)
      have L9 := Lib.hid (L8.out.step hb19)
      have HX9 := Lib.hid hr9
      have HB9 := Lib.hid (HB8.out.below hb19)
      obtain ⟨a9, c9, rfl, -, q9, -⟩ := hr9.val
      unfold maxLen at q9
      clear hb19 hb9 hr9 tt tt' rd5 HR L8 HB8
      obtain ⟨d0, d1, d2, d3, d4⟩ := L9.out.cells
      have HW := Lib.hid (write_one w9 m t p f l4 ch (HRB.out.below L9.out.bel) (by omega) l1 l2 l3)
      go_wp2_with fail
      refine HW.out.mono ?_
      rintro e w10 ⟨v10, rfl, hr10, hb10⟩
      have L10 := Lib.hid (L9.out.step hb10)
      have HX10 := Lib.hid (HX9.out.below hb10)
      clear HX9
      have HB10 := Lib.hid (HB9.out.below hb10)
      clear HB9
      obtain ⟨fy, hfy⟩ : ∃ x, x = formatO (cfgOf m t p f ch) b := ⟨_, rfl⟩
      rw [← hfy] at hr10
      have HFfy := Lib.hid hfy
      clear hfy
      have HY10 := Lib.hid hr10
      obtain ⟨a10, c10, rfl, -, q10, -⟩ := hr10.val
      unfold maxLen at q10
      clear HW L9 hb10 hr10 d0 d1 d2 d3 d4
      obtain ⟨d0, d1, d2, d3, d4⟩ := L10.out.cells
      have HW := Lib.hid (write_one w10 m t p f l4 ch HB10.out (by omega) l1 l2 l3)
      go_wp2_with fail
      refine HW.out.mono ?_
      rintro e w11 ⟨v11, rfl, hr11, hb11⟩
      have L11 := Lib.hid (L10.out.step hb11)
      have HX11 := Lib.hid (HX10.out.below hb11)
      clear HX10
      have HY11 := Lib.hid (HY10.out.below hb11)
      clear HY10
      obtain ⟨fz, hfz⟩ : ∃ x, x = formatO (cfgOf m t p f ch) fd := ⟨_, rfl⟩
      rw [← hfz] at hr11
      have HFfz := Lib.hid hfz
      clear hfz
      have HZ11 := Lib.hid hr11
      obtain ⟨a11, c11, rfl, -, q11, -⟩ := hr11.val
      unfold maxLen at q11
      clear HW L10 hb11 hr11 d0 d1 d2 d3 d4
      have hfx : fx.length ≤ 100000000000 := by rw [HFfx.out]; exact format_bound m t p f ch l1 l2 l3 s hs
      have hfy : fy.length ≤ 100000000000 := by rw [HFfy.out]; exact format_bound m t p f ch l1 l2 l3 b hsb
      obtain ⟨aC0, pC0, xC0, hrC0, hoC0, tC0⟩ := bld_copy (Tch.refl (New w11) w11) HX11.out (by omega) 24
      have HRUNC0 := Lib.hid hrC0
      obtain ⟨aC1, pC1, xC1, hrC1, hoC1, tC1⟩ := bld_rd tC0 hoC0 (HY11.out.below (New.below tC0)) (by omega) 24
      have HRUNC1 := Lib.hid hrC1
      obtain ⟨wt, hwt⟩ : ∃ wt, wt = fx ++ fy := ⟨_, rfl⟩
      have hrw := Own.rd hoC1
      have hwl : wt.length = fx.length + fy.length := by rw [hwt]; simp
      have hwl2 : wt.length ≤ 300000000000 := by omega
      have L12 := Lib.hid (L11.out.step (New.below tC1))
      rw [← hwt, ← hwl] at hrw
      rw [← hwl] at HRUNC1
      have hSm := same_calls xC1 (HZ11.out.below (New.below tC1)) hrw
      rw [decide_eq_true (show fz = wt from by rw [HFfz.out, HFD.out, hwt, HFfx.out, HFfy.out, HSE.out, List.append_assoc]; exact format_feeds H32.out HTa.out HTb.out)] at hSm
      have HSM := Lib.hid hSm
      clear hrC0 hoC0 tC0 hrC1 hoC1 tC1 hrw hwl hwt hSm L11 HX11 HY11 HZ11
      go_wp2_with (first | (at_builtin; refine wpList_append_eq rfl (.tmp 67) (.tmp 68) 24 rfl rfl rfl HRUNC0.out ?_) | (at_builtin; refine wpList_append_eq rfl (.tmp 69) (.tmp 70) 24 rfl rfl rfl HRUNC1.out ?_))
      refine HSM.out.mono ?_
      rintro e wq ⟨rfl, rfl⟩
      clear HSM
      obtain ⟨d0, d1, d2, d3, d4⟩ := L12.out.cells
      go_wp2_with fail
      refine (format_calls xC1 m t p f l4 ch (HRB.out.below L12.out.bel) hsb l1 l2 l3).mono ?_
      rintro e w13 ⟨v13, rfl, hr13, hb13⟩
      rw [← HFfy.out] at hr13
      have L13 := Lib.hid (L12.out.step hb13)
      obtain ⟨a13, c13, rfl, -⟩ := hr13.val
      clear hb13 d0 d1 d2 d3 d4
      go_wp2_with fail
      go_ret
      exact ⟨rfl, L13.out.bel⟩
end Go.Proofs.YthcjaegnnfiboaaDoor

namespace Go.Proofs.YthcjaegnnfiboaaDoor.fnFeeds
open Go.ChangeShapes Go.WideShapes Go.ChangeAt Go.RowKit
set_option maxRecDepth 100000

theorem own : ownKnob Tryd.prog.godebug = none := by kernel_rfl

theorem contract (H : Type) (enc : TypeId × Value → H) (W : World) (base : Nat) (args : Array Value) (ds gs : List (DataW H)) (before : List MemPlace)
    (hval : ∀ (j : Nat) t v, Tryd.f8.params[j]? = some t → args[j]? = some v → Value.okWide Tryd.prog W .any base t v)
    (hW : DataW.Whole enc Tryd.prog Tryd.f8.params.toList Rows.fnFeedsSpec.vars false W args.toList ds gs before)
    (hL : laidMetH Tryd.prog Rows.fnFeedsRow.laid W) :
    Calls Tryd.prog 8 args W fun e W' => ∃ v, e = .returned v ∧ Rows.fnFeedsSpec.post enc Tryd.prog Tryd.f8 false true false false W args v W' := by
  have hW' := hW
  obtain ⟨p, q, hA0, hV, rfl, hfz, hnd⟩ := hW
  have hA : DataW.TrodAll enc Tryd.prog W 0 (fun _ => true) true Tryd.f8.params.toList args.toList ds p := hA0
  rw [Tryd.params8] at hA hval
  obtain ⟨v0, vs0, d0, ds0, p0, q0, hargs, rfl, rfl, h0, r0⟩ := trodAll_cons hA
  obtain ⟨v1, vs1, d1, ds1, p1, q1, rfl, rfl, rfl, h1, r1⟩ := trodAll_cons r0
  obtain ⟨v2, vs2, d2, ds2, p2, q2, rfl, rfl, rfl, h2, r2⟩ := trodAll_cons r1
  obtain ⟨rfl, rfl, rfl⟩ := trodAll_nil r2
  obtain rfl : args = #[v0, v1, v2] := by cases args; simp_all
  obtain ⟨mn0, tb0, pd0, fl0, ch0, rfl⟩ := open_conf (hval 0 _ _ rfl rfl)
  obtain ⟨bs1, hrd1⟩ := open_rd (hval 1 _ _ rfl rfl) h1
  obtain ⟨bs2, hrd2⟩ := open_rd (hval 2 _ _ rfl rfl) h2
  refine (feedsLaw_calls W mn0 tb0 pd0 fl0 ch0 hrd1 hrd2 (tabs_of hL)).mono fun e W' ⟨he, hb⟩ => ?_
  subst he
  refine ⟨_, rfl, law_post rfl ?_ (by kernel_rfl) ?_ hW' hb⟩
  · intro ds hds
    match ds, hds with
    | [a, b, c], _ => rfl
  · rw [Tryd.params8]
    intro t ht
    simp at ht
    rcases ht with rfl | rfl <;> exact of_decide_eq_true (by kernel_rfl)

theorem laid_met (os : Os) : laidMet Tryd.prog Rows.fnFeedsRow.laid ((laidWorld os).forCall (fun _ _ => 0) ⟨#[], #[conf0, .slice none 0 0, .slice none 0 0], []⟩).memory :=
  laidMet_of_run' 8 (by kernel_rfl) (by kernel_rfl)
theorem reads (os : Os) {H : Type} (enc : TypeId × Value → H) : ∃ places, DataW.whole enc Tryd.prog ((laidWorld os).forCall (fun _ _ => 0) ⟨#[], #[conf0, .slice none 0 0, .slice none 0 0], []⟩).memory Tryd.f8.params.toList Rows.fnFeedsSpec.vars false (#[conf0, .slice none 0 0, .slice none 0 0] : Array Value).toList 8 = some ([.agg [.lit (.int .i64 0), .lit (.int .i64 0), .lit (.int .i64 0), .lit (.int .u8 0), .lit (.int .i64 0)], .nil, .nil], [], places) :=
  ⟨[], by kernel_rfl⟩

set_option maxRecDepth 100000 in
theorem lifted (os : Os) (started : os.Started) (H : Type) (enc : TypeId × Value → H) (F : Stop.Interp) :
    ReturnsInHanded {} Tryd.checked os 8 .any ((OpenSpec.ofChange Rows.fnFeedsSpec).preRow enc Tryd.prog Tryd.f8 Rows.fnFeedsRow.domain false Rows.fnFeedsRow.laid) (((OpenSpec.ofChange Rows.fnFeedsSpec).at F).post enc Tryd.prog Tryd.f8 false true false false) := by
  obtain ⟨places, hx⟩ := reads os enc
  refine returnsInHanded_of_row (C := Tryd.checked) (s := OpenSpec.ofChange Rows.fnFeedsSpec) own started (by kernel_rfl) Tryd.func8
    (witness_row_at (enc := enc) (C := Tryd.checked) false (laidWorld os) #[conf0, .slice none 0 0, .slice none 0 0] rfl (by kernel_rfl) (by kernel_rfl) (by kernel_rfl)
      (OpenSpec.preRow_of_cond 8 hx (by kernel_rfl) (fun k hk => by cases hk) (by kernel_rfl) (laid_met os))) ?_
  intro W base args ds gs before hval hW _ _ _ hL _ _
  exact contract H enc W base args ds gs before hval hW hL

theorem said : Rows.FnFeedsSaid :=
  OpenClaim.holds_of_cond 8 Tryd.f8 rfl rfl rfl rfl rfl rfl rfl ⟨rfl, rfl, rfl, rfl, rfl⟩ rfl rfl rfl rfl rfl (by kernel_rfl) Tryd.func8 (by kernel_rfl)
    (of_decide_eq_true (by kernel_rfl)) (by unfold Func.isWrapper; first | (rw [if_pos (by decide +kernel)]; kernel_rfl) | (rw [if_neg (by decide +kernel)]; exact ⟨rfl, rfl⟩))
    (fun os started H enc _ F => by rw [OpenClaim.pre_eq_preRow]; exact lifted os started H enc F)

theorem plain (f : FuncId) (fn : Func) (hf : Tryd.pinned.checked.prog.funcNamed "loop.example/pub-tabcolumns/laws.FnFeeds" = some f) (hfn : Tryd.pinned.checked.prog.funcs[f]? = some fn) :
    true = Tryd.pinned.checked.prog.looks [] ∧ ∀ (j : Nat) t, fn.params[j]? = some t → Tryd.pinned.checked.prog.wantsStandIn t = false := by
  obtain rfl : f = 8 := Option.some.inj ((show Tryd.prog.funcNamed "loop.example/pub-tabcolumns/laws.FnFeeds" = some 8 by kernel_rfl).symm.trans hf) |>.symm
  obtain rfl : fn = Tryd.f8 := (Option.some.inj (Tryd.func8.symm.trans hfn)).symm
  refine ⟨by kernel_rfl, fun j t ht => ?_⟩
  rw [Tryd.params8] at ht
  have hm := Array.mem_of_getElem? ht
  simp at hm
  rcases hm with rfl | rfl
  · exact (show Tryd.prog.wantsStandIn 23 = false by kernel_rfl)
  · exact (show Tryd.prog.wantsStandIn 24 = false by kernel_rfl)

theorem card : Rows.FnFeedsCardSaid :=
  Claim7.holds_tied_plain_at .later [] _ _ _ _ said (fun _ h => by cases h) (by kernel_rfl) (fun _ h => by cases h) fnFeeds_row_tie rfl ⟨rfl, rfl⟩ (by kernel_rfl) rfl plain (by kernel_rfl)
end Go.Proofs.YthcjaegnnfiboaaDoor.fnFeeds

namespace Go.Proofs.YthcjaegnnfiboaaDoor
theorem fnFeeds_card : Rows.FnFeedsCardSaid := fnFeeds.card
#print axioms fnFeeds_card
end Go.Proofs.YthcjaegnnfiboaaDoor
