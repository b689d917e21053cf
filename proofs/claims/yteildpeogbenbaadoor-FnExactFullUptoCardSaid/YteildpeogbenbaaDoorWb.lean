/- Walks: append, updateWidth .. -/
import Derived.Test.YteildpeogbenbaaDoorRc
import Derived.Test.YteildpeogbenbaaDoorOrd
import Derived.Deep.RegionHeld3
import Derived.Deep.RegionWith
import Derived.Deep.QuietTactic
import Derived.BigQuiet
namespace Go.Proofs.YteildpeogbenbaaDoor
open Go.RowKit Go.Tw Go.Sort
set_option maxRecDepth 100000

theorem Rd.news {w : World} {k o : Nat} {bs : List UInt8} (h : ∀ j (h : j < bs.length), w.cell? ⟨k, o + j, none⟩ = some (bv bs[j])) : ∀ j u, (bvs bs)[j]? = some u → w.cell? ((⟨k, o, none⟩ : Addr).add j) = some u := by
  intro j u hj
  have hlt : j < bs.length := by have := (List.getElem?_eq_some_iff.1 hj).1; simpa using this
  rw [bvs_get bs j hlt] at hj
  simp only [Option.some.injEq] at hj
  subst hj
  have := h j hlt
  cases j with
  | zero => simpa [Addr.add] using this
  | succ j => simpa [Addr.add] using this

section
variable {F : Nat → Prop} {w : World} {B S : Nat} {c : Cfg} {s : St}

/-- The cells of the writer's block. -/
theorem cell_of_blk {w : World} {B : Nat} {cs : Array Value} {t : TypeId} (h : w.heap[B]? = some (.cells cs t (0, 0))) (k : Nat) : w.cell? ⟨B, k, none⟩ = cs[k]? := by simp [World.cell?, h]
theorem frozen_of_blk {w : World} {B : Nat} {cs : Array Value} {t : TypeId} (h : w.heap[B]? = some (.cells cs t (0, 0))) (k : Nat) : w.frozen? ⟨B, k, none⟩ = false := by simp [World.frozen?, h]
theorem blk_set {w : World} {B : Nat} {cs : Array Value} {t : TypeId} (h : w.heap[B]? = some (.cells cs t (0, 0))) (k : Nat) (v : Value) : (w.setCell ⟨B, k, none⟩ v).heap[B]? = some (.cells (cs.setIfInBounds k v) t (0, 0)) := by
  simp [World.setCell, Array.getElem?_modify, h]

set_option maxHeartbeats 400000 in
theorem append_some (hF : ∀ k, w.heap.size ≤ k → F k) (hrep : Rep F w B S c s) {k o cp : Nat} {bs : List UInt8} (hrd : ∀ j (h : j < bs.length), w.cell? ⟨k, o + j, none⟩ = some (bv bs[j])) (hb : s.buf.length + bs.length ≤ 140737488355328) (hs : s.csize + bs.length ≤ 140737488355328) :
    Calls Tryd.prog 34 #[.pointer (some ⟨B, 0, none⟩), .slice (some ⟨k, o, none⟩) bs.length cp] w fun e w' => e = .returned (.tuple #[]) ∧ Rep F w' B S c { s with buf := s.buf ++ bs, csize := s.csize + bs.length } ∧ Tch F w w' := by
  obtain ⟨bufv, lv, wv, ov, vs, h⟩ := hrep
  obtain ⟨i0, hi, hz0, hz1, hz2⟩ := info_parts Tryd.info_u8
  have c13 : w.cell? ⟨B, 13, none⟩ = some bufv := cell_of_blk h.blk 13
  go_enter Tryd.func34, Tryd.ntmps34
  go_wp2_with (at_builtin; refine wpList_append_Own rfl (.tmp 8) (.tmp 9) 26 rfl F 5 i0 (.int .u8 0) 1 1 Tryd.underlying26 hi hz0 hz1 hz2 rfl (by decide) bufv _ _ rfl h.parts.buf ⟨k, o, none⟩ bs.length cp (bvs bs) rfl ?c1 ?c2 ?c3 ?c4 ?c5 hF ?_)
  case c1 => simp
  case c2 => exact Rd.news hrd
  case c3 => exact bvs_one bs
  case c4 => unfold maxLen; omega
  case c5 => omega
  intro v' w1 hown hgrow hblk
  have hBne : bufv.ownBlock ≠ some B := h.parts.buf.ne h.blk (by decide)
  have hB1 : w1.heap[B]? = some (.cells (wcells S c bufv s.pos s.csize s.cw false s.en lv wv) 77 (0, 0)) := by rw [hgrow.block B (Array.getElem?_eq_some_iff.1 h.blk).1 (fun e => hBne e.symm)]; exact h.blk
  have d13 : w1.cell? ⟨B, 13, none⟩ = some bufv := cell_of_blk hB1 13
  have d15 : w1.cell? ⟨B, 15, none⟩ = some (.int .i64 s.csize) := cell_of_blk hB1 15
  have f13 := frozen_of_blk hB1 13
  have f15 := frozen_of_blk hB1 15
  obtain ⟨ao, cp', rfl⟩ := hown.shape
  have HB := Lib.hid hB1
  have HG := Lib.hid hgrow
  clear hB1 hgrow c13
  go_wp2
  go_end0
  have hP := h.parts.bufGrown hown rfl rfl HG.out hblk
  have e1 := blk_set HB.out 13 (.slice ao (s.buf.length + bs.length) cp')
  have e2 := blk_set e1 15 (.int .i64 ((s.csize : Int) + bs.length))
  refine ⟨rfl, ⟨_, lv, wv, ov, vs, ?_, h.FB, (hP.setB HB.out 13 _).setB e1 15 _⟩, ?_⟩
  · rw [e2]; simp [wcells]
  · exact ((Tch.grown HG.out (fun k e => h.parts.buf.mem k e)).trans (Tch.setCell _ h.FB _)).trans (Tch.setCell _ h.FB _)

set_option maxHeartbeats 400000 in
theorem updateWidth_calls (hrep : Rep F w B S c s) (hp : s.pos ≤ s.buf.length) (hb : s.buf.length ≤ 140737488355328) (hcw : -140737488355328 ≤ s.cw ∧ s.cw ≤ 140737488355328) :
    Calls Tryd.prog 35 #[.pointer (some ⟨B, 0, none⟩)] w fun e w' => e = .returned (.tuple #[]) ∧ Rep F w' B S c { s with cw := s.cw + rc (s.buf.drop s.pos), pos := s.buf.length } ∧ Tch F w w' := by
  obtain ⟨bufv, lv, wv, ov, vs, h⟩ := hrep
  obtain ⟨ao, cp, rfl⟩ := h.parts.buf.shape
  have c13 : w.cell? ⟨B, 13, none⟩ = some (.slice ao s.buf.length cp) := cell_of_blk h.blk 13
  have c14 : w.cell? ⟨B, 14, none⟩ = some (.int .i64 s.pos) := cell_of_blk h.blk 14
  have c16 : w.cell? ⟨B, 16, none⟩ = some (.int .i64 s.cw) := cell_of_blk h.blk 16
  have f16 := frozen_of_blk h.blk 16
  have hB : B < w.heap.size := lt_of_heap h.blk
  have hpi : (s.pos : Int) ≤ (s.buf.length : Int) := by omega
  have hR := rc_le (s.buf.drop s.pos)
  have hL : (s.buf.drop s.pos).length < 9223372036854775807 := by simp; omega
  have hl2 : (s.buf.drop s.pos).length ≤ s.buf.length := by simp
  have HL := Lib.hid hL
  clear hL
  have hrd := Rd.dropped (Own.rd h.parts.buf) hp
  obtain ⟨a2, ha2⟩ : ∃ a2, (if cp = s.pos then ao else Option.map (fun x => x.add s.pos) ao) = a2 := ⟨_, rfl⟩
  rw [ha2] at hrd
  have HR := Lib.hid hrd
  clear hrd
  go_enter Tryd.func35, Tryd.ntmps35
  go_wp2_with fail
  have k13 : ∀ (p : Regrown), (grow (redrawn w p.d) p.os).cell? ⟨B, 13, none⟩ = some (.slice ao s.buf.length cp) := fun p => cell_regrown c13 p.d p.os
  have k14 : ∀ (p : Regrown), (grow (redrawn w p.d) p.os).cell? ⟨B, 14, none⟩ = some (.int .i64 s.pos) := fun p => cell_regrown c14 p.d p.os
  have k16 : ∀ (p : Regrown), (grow (redrawn w p.d) p.os).cell? ⟨B, 16, none⟩ = some (.int .i64 s.cw) := fun p => cell_regrown c16 p.d p.os
  refine wp_region_rf (fun w' => ∃ p : Regrown, w' = grow (redrawn w p.d) p.os) [0, 1, 2, 3, 4, 5, 6, 7, 8, 9, 10, 11, 12, 13] [14, 15, 16, 17, 18, 19] 2 [_, _, _, _, _, _, _, _, _, _, _, _, _, _] [_, _, _, _, _, _] (by kernel_rfl) (by kernel_rfl) rfl rfl (fun _ _ d _ _ h => by cases d <;> exact h) ⟨⟨w.drawn + 1, #[]⟩, by rw [grow_empty]; rfl⟩ ?_
  iterate 14 (refine wpR_step rfl (fun K hK => ?_); go_simp; refine hK _ ?_; clear hK K)
  refine wpR_nil ?_
  refine wpE_step rfl (fun K hK => ?_)
  go_simp
  refine (runeCount_calls (w := w.drew) HR.out.drew HL.out).mono ?_
  rintro e w1 ⟨rfl, hbel⟩
  refine hK _ _ (regrown_of_below ⟨hbel.os, hbel.tape, hbel.output, hbel.size, hbel.block⟩) ?_
  clear hK K
  have e16 : w1.cell? ⟨B, 16, none⟩ = some (.int .i64 s.cw) := (hbel.cell (p := ⟨B, 16, none⟩) hB).trans c16
  have e13 : w1.cell? ⟨B, 13, none⟩ = some (.slice ao s.buf.length cp) := (hbel.cell (p := ⟨B, 13, none⟩) hB).trans c13
  have e14 : w1.cell? ⟨B, 14, none⟩ = some (.int .i64 s.pos) := (hbel.cell (p := ⟨B, 14, none⟩) hB).trans c14
  have g16 : w1.frozen? ⟨B, 16, none⟩ = false := (hbel.frozen (p := ⟨B, 16, none⟩) hB).trans f16
  have g14 : w1.frozen? ⟨B, 14, none⟩ = false := (hbel.frozen (p := ⟨B, 14, none⟩) hB).trans (frozen_of_blk h.blk 14)
  clear k13 k14 k16
  refine wpE_step rfl (fun K hK => ?_)
  go_simp
  refine hK _ _ (regrown_of_below ⟨hbel.os, hbel.tape, hbel.output, hbel.size, hbel.block⟩) ?_
  clear hK K
  refine wpE_zero ?_
  go_wp2
  go_end0
  have hb1 : Below w.heap.size w w1 := ⟨hbel.os, hbel.tape, hbel.output, hbel.size, hbel.block⟩
  have h1 := h.kept (Tch.of_below (F := fun _ => False) hb1) (fun _ _ _ => id)
  have e1 := blk_set h1.blk 16 (.int .i64 (s.cw + rc (s.buf.drop s.pos)))
  have e2 := blk_set e1 14 (.int .i64 s.buf.length)
  exact ⟨rfl, ⟨_, lv, wv, ov, vs, by rw [e2]; simp [wcells], h.FB, (h1.parts.setB h1.blk 16 _).setB e1 14 _⟩, (Tch.of_below hb1).trans ((Tch.setCell _ h.FB _).trans (Tch.setCell _ h.FB _))⟩

theorem startEscape_calls (n : Int) (e : UInt8) (hn : n = 255 ∧ e = 255 ∨ n = 60 ∧ e = 62 ∨ n = 38 ∧ e = 59) (hrep : Rep F w B S c s) :
    Calls Tryd.prog 41 #[.pointer (some ⟨B, 0, none⟩), .int .u8 n] w fun ed w' => ed = .returned (.tuple #[]) ∧ Rep F w' B S c { s with en := e } ∧ Tch F w w' := by
  obtain ⟨bufv, lv, wv, ov, vs, h⟩ := hrep
  have c18 : w.cell? ⟨B, 18, none⟩ = some (bv s.en) := cell_of_blk h.blk 18
  have f18 := frozen_of_blk h.blk 18
  have e1 := blk_set h.blk 18 (bv e)
  have fin : Rep F (w.setCell ⟨B, 18, none⟩ (bv e)) B S c { s with en := e } ∧ Tch F w (w.setCell ⟨B, 18, none⟩ (bv e)) :=
    ⟨⟨bufv, lv, wv, ov, vs, by rw [e1]; simp [wcells], h.FB, h.parts.setB h.blk 18 _⟩, Tch.setCell _ h.FB _⟩
  have FIN := Lib.hid fin
  clear fin e1
  rcases hn with ⟨rfl, rfl⟩ | ⟨rfl, rfl⟩ | ⟨rfl, rfl⟩
  · go_enter Tryd.func41, Tryd.ntmps41
    go_wp2
    go_end0
    exact ⟨rfl, FIN.out⟩
  · go_enter Tryd.func41, Tryd.ntmps41
    go_wp2
    go_end0
    exact ⟨rfl, FIN.out⟩
  · go_enter Tryd.func41, Tryd.ntmps41
    go_wp2
    go_end0
    exact ⟨rfl, FIN.out⟩

end
end Go.Proofs.YteildpeogbenbaaDoor

namespace Go.Proofs.YteildpeogbenbaaDoor
open Go.RowKit Go.Tw Go.Sort
set_option maxRecDepth 100000
section
variable {F : Nat → Prop} {w : World} {B S : Nat} {c : Cfg} {s : St}

set_option maxHeartbeats 400000 in
theorem endEscape_tag (hrep : Rep F w B S c s) (_ : Int) (d : Int) (he : s.en.toNat = 62 ∧ d = 0 ∨ s.en.toNat = 59 ∧ d = 1) (hcw : -140737488355328 ≤ s.cw ∧ s.cw ≤ 140737488355328) :
    Calls Tryd.prog 42 #[.pointer (some ⟨B, 0, none⟩)] w fun ed w' => ed = .returned (.tuple #[]) ∧ Rep F w' B S c { s with cw := s.cw + d, pos := s.buf.length, en := 0 } ∧ Tch F w w' := by
  obtain ⟨bufv, lv, wv, ov, vs, h⟩ := hrep
  obtain ⟨ao, cp, rfl⟩ := h.parts.buf.shape
  have c13 : w.cell? ⟨B, 13, none⟩ = some (.slice ao s.buf.length cp) := cell_of_blk h.blk 13
  have c14 : w.cell? ⟨B, 14, none⟩ = some (.int .i64 s.pos) := cell_of_blk h.blk 14
  have c16 : w.cell? ⟨B, 16, none⟩ = some (.int .i64 s.cw) := cell_of_blk h.blk 16
  have f14 := frozen_of_blk h.blk 14
  have f16 := frozen_of_blk h.blk 16
  have f18 := frozen_of_blk h.blk 18
  rcases he with ⟨hen, rfl⟩ | ⟨hen, rfl⟩
  · have c18 : w.cell? ⟨B, 18, none⟩ = some (.int .u8 62) := by have : w.cell? ⟨B, 18, none⟩ = some (bv s.en) := cell_of_blk h.blk 18; rw [this, bv, hen]; rfl
    go_enter Tryd.func42, Tryd.ntmps42
    go_wp2
    go_end0
    have e1 := blk_set h.blk 14 (.int .i64 s.buf.length)
    have e2 := blk_set e1 18 (.int .u8 0)
    exact ⟨rfl, ⟨_, lv, wv, ov, vs, by rw [e2]; simp [wcells, bv], h.FB, (h.parts.setB h.blk 14 _).setB e1 18 _⟩, (Tch.setCell _ h.FB _).trans (Tch.setCell _ h.FB _)⟩
  · have c18 : w.cell? ⟨B, 18, none⟩ = some (.int .u8 59) := by have : w.cell? ⟨B, 18, none⟩ = some (bv s.en) := cell_of_blk h.blk 18; rw [this, bv, hen]; rfl
    go_enter Tryd.func42, Tryd.ntmps42
    go_wp2
    go_end0
    have e0 := blk_set h.blk 16 (.int .i64 (s.cw + 1))
    have e1 := blk_set e0 14 (.int .i64 s.buf.length)
    have e2 := blk_set e1 18 (.int .u8 0)
    exact ⟨rfl, ⟨_, lv, wv, ov, vs, by rw [e2]; simp [wcells, bv], h.FB, ((h.parts.setB h.blk 16 _).setB e0 14 _).setB e1 18 _⟩, ((Tch.setCell _ h.FB _).trans (Tch.setCell _ h.FB _)).trans (Tch.setCell _ h.FB _)⟩

set_option maxHeartbeats 400000 in
theorem endEscape_esc (hrep : Rep F w B S c s) (hen : s.en = 255) (hp : s.pos ≤ s.buf.length) (hb : s.buf.length ≤ 140737488355328) (hcw : -1407374883553 ≤ s.cw ∧ s.cw ≤ 1407374883553) (strip : Bool) (hst : (bits BinOp.and IntKind.u64 (c.fl : Int) 2 == 0) = !strip) :
    Calls Tryd.prog 42 #[.pointer (some ⟨B, 0, none⟩)] w fun ed w' => ed = .returned (.tuple #[]) ∧ Rep F w' B S c { s with cw := s.cw + rc (s.buf.drop s.pos) - (if strip then 0 else 2), pos := s.buf.length, en := 0 } ∧ Tch F w w' := by
  have hR := rc_le (s.buf.drop s.pos)
  have hl2 : (s.buf.drop s.pos).length ≤ s.buf.length := by simp
  have c18 : w.cell? ⟨B, 18, none⟩ = some (.int .u8 255) := by
    obtain ⟨bufv, lv, wv, ov, vs, h⟩ := hrep
    have : w.cell? ⟨B, 18, none⟩ = some (bv s.en) := cell_of_blk h.blk 18
    rw [this, hen]; rfl
  have HU := Lib.hid (updateWidth_calls hrep hp hb ⟨by omega, by omega⟩)
  clear hrep
  cases strip
  · simp only [Bool.not_false] at hst
    go_enter Tryd.func42, Tryd.ntmps42
    go_wp2_with (go_at_call 35; refine HU.out.mono ?_)
    rintro e w1 ⟨rfl, hrep1, ht⟩
    obtain ⟨bufv, lv, wv, ov, vs, hrp⟩ := hrep1
    obtain ⟨ao, cp, rfl⟩ := hrp.parts.buf.shape
    have c12 : w1.cell? ⟨B, 12, none⟩ = some (.int .u64 c.fl) := cell_of_blk hrp.blk 12
    have c13 : w1.cell? ⟨B, 13, none⟩ = some (.slice ao s.buf.length cp) := cell_of_blk hrp.blk 13
    have c14 : w1.cell? ⟨B, 14, none⟩ = some (.int .i64 s.buf.length) := cell_of_blk hrp.blk 14
    have c16 : w1.cell? ⟨B, 16, none⟩ = some (.int .i64 (s.cw + rc (s.buf.drop s.pos))) := cell_of_blk hrp.blk 16
    have c18 : w1.cell? ⟨B, 18, none⟩ = some (bv s.en) := cell_of_blk hrp.blk 18
    have f14 := frozen_of_blk hrp.blk 14
    have f16 := frozen_of_blk hrp.blk 16
    have f18 := frozen_of_blk hrp.blk 18
    clear HU
    go_wp2
    go_end0
    have e0 := blk_set hrp.blk 16 (.int .i64 (s.cw + rc (s.buf.drop s.pos) - 2))
    have e1 := blk_set e0 14 (.int .i64 s.buf.length)
    have e2 := blk_set e1 18 (.int .u8 0)
    exact ⟨rfl, ⟨_, lv, wv, ov, vs, by rw [e2]; simp [wcells, bv], hrp.FB, ((hrp.parts.setB hrp.blk 16 _).setB e0 14 _).setB e1 18 _⟩, ((ht.trans (Tch.setCell _ hrp.FB _)).trans (Tch.setCell _ hrp.FB _)).trans (Tch.setCell _ hrp.FB _)⟩
  · simp only [Bool.not_true] at hst
    go_enter Tryd.func42, Tryd.ntmps42
    go_wp2_with (go_at_call 35; refine HU.out.mono ?_)
    rintro e w1 ⟨rfl, hrep1, ht⟩
    obtain ⟨bufv, lv, wv, ov, vs, hrp⟩ := hrep1
    obtain ⟨ao, cp, rfl⟩ := hrp.parts.buf.shape
    have c12 : w1.cell? ⟨B, 12, none⟩ = some (.int .u64 c.fl) := cell_of_blk hrp.blk 12
    have c13 : w1.cell? ⟨B, 13, none⟩ = some (.slice ao s.buf.length cp) := cell_of_blk hrp.blk 13
    have c14 : w1.cell? ⟨B, 14, none⟩ = some (.int .i64 s.buf.length) := cell_of_blk hrp.blk 14
    have c18 : w1.cell? ⟨B, 18, none⟩ = some (bv s.en) := cell_of_blk hrp.blk 18
    have f14 := frozen_of_blk hrp.blk 14
    have f18 := frozen_of_blk hrp.blk 18
    clear HU
    go_wp2
    go_end0
    have e1 := blk_set hrp.blk 14 (.int .i64 s.buf.length)
    have e2 := blk_set e1 18 (.int .u8 0)
    exact ⟨rfl, ⟨_, lv, wv, ov, vs, by rw [e2]; simp [wcells, bv], hrp.FB, (hrp.parts.setB hrp.blk 14 _).setB e1 18 _⟩, (ht.trans (Tch.setCell _ hrp.FB _)).trans (Tch.setCell _ hrp.FB _)⟩
end
end Go.Proofs.YteildpeogbenbaaDoor
