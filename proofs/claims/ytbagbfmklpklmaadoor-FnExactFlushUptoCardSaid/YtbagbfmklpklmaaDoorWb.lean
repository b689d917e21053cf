/- Walks: endEscape, terminateCell. -/
import Derived.Test.YtbagbfmklpklmaaDoorWa
namespace Go.Proofs.YtbagbfmklpklmaaDoor
open Go.RowKit Go.Tw Go.Sort
set_option maxRecDepth 100000
section
variable {F : Nat → Prop} {w : World} {B S : Nat} {c : Cfg} {s : St}

set_option maxHeartbeats 400000 in
theorem endEscape_tag (hrep : Rep F w B S c s) (_ : Int) (d : Int) (he : s.en.toNat = 62 ∧ d = 0 ∨ s.en.toNat = 59 ∧ d = 1) (hcw : -140737488355328 ≤ s.cw ∧ s.cw ≤ 140737488355328) :
    Calls Tryd.prog 42 #[.pointer (some ⟨B, 0, none⟩)] w fun ed w' => ed = .returned (.tuple #[]) ∧ Rep F w' B S c { s with cw := s.cw + d, pos := s.buf.length, en := 0 } ∧ Tch F w w' := by
  obtain ⟨bufv, lv, wv, ov, vs, h⟩ := hrep
  obtain ⟨ao, cp, rfl⟩ := h.parts.buf.shape
  have c13 : w.cell? ⟨B, 13, none⟩ = some (.slice ao s.buf.length cp) := cell_of_blk h.blk 13
  have c14 : w.cell? ⟨B, 14, none⟩ = some (.int .i64 s.pos) := cell_of_blk h.blk 14
  have c16 : w.cell? ⟨B, 16, none⟩ = some (.int .i64 s.cw) := cell_of_blk h.blk 16
  have f14 := frozen_of_blk h.blk 14
  have f16 := frozen_of_blk h.blk 16
  have f18 := frozen_of_blk h.blk 18
  rcases he with ⟨hen, rfl⟩ | ⟨hen, rfl⟩
  · have c18 : w.cell? ⟨B, 18, none⟩ = some (.int .u8 62) := by have : w.cell? ⟨B, 18, none⟩ = some (bv s.en) := cell_of_blk h.blk 18; rw [this, bv, hen]; rfl
    go_enter Tryd.func42, Tryd.ntmps42
    go_wp2
    go_end0
    have e1 := blk_set h.blk 14 (.int .i64 s.buf.length)
    have e2 := blk_set e1 18 (.int .u8 0)
    exact ⟨rfl, ⟨_, lv, wv, ov, vs, by rw [e2]; simp [wcells, bv], h.FB, (h.parts.setB h.blk 14 _).setB e1 18 _⟩, (Tch.setCell _ h.FB _).trans (Tch.setCell _ h.FB _)⟩
  · have c18 : w.cell? ⟨B, 18, none⟩ = some (.int .u8 59) := by have : w.cell? ⟨B, 18, none⟩ = some (bv s.en) := cell_of_blk h.blk 18; rw [this, bv, hen]; rfl
    go_enter Tryd.func42, Tryd.ntmps42
    go_wp2
    go_end0
    have e0 := blk_set h.blk 16 (.int .i64 (s.cw + 1))
    have e1 := blk_set e0 14 (.int .i64 s.buf.length)
    have e2 := blk_set e1 18 (.int .u8 0)
    exact ⟨rfl, ⟨_, lv, wv, ov, vs, by rw [e2]; simp [wcells, bv], h.FB, ((h.parts.setB h.blk 16 _).setB e0 14 _).setB e1 18 _⟩, ((Tch.setCell _ h.FB _).trans (Tch.setCell _ h.FB _)).trans (Tch.setCell _ h.FB _)⟩

set_option maxHeartbeats 400000 in
theorem endEscape_esc (hrep : Rep F w B S c s) (hen : s.en = 255) (hp : s.pos ≤ s.buf.length) (hb : s.buf.length ≤ 140737488355328) (hcw : -1407374883553 ≤ s.cw ∧ s.cw ≤ 1407374883553) (strip : Bool) (hst : (bits BinOp.and IntKind.u64 (c.fl : Int) 2 == 0) = !strip) :
    Calls Tryd.prog 42 #[.pointer (some ⟨B, 0, none⟩)] w fun ed w' => ed = .returned (.tuple #[]) ∧ Rep F w' B S c { s with cw := s.cw + rc (s.buf.drop s.pos) - (if strip then 0 else 2), pos := s.buf.length, en := 0 } ∧ Tch F w w' := by
  have hR := rc_le (s.buf.drop s.pos)
  have hl2 : (s.buf.drop s.pos).length ≤ s.buf.length := by simp
  have c18 : w.cell? ⟨B, 18, none⟩ = some (.int .u8 255) := by
    obtain ⟨bufv, lv, wv, ov, vs, h⟩ := hrep
    have : w.cell? ⟨B, 18, none⟩ = some (bv s.en) := cell_of_blk h.blk 18
    rw [this, hen]; rfl
  have HU := Lib.hid (updateWidth_calls hrep hp hb ⟨by omega, by omega⟩)
  clear hrep
  cases strip
  · simp only [Bool.not_false] at hst
    go_enter Tryd.func42, Tryd.ntmps42
    go_wp2_with (go_at_call 35; refine HU.out.mono ?_)
    rintro e w1 ⟨rfl, hrep1, ht⟩
    obtain ⟨bufv, lv, wv, ov, vs, hrp⟩ := hrep1
    obtain ⟨ao, cp, rfl⟩ := hrp.parts.buf.shape
    have c12 : w1.cell? ⟨B, 12, none⟩ = some (.int .u64 c.fl) := cell_of_blk hrp.blk 12
    have c13 : w1.cell? ⟨B, 13, none⟩ = some (.slice ao s.buf.length cp) := cell_of_blk hrp.blk 13
    have c14 : w1.cell? ⟨B, 14, none⟩ = some (.int .i64 s.buf.length) := cell_of_blk hrp.blk 14
    have c16 : w1.cell? ⟨B, 16, none⟩ = some (.int .i64 (s.cw + rc (s.buf.drop s.pos))) := cell_of_blk hrp.blk 16
    have c18 : w1.cell? ⟨B, 18, none⟩ = some (bv s.en) := cell_of_blk hrp.blk 18
    have f14 := frozen_of_blk hrp.blk 14
    have f16 := frozen_of_blk hrp.blk 16
    have f18 := frozen_of_blk hrp.blk 18
    clear HU
    go_wp2
    go_end0
    have e0 := blk_set hrp.blk 16 (.int .i64 (s.cw + rc (s.buf.drop s.pos) - 2))
    have e1 := blk_set e0 14 (.int .i64 s.buf.length)
    have e2 := blk_set e1 18 (.int .u8 0)
    exact ⟨rfl, ⟨_, lv, wv, ov, vs, by rw [e2]; simp [wcells, bv], hrp.FB, ((hrp.parts.setB hrp.blk 16 _).setB e0 14 _).setB e1 18 _⟩, ((ht.trans (Tch.setCell _ hrp.FB _)).trans (Tch.setCell _ hrp.FB _)).trans (Tch.setCell _ hrp.FB _)⟩
  · simp only [Bool.not_true] at hst
    go_enter Tryd.func42, Tryd.ntmps42
    go_wp2_with (go_at_call 35; refine HU.out.mono ?_)
    rintro e w1 ⟨rfl, hrep1, ht⟩
    obtain ⟨bufv, lv, wv, ov, vs, hrp⟩ := hrep1
    obtain ⟨ao, cp, rfl⟩ := hrp.parts.buf.shape
    have c12 : w1.cell? ⟨B, 12, none⟩ = some (.int .u64 c.fl) := cell_of_blk hrp.blk 12
    have c13 : w1.cell? ⟨B, 13, none⟩ = some (.slice ao s.buf.length cp) := cell_of_blk hrp.blk 13
    have c14 : w1.cell? ⟨B, 14, none⟩ = some (.int .i64 s.buf.length) := cell_of_blk hrp.blk 14
    have c18 : w1.cell? ⟨B, 18, none⟩ = some (bv s.en) := cell_of_blk hrp.blk 18
    have f14 := frozen_of_blk hrp.blk 14
    have f18 := frozen_of_blk hrp.blk 18
    clear HU
    go_wp2
    go_end0
    have e1 := blk_set hrp.blk 14 (.int .i64 s.buf.length)
    have e2 := blk_set e1 18 (.int .u8 0)
    exact ⟨rfl, ⟨_, lv, wv, ov, vs, by rw [e2]; simp [wcells, bv], hrp.FB, (hrp.parts.setB hrp.blk 14 _).setB e1 18 _⟩, (ht.trans (Tch.setCell _ hrp.FB _)).trans (Tch.setCell _ hrp.FB _)⟩
end
end Go.Proofs.YtbagbfmklpklmaaDoor
