/- Walks: reset. -/
import Derived.Test.YtbagbfmklpklmaaDoorWd
namespace Go.Proofs.YtbagbfmklpklmaaDoor
open Go.RowKit Go.Tw Go.Sort
set_option maxRecDepth 100000
section
variable {F : Nat → Prop} {w : World} {B S : Nat} {c : Cfg} {s : St}

theorem Own.cut0 {e : TypeId} {size : Nat} {ao : Option Addr} {n cp : Nat} {xs : List Value} (h : Own F w e size (.slice ao n cp) n xs) : Own F w e size (.slice ao 0 cp) 0 [] := by
  refine ⟨⟨by simp, ?_⟩, fun x hx => h.mem x (by cases ao <;> exact hx)⟩
  rcases h.row.2 with ⟨e, _⟩ | ⟨g, cap', cur, e, hb, hg, hc, hm, hs, _⟩
  · simp only [Value.slice.injEq] at e
    obtain ⟨rfl, _, rfl⟩ := e
    exact .inl ⟨rfl, rfl⟩
  · simp only [Value.slice.injEq] at e
    obtain ⟨rfl, _, rfl⟩ := e
    exact .inr ⟨g, cp, cur, rfl, hb, hg, Nat.zero_le _, hm, hs, by simp⟩

theorem LinesOwn.cut0 {ao : Option Addr} {n cp : Nat} {lines : List (List PC)} {vs : List Value} (h : LinesOwn F w (.slice ao n cp) lines vs) : LinesOwn F w (.slice ao 0 cp) [] vs := by
  refine ⟨?_, Nat.zero_le _, fun i v hv => ?_, h.ne⟩
  · rcases h.val with ⟨e, h2⟩ | ⟨L, e, h1, h2, h3⟩
    · simp only [Value.slice.injEq] at e
      obtain ⟨rfl, _, rfl⟩ := e
      exact .inl ⟨rfl, h2⟩
    · simp only [Value.slice.injEq] at e
      obtain ⟨rfl, _, rfl⟩ := e
      exact .inr ⟨L, rfl, h1, h2, h3⟩
  · obtain ⟨n, xs, ho, _⟩ := h.row i v hv
    exact ⟨n, xs, ho, fun l hl => by simp at hl⟩

theorem LinesOwn.shape {lv : Value} {lines : List (List PC)} {vs : List Value} (h : LinesOwn F w lv lines vs) : ∃ ao, lv = .slice ao lines.length vs.length := by
  rcases h.val with ⟨rfl, rfl⟩ | ⟨L, rfl, _⟩
  · have := h.le; simp at this; exact ⟨none, by rw [this]; rfl⟩
  · exact ⟨_, rfl⟩

set_option maxHeartbeats 1000000 in
theorem reset_calls (hF : ∀ k, w.heap.size ≤ k → F k) (hrep : Rep F w B S c s) :
    Calls Tryd.prog 53 #[.pointer (some ⟨B, 0, none⟩)] w fun ed w' => ed = .returned (.tuple #[]) ∧ Rep F w' B S c { s with buf := [], pos := 0, csize := 0, cw := 0, en := 0, lines := [[]], ws := [] } ∧ Tch F w w' := by
  obtain ⟨bufv, lv, wv, ov, vs, hrp⟩ := hrep
  obtain ⟨ab, cb, rfl⟩ := hrp.parts.buf.shape
  obtain ⟨aw, cw, rfl⟩ := hrp.parts.wds.shape
  obtain ⟨al, rfl⟩ := hrp.parts.lines.shape
  have c13 : w.cell? ⟨B, 13, none⟩ = some (.slice ab s.buf.length cb) := cell_of_blk hrp.blk 13
  have c19 : w.cell? ⟨B, 19, none⟩ = some (.slice al s.lines.length vs.length) := cell_of_blk hrp.blk 19
  have c20 : w.cell? ⟨B, 20, none⟩ = some (.slice aw s.ws.length cw) := cell_of_blk hrp.blk 20
  have fz := fun k => frozen_of_blk hrp.blk k
  have x1 : (if vs.length = 0 then al else Option.map (fun x => x.add 0) al) = al := by cases al <;> simp [Addr.add]
  have x2 : (if cw = 0 then aw else Option.map (fun x => x.add 0) aw) = aw := by cases aw <;> simp [Addr.add]
  have z14 : w.cell? ⟨B, 14, none⟩ = some (.int .i64 s.pos) := cell_of_blk hrp.blk 14
  have z15 : w.cell? ⟨B, 15, none⟩ = some (.int .i64 s.csize) := cell_of_blk hrp.blk 15
  have z16 : w.cell? ⟨B, 16, none⟩ = some (.int .i64 s.cw) := cell_of_blk hrp.blk 16
  have z17 : w.cell? ⟨B, 17, none⟩ = some (.bool false) := cell_of_blk hrp.blk 17
  have z18 : w.cell? ⟨B, 18, none⟩ = some (bv s.en) := cell_of_blk hrp.blk 18
  have e1 := blk_set hrp.blk 13 (.slice ab 0 cb)
  have e2 := blk_set e1 14 (.int .i64 0)
  have e3 := blk_set e2 15 (.int .i64 0)
  have e4 := blk_set e3 16 (.int .i64 0)
  have e5 := blk_set e4 17 (.bool false)
  have e6 := blk_set e5 18 (.int .u8 0)
  have e7 := blk_set e6 19 (.slice al 0 vs.length)
  have e8 := blk_set e7 20 (.slice aw 0 cw)
  have hP0 : Parts F w S c.room [] [] [] s.out (.slice ab 0 cb) (.slice al 0 vs.length) (.slice aw 0 cw) ov vs :=
    ⟨by simpa [bvs] using Own.cut0 hrp.parts.buf, hrp.parts.lines.cut0, by simpa [ivs] using Own.cut0 hrp.parts.wds, hrp.parts.sink, hrp.parts.FS, hrp.parts.out, by
      rcases hrp.parts.ne with h | h
      · exact .inl h
      · exact .inr (by cases ab <;> exact h)⟩
  have hP := (((((((hP0.setB hrp.blk 13 (.slice ab 0 cb)).setB e1 14 (.int .i64 0)).setB e2 15 (.int .i64 0)).setB e3 16 (.int .i64 0)).setB e4 17 (.bool false)).setB e5 18 (.int .u8 0)).setB e6 19 (.slice al 0 vs.length)).setB e7 20 (.slice aw 0 cw)
  have hT := (((((((Tch.setCell (F := F) (a := ⟨B, 13, none⟩) w hrp.FB (.slice ab 0 cb)).trans (Tch.setCell (a := ⟨B, 14, none⟩) _ hrp.FB (.int .i64 0))).trans (Tch.setCell (a := ⟨B, 15, none⟩) _ hrp.FB (.int .i64 0))).trans (Tch.setCell (a := ⟨B, 16, none⟩) _ hrp.FB (.int .i64 0))).trans (Tch.setCell (a := ⟨B, 17, none⟩) _ hrp.FB (.bool false))).trans (Tch.setCell (a := ⟨B, 18, none⟩) _ hrp.FB (.int .u8 0))).trans (Tch.setCell (a := ⟨B, 19, none⟩) _ hrp.FB (.slice al 0 vs.length))).trans (Tch.setCell (a := ⟨B, 20, none⟩) _ hrp.FB (.slice aw 0 cw))
  have hrep2 : Rep F ((((((((w.setCell ⟨B, 13, none⟩ (.slice ab 0 cb)).setCell ⟨B, 14, none⟩ (.int .i64 0)).setCell ⟨B, 15, none⟩ (.int .i64 0)).setCell ⟨B, 16, none⟩ (.int .i64 0)).setCell ⟨B, 17, none⟩ (.bool false)).setCell ⟨B, 18, none⟩ (.int .u8 0)).setCell ⟨B, 19, none⟩ (.slice al 0 vs.length)).setCell ⟨B, 20, none⟩ (.slice aw 0 cw)) B S c { s with buf := [], pos := 0, csize := 0, cw := 0, en := 0, lines := [], ws := [] } :=
    ⟨_, _, _, ov, vs, by rw [e8]; simp [wcells, bv], hrp.FB, hP⟩
  have HR := Lib.hid hrep2
  have HT := Lib.hid hT
  clear hrep2 hT hP hP0 e1 e2 e3 e4 e5 e6 e7 e8
  go_enter Tryd.func53, Tryd.ntmps53
  go_wp2_with fail
  refine (addLine_calls (fun k hk => hF k (Nat.le_trans HT.out.size hk)) HR.out (by simp) (by simp) true).mono ?_
  rintro e w1 ⟨rfl, hr1, ht1⟩
  go_wp2
  go_end0
  exact ⟨rfl, by simpa using hr1, HT.out.trans ht1⟩
end
end Go.Proofs.YtbagbfmklpklmaaDoor
