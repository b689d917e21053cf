/- Walks of the Writer; the frame of writes to the sink. -/
import Derived.Test.YtaagcdlghoiolaaDoorWd
namespace Go.Proofs.YtaagcdlghoiolaaDoor
open Go.RowKit Go.Tw Go.Sort
set_option maxRecDepth 100000
section
variable {F : Nat → Prop} {w : World} {B S : Nat} {c : Cfg} {s : St}

theorem Own.cut0 {e : TypeId} {size : Nat} {ao : Option Addr} {n cp : Nat} {xs : List Value} (h : Own F w e size (.slice ao n cp) n xs) : Own F w e size (.slice ao 0 cp) 0 [] := by
  refine ⟨⟨by simp, ?_⟩, fun x hx => h.mem x (by cases ao <;> exact hx)⟩
  rcases h.row.2 with ⟨e, _⟩ | ⟨g, cap', cur, e, hb, hg, hc, hm, hs, _⟩
  · simp only [Value.slice.injEq] at e
    obtain ⟨rfl, _, rfl⟩ := e
    exact .inl ⟨rfl, rfl⟩
  · simp only [Value.slice.injEq] at e
    obtain ⟨rfl, _, rfl⟩ := e
    exact .inr ⟨g, cp, cur, rfl, hb, hg, Nat.zero_le _, hm, hs, by simp⟩

theorem LinesOwn.cut0 {ao : Option Addr} {n cp : Nat} {lines : List (List PC)} {vs : List Value} (h : LinesOwn F w (.slice ao n cp) lines vs) : LinesOwn F w (.slice ao 0 cp) [] vs := by
  refine ⟨?_, Nat.zero_le _, fun i v hv => ?_, h.ne⟩
  · rcases h.val with ⟨e, h2⟩ | ⟨L, e, h1, h2, h3⟩
    · simp only [Value.slice.injEq] at e
      obtain ⟨rfl, _, rfl⟩ := e
      exact .inl ⟨rfl, h2⟩
    · simp only [Value.slice.injEq] at e
      obtain ⟨rfl, _, rfl⟩ := e
      exact .inr ⟨L, rfl, h1, h2, h3⟩
  · obtain ⟨n, xs, ho, _⟩ := h.row i v hv
    exact ⟨n, xs, ho, fun l hl => by simp at hl⟩

theorem LinesOwn.shape {lv : Value} {lines : List (List PC)} {vs : List Value} (h : LinesOwn F w lv lines vs) : ∃ ao, lv = .slice ao lines.length vs.length := by
  rcases h.val with ⟨rfl, rfl⟩ | ⟨L, rfl, _⟩
  · have := h.le; simp at this; exact ⟨none, by rw [this]; rfl⟩
  · exact ⟨_, rfl⟩

set_option maxHeartbeats 1000000 in
theorem reset_calls (hF : ∀ k, w.heap.size ≤ k → F k) (hrep : Rep F w B S c s) :
    Calls Tryd.prog 59 #[.pointer (some ⟨B, 0, none⟩)] w fun ed w' => ed = .returned (.tuple #[]) ∧ Rep F w' B S c { s with buf := [], pos := 0, csize := 0, cw := 0, en := 0, lines := [[]], ws := [] } ∧ Tch F w w' := by
  obtain ⟨bufv, lv, wv, ov, vs, hrp⟩ := hrep
  obtain ⟨ab, cb, rfl⟩ := hrp.parts.buf.shape
  obtain ⟨aw, cw, rfl⟩ := hrp.parts.wds.shape
  obtain ⟨al, rfl⟩ := hrp.parts.lines.shape
  have c13 : w.cell? ⟨B, 13, none⟩ = some (.slice ab s.buf.length cb) := cell_of_blk hrp.blk 13
  have c19 : w.cell? ⟨B, 19, none⟩ = some (.slice al s.lines.length vs.length) := cell_of_blk hrp.blk 19
  have c20 : w.cell? ⟨B, 20, none⟩ = some (.slice aw s.ws.length cw) := cell_of_blk hrp.blk 20
  have fz := fun k => frozen_of_blk hrp.blk k
  have x1 : (if vs.length = 0 then al else Option.map (fun x => x.add 0) al) = al := by cases al <;> simp [Addr.add]
  have x2 : (if cw = 0 then aw else Option.map (fun x => x.add 0) aw) = aw := by cases aw <;> simp [Addr.add]
  have z14 : w.cell? ⟨B, 14, none⟩ = some (.int .i64 s.pos) := cell_of_blk hrp.blk 14
  have z15 : w.cell? ⟨B, 15, none⟩ = some (.int .i64 s.csize) := cell_of_blk hrp.blk 15
  have z16 : w.cell? ⟨B, 16, none⟩ = some (.int .i64 s.cw) := cell_of_blk hrp.blk 16
  have z17 : w.cell? ⟨B, 17, none⟩ = some (.bool false) := cell_of_blk hrp.blk 17
  have z18 : w.cell? ⟨B, 18, none⟩ = some (bv s.en) := cell_of_blk hrp.blk 18
  have e1 := blk_set hrp.blk 13 (.slice ab 0 cb)
  have e2 := blk_set e1 14 (.int .i64 0)
  have e3 := blk_set e2 15 (.int .i64 0)
  have e4 := blk_set e3 16 (.int .i64 0)
  have e5 := blk_set e4 17 (.bool false)
  have e6 := blk_set e5 18 (.int .u8 0)
  have e7 := blk_set e6 19 (.slice al 0 vs.length)
  have e8 := blk_set e7 20 (.slice aw 0 cw)
  have hP0 : Parts F w S c.room [] [] [] s.out (.slice ab 0 cb) (.slice al 0 vs.length) (.slice aw 0 cw) ov vs :=
    ⟨by simpa [bvs] using Own.cut0 hrp.parts.buf, hrp.parts.lines.cut0, by simpa [ivs] using Own.cut0 hrp.parts.wds, hrp.parts.sink, hrp.parts.FS, hrp.parts.out, by
      rcases hrp.parts.ne with h | h
      · exact .inl h
      · exact .inr (by cases ab <;> exact h)⟩
  have hP := (((((((hP0.setB hrp.blk 13 (.slice ab 0 cb)).setB e1 14 (.int .i64 0)).setB e2 15 (.int .i64 0)).setB e3 16 (.int .i64 0)).setB e4 17 (.bool false)).setB e5 18 (.int .u8 0)).setB e6 19 (.slice al 0 vs.length)).setB e7 20 (.slice aw 0 cw)
  have hT := (((((((Tch.setCell (F := F) (a := ⟨B, 13, none⟩) w hrp.FB (.slice ab 0 cb)).trans (Tch.setCell (a := ⟨B, 14, none⟩) _ hrp.FB (.int .i64 0))).trans (Tch.setCell (a := ⟨B, 15, none⟩) _ hrp.FB (.int .i64 0))).trans (Tch.setCell (a := ⟨B, 16, none⟩) _ hrp.FB (.int .i64 0))).trans (Tch.setCell (a := ⟨B, 17, none⟩) _ hrp.FB (.bool false))).trans (Tch.setCell (a := ⟨B, 18, none⟩) _ hrp.FB (.int .u8 0))).trans (Tch.setCell (a := ⟨B, 19, none⟩) _ hrp.FB (.slice al 0 vs.length))).trans (Tch.setCell (a := ⟨B, 20, none⟩) _ hrp.FB (.slice aw 0 cw))
  have hrep2 : Rep F ((((((((w.setCell ⟨B, 13, none⟩ (.slice ab 0 cb)).setCell ⟨B, 14, none⟩ (.int .i64 0)).setCell ⟨B, 15, none⟩ (.int .i64 0)).setCell ⟨B, 16, none⟩ (.int .i64 0)).setCell ⟨B, 17, none⟩ (.bool false)).setCell ⟨B, 18, none⟩ (.int .u8 0)).setCell ⟨B, 19, none⟩ (.slice al 0 vs.length)).setCell ⟨B, 20, none⟩ (.slice aw 0 cw)) B S c { s with buf := [], pos := 0, csize := 0, cw := 0, en := 0, lines := [], ws := [] } :=
    ⟨_, _, _, ov, vs, by rw [e8]; simp [wcells, bv], hrp.FB, hP⟩
  have HR := Lib.hid hrep2
  have HT := Lib.hid hT
  clear hrep2 hT hP hP0 e1 e2 e3 e4 e5 e6 e7 e8
  go_enter Tryd.func59, Tryd.ntmps59
  go_wp2_with fail
  refine (addLine_calls (fun k hk => hF k (Nat.le_trans HT.out.size hk)) HR.out (by simp) (by simp) true).mono ?_
  rintro e w1 ⟨rfl, hr1, ht1⟩
  go_wp2
  go_end0
  exact ⟨rfl, by simpa using hr1, HT.out.trans ht1⟩
end
end Go.Proofs.YtaagcdlghoiolaaDoor

namespace Go.Proofs.YtaagcdlghoiolaaDoor
open Go.RowKit Go.Tw Go.Sort
set_option maxRecDepth 100000
section
variable {F G : Nat → Prop} {w : World} {B S : Nat} {c : Cfg} {s : St} {ht : Bool} {bufv lv wv ov : Value} {vs : List Value}

/-- What may be written: the sink, its row, new blocks. -/
structure OutG (G : Nat → Prop) (w : World) (S : Nat) (ov : Value) : Prop where
  sink : G S
  row : ∀ g, ov.ownBlock = some g → G g
  new : ∀ k, w.heap.size ≤ k → G k

/-- bs has gone to the sink. -/
def Wrote (F G : Nat → Prop) (w : World) (B S : Nat) (c : Cfg) (s : St) (ht : Bool) (bufv lv wv : Value) (vs : List Value) (bs : List UInt8) (w' : World) : Prop :=
  ∃ ov', RepAt F w' B S c { s with out := s.out ++ bs } ht bufv lv wv ov' vs ∧ Tch G w w' ∧ OutG G w' S ov'

theorem Parts.outGrown {w' : World} {room : Int} {bf ot : List UInt8} {ls : List (List PC)} {ws : List Nat} (h : Parts F w S room bf ls ws ot bufv lv wv ov vs) {v' : Value} {bs : List UInt8} {n : Nat} {xs : List Value} (hown : Own F w' 5 1 v' n xs) (hn : n = ot.length + bs.length) (hx : xs = bvs ot ++ bvs bs) (hg : w.grownBy w' ov.ownBlock) (hb : ∀ g, v'.ownBlock = some g → ov.ownBlock = some g ∨ w.heap.size ≤ g) :
    Parts F (w'.setCell ⟨S, 0, none⟩ v') S room bf ls ws (ot ++ bs) bufv lv wv v' vs := by
  subst hn hx
  have t : Tch (fun k => ov.ownBlock = some k) w w' := Tch.grown hg (fun k e => e)
  have no : ∀ {k : Nat} {cs : Array Value} {T : TypeId} {fr : Nat × Nat}, w.heap[k]? = some (.cells cs T fr) → T ≠ 5 → ¬ (ov.ownBlock = some k) := fun hk hT => h.out.ne hk hT
  have hS' := t.heap h.sink (no h.sink (by decide))
  have t2 : Tch (· = S) w' (w'.setCell ⟨S, 0, none⟩ v') := Tch.setCell (F := (· = S)) (a := ⟨S, 0, none⟩) w' rfl v'
  have no2 : ∀ {k : Nat} {cs : Array Value} {T : TypeId} {fr : Nat × Nat}, w'.heap[k]? = some (.cells cs T fr) → T ≠ 50 → ¬ (k = S) := by
    intro k cs T fr hk hT e
    subst e; rw [hS'] at hk; simp at hk; exact hT hk.2.1.symm
  have keepB : Own F w' 5 1 bufv bf.length (bvs bf) := h.buf.kept t (fun g hg e => by
    rcases h.ne with h0 | h0
    · rw [h0] at e; cases e
    · exact h0 (e.trans hg.symm))
  have keep2 : ∀ {e : TypeId} {size : Nat} {u : Value} {n : Nat} {xs : List Value}, Own F w' e size u n xs → e ≠ 50 → Own F (w'.setCell ⟨S, 0, none⟩ v') e size u n xs :=
    fun ho he => ho.kept t2 (fun g hg => no2 (ho.block hg).choose_spec he)
  have hl1 : LinesOwn F w' lv ls vs := h.lines.kept t (fun L hL => no (h.lines.blockL hL).1 (by decide)) (fun i v g hv hg => no (h.lines.blockR hv hg).1.choose_spec (by decide))
  have hw1 : Own F w' 3 1 wv ws.length (ivs ws) := h.wds.kept t (fun g hg => no (h.wds.block hg).choose_spec (by decide))
  refine ⟨keep2 keepB (by decide), hl1.kept t2 (fun L hL => no2 (hl1.blockL hL).1 (by decide)) (fun i v g hv hg => no2 (hl1.blockR hv hg).1.choose_spec (by decide)), keep2 hw1 (by decide), ?_, h.FS, ?_, ?_⟩
  · rw [blk_set hS' 0 v']; simp
  · have := keep2 hown (by decide); simpa using this
  · rcases hv : v'.ownBlock with _ | g
    · exact .inl rfl
    · refine .inr fun e => ?_
      rcases hb g hv with h1 | h1
      · rcases h.ne with h0 | h0
        · rw [h0] at h1; cases h1
        · exact h0 (h1.trans e)
      · have := h.buf.lt e.symm; omega

set_option maxHeartbeats 400000 in
theorem sinkWrite_calls (hF : ∀ k, w.heap.size ≤ k → F k) (hrp : RepAt F w B S c s ht bufv lv wv ov vs) (hG : OutG G w S ov) (hroom : c.room < 0) {v : Value} {bs : List UInt8} (hrd : Rd w v bs) (hb : s.out.length + bs.length ≤ 140737488355328) :
    Calls Tryd.prog 88 #[.pointer (some ⟨S, 0, none⟩), v] w fun e w' => e = .returned (.tuple #[.int .i64 bs.length, .nilIface]) ∧ Wrote F G w B S c s ht bufv lv wv vs bs w' := by
  obtain ⟨ao, cp, rfl, h1, h2, h3, h4, h5⟩ := hrd.val
  obtain ⟨i0, hi, hz0, hz1, hz2⟩ := info_parts Tryd.info_u8
  have c0 : w.cell? ⟨S, 0, none⟩ = some ov := cell_of_blk hrp.parts.sink 0
  have c1 : w.cell? ⟨S, 1, none⟩ = some (.int .i64 c.room) := cell_of_blk hrp.parts.sink 1
  have hSB : ¬ S = B := fun e => by have h1 := hrp.parts.sink; rw [e, hrp.blk] at h1; simp at h1
  rcases ao with _ | ad
  · have hcp : cp = 0 := h3 rfl
    subst hcp
    have hbs : bs = [] := List.length_eq_zero_iff.1 (by omega)
    subst hbs
    have f0 := frozen_of_blk hrp.parts.sink 0
    obtain ⟨aw, cw, rfl⟩ := hrp.parts.out.shape
    go_enter Tryd.func88, Tryd.ntmps88
    go_wp2_with (at_builtin; refine wpList_append_own_none rfl (.tmp 16) (.tmp 17) 24 rfl 0 5 i0 1 Tryd.underlying24 hi _ _ _ rfl hrp.parts.out.row rfl ?_)
    go_ret2
    have hset := blk_set hrp.parts.sink 0 (.slice aw s.out.length cw)
    have t2 : Tch (· = S) w (w.setCell ⟨S, 0, none⟩ (.slice aw s.out.length cw)) := Tch.setCell (F := (· = S)) (a := ⟨S, 0, none⟩) w rfl _
    have hP := hrp.parts.outGrown (w' := w) (bs := []) hrp.parts.out (by simp) (by simp [bvs]) ⟨rfl, rfl, rfl, Nat.le_refl _, fun _ _ _ => rfl⟩ (fun g hg => .inl hg)
    exact ⟨by simp, _, ⟨t2.heap hrp.blk (fun e => hSB e.symm), hrp.FB, hP⟩, t2.mono (fun k e => e ▸ hG.sink), ⟨hG.sink, hG.row, fun k hk => hG.new k (by simpa [World.setCell] using hk)⟩⟩
  · have hsp := h4 ad rfl
    obtain ⟨k, o, sp⟩ := ad
    simp only at hsp
    subst hsp
    have hcells : ∀ j (h : j < bs.length), w.cell? ⟨k, o + j, none⟩ = some (bv bs[j]) := fun j hj => by
      obtain ⟨ad, e, hc⟩ := h5 j hj
      cases e; exact hc
    clear h5 h3 h4
    go_enter Tryd.func88, Tryd.ntmps88
    go_wp2_with (at_builtin; refine wpList_append_Own rfl (.tmp 16) (.tmp 17) 24 rfl F 5 i0 (.int .u8 0) 1 1 Tryd.underlying24 hi hz0 hz1 hz2 rfl (by decide) ov _ _ rfl hrp.parts.out ⟨k, o, none⟩ bs.length cp (bvs bs) rfl ?c1 ?c2 ?c3 ?c4 ?c5 hF ?_)
    case c1 => simp
    case c2 => exact Rd.news hcells
    case c3 => exact bvs_one bs
    case c4 => unfold maxLen; omega
    case c5 => omega
    intro v' w1 hown hgrow hblk
    have hSne : ov.ownBlock ≠ some S := hrp.parts.out.ne hrp.parts.sink (by decide)
    have hS1 : w1.heap[S]? = some (.cells #[ov, .int .i64 c.room] 50 (0, 0)) := by rw [hgrow.block S (lt_of_heap hrp.parts.sink) (fun e => hSne e.symm)]; exact hrp.parts.sink
    have hBne : ov.ownBlock ≠ some B := hrp.parts.out.ne hrp.blk (by decide)
    have hB1 : w1.heap[B]? = some (.cells (wcells S c bufv s.pos s.csize s.cw ht s.en lv wv) 85 (0, 0)) := by rw [hgrow.block B (lt_of_heap hrp.blk) (fun e => hBne e.symm)]; exact hrp.blk
    have d0 : w1.cell? ⟨S, 0, none⟩ = some ov := cell_of_blk hS1 0
    have g0 := frozen_of_blk hS1 0
    obtain ⟨av, cv, rfl⟩ := hown.shape
    have HO := Lib.hid hown
    have HG := Lib.hid hgrow
    have HK := Lib.hid hblk
    have HB := Lib.hid hB1
    clear hown hgrow hblk hS1 hB1 hcells c0 c1
    go_wp2
    go_ret2
    have hP := hrp.parts.outGrown (bs := bs) HO.out rfl rfl HG.out HK.out
    have t2 : Tch (· = S) w1 (w1.setCell ⟨S, 0, none⟩ (.slice av (s.out.length + bs.length) cv)) := Tch.setCell (F := (· = S)) (a := ⟨S, 0, none⟩) w1 rfl _
    refine ⟨rfl, _, ⟨t2.heap HB.out (fun e => hSB e.symm), hrp.FB, hP⟩, (Tch.grown HG.out hG.row).trans (t2.mono (fun k e => e ▸ hG.sink)), ⟨hG.sink, fun g hg => ?_, fun k hk => hG.new k ?_⟩⟩
    · rcases HK.out g hg with h | h
      · exact hG.row g h
      · exact hG.new g h
    · have := HG.out.size; simp [World.setCell] at hk; omega
end
end Go.Proofs.YtaagcdlghoiolaaDoor

namespace Go.Proofs.YtaagcdlghoiolaaDoor
open Go.RowKit Go.Tw Go.Sort
set_option maxRecDepth 100000
section
variable {F G : Nat → Prop} {w : World} {B S : Nat} {c : Cfg} {s : St} {ht : Bool} {bufv lv wv ov : Value} {vs : List Value}

theorem method_write (a : Addr) (w : World) : (method 262 48 (.pointer (some a)) "Write").run Tryd.prog w = .ok (88, .pointer (some a)) w := by kernel_rfl

set_option maxHeartbeats 400000 in
theorem write0_calls (hF : ∀ k, w.heap.size ≤ k → F k) (hrp : RepAt F w B S c s ht bufv lv wv ov vs) (hG : OutG G w S ov) (hroom : c.room < 0) {v : Value} {bs : List UInt8} (hrd : Rd w v bs) (hb : s.out.length + bs.length ≤ 140737488355328) :
    Calls Tryd.prog 52 #[.pointer (some ⟨B, 0, none⟩), v] w fun e w' => e = .returned (.tuple #[]) ∧ Wrote F G w B S c s ht bufv lv wv vs bs w' := by
  have HS := Lib.hid (sinkWrite_calls hF hrp hG hroom hrd hb)
  obtain ⟨ao, cp, rfl, h1, h2, h3, h4, h5⟩ := hrd.val
  have c0 : w.cell? ⟨B, 0, none⟩ = some (.iface 48 (.pointer (some ⟨S, 0, none⟩))) := cell_of_blk hrp.blk 0
  clear h3 h4 h5
  go_enter Tryd.func52, Tryd.ntmps52
  have hmw := method_write ⟨S, 0, none⟩
  have hbne : ((bs.length : Int) != (bs.length : Int)) = false := by simp
  go_wp2_with (go_at_call 88; refine HS.out.mono ?_; rintro e w1 ⟨rfl, hw⟩; have HW := Lib.hid hw; clear hw)
  go_end0
  exact ⟨rfl, HW.out⟩

/-- Two writes, one behind the other. -/
theorem Wrote.step {w1 w2 : World} {bs cs : List UInt8} (ov1 : Value) (_ : RepAt F w1 B S c { s with out := s.out ++ bs } ht bufv lv wv ov1 vs) (t1 : Tch G w w1) (h : Wrote F G w1 B S c { s with out := s.out ++ bs } ht bufv lv wv vs cs w2) : Wrote F G w B S c s ht bufv lv wv vs (bs ++ cs) w2 := by
  obtain ⟨ov2, hr2, t2, g2⟩ := h
  refine ⟨ov2, ?_, t1.trans t2, g2⟩
  simpa using hr2

def NRel (F G : Nat → Prop) (w : World) (B S : Nat) (c : Cfg) (s : St) (ht : Bool) (bufv lv wv : Value) (vs : List Value) (b : UInt8) (n : Nat) (t : Value) (wr : World) : Prop :=
  ∃ m : Nat, m ≤ n ∧ t = .int .i64 m ∧ Wrote F G w B S c s ht bufv lv wv vs (List.replicate (n - m) b) wr

set_option maxHeartbeats 1000000 in
theorem writeN_calls (hF : ∀ k, w.heap.size ≤ k → F k) (hrp : RepAt F w B S c s ht bufv lv wv ov vs) (hG : OutG G w S ov) (hroom : c.room < 0) {v : Value} {b : UInt8} (hrd : Rd w v (List.replicate 8 b)) (hgv : ∀ g, v.ownBlock = some g → ¬ G g) (n : Nat) (hb : s.out.length + n ≤ 140737488355328) :
    Calls Tryd.prog 71 #[.pointer (some ⟨B, 0, none⟩), v, .int .i64 n] w fun e w' => e = .returned (.tuple #[]) ∧ Wrote F G w B S c s ht bufv lv wv vs (List.replicate n b) w' := by
  obtain ⟨ao, cp, hv, h1, h2, h3, h4, h5⟩ := hrd.val
  simp only [List.length_replicate] at hv h1
  subst hv
  have HRD := Lib.hid hrd
  have H0 : NRel F G w B S c s ht bufv lv wv vs b n (.int .i64 n) w := ⟨n, Nat.le_refl _, rfl, ov, by simpa using hrp, Tch.refl _ _, hG⟩
  have HF := Lib.hid hF
  have HGV := Lib.hid hgv
  have x1 : (if cp = 0 then ao else Option.map (fun x => x.add 0) ao) = ao := by cases ao <;> simp [Addr.add]
  unfold maxLen at h2
  clear h3 h4 h5 hrd hF hgv hrp hG
  go_enter Tryd.func71, Tryd.ntmps71
  go_wp2_with fail
  go_loopw [2] (fun t wr => NRel F G w B S c s ht bufv lv wv vs b n t wr) (fun t _ => (intOf t).toNat)
  case atStart => exact H0
  case round =>
    obtain ⟨m, hm, rfl, ov1, hr1, t1, g1⟩ := hrel
    have HR1 := Lib.hid hr1
    have T1 := Lib.hid t1
    have G1 := Lib.hid g1
    have HRD1 := Lib.hid (HRD.out.kept t1 (fun _ g hg => HGV.out g hg))
    have HF1 : Hid (∀ k, wr.heap.size ≤ k → F k) := fun k hk => HF.out k (Nat.le_trans t1.size hk)
    clear hr1 t1 g1
    by_cases hlt : 8 < m
    · go_wp2_with (go_at_call 52; refine (write0_calls HF1.out HR1.out G1.out hroom HRD1.out (by simp; omega)).mono ?_; rintro e w2 ⟨rfl, hw⟩; have HW := Lib.hid hw; clear hw)
      go_roundw
      case rel =>
        refine ⟨m - 8, by omega, by (have : ((m - 8 : Nat) : Int) = (m : Int) - 8 := by omega); rw [this], ?_⟩
        have := Wrote.step ov1 HR1.out T1.out HW.out
        rwa [List.replicate_append_replicate, show n - m + 8 = n - (m - 8) by omega] at this
      case measure => simp [intOf]; omega
    · have HT := Lib.hid (HRD1.out.taken (k := m) (by simp; omega))
      go_wp2_with (go_at_call 52; refine (write0_calls HF1.out HR1.out G1.out hroom HT.out (by simp; omega)).mono ?_; rintro e w2 ⟨rfl, hw⟩; have HW := Lib.hid hw; clear hw)
      go_end0
      refine ⟨rfl, ?_⟩
      have := Wrote.step ov1 HR1.out T1.out HW.out
      rwa [List.take_replicate, List.replicate_append_replicate, show n - m + min m 8 = n by omega] at this
end
end Go.Proofs.YtaagcdlghoiolaaDoor
