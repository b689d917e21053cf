/- Walks of the Writer; the frame of writes to the sink. -/
import Derived.Test.YteildpeogbenbaaDoorWd
import Derived.WalkLawsBesides
namespace Go.Proofs.YteildpeogbenbaaDoor
open Go.RowKit Go.Tw Go.Sort
set_option maxRecDepth 100000
section
variable {F : Nat → Prop} {w : World} {B S : Nat} {c : Cfg} {s : St}

theorem Own.cut0 {e : TypeId} {size : Nat} {ao : Option Addr} {n cp : Nat} {xs : List Value} (h : Own F w e size (.slice ao n cp) n xs) : Own F w e size (.slice ao 0 cp) 0 [] := by
  refine ⟨⟨by simp, ?_⟩, fun x hx => h.mem x (by cases ao <;> exact hx)⟩
  rcases h.row.2 with ⟨e, _⟩ | ⟨g, cap', cur, e, hb, hg, hc, hm, hs, _⟩
  · simp only [Value.slice.injEq] at e
    obtain ⟨rfl, _, rfl⟩ := e
    exact .inl ⟨rfl, rfl⟩
  · simp only [Value.slice.injEq] at e
    obtain ⟨rfl, _, rfl⟩ := e
    exact .inr ⟨g, cp, cur, rfl, hb, hg, Nat.zero_le _, hm, hs, by simp⟩

theorem LinesOwn.cut0 {ao : Option Addr} {n cp : Nat} {lines : List (List PC)} {vs : List Value} (h : LinesOwn F w (.slice ao n cp) lines vs) : LinesOwn F w (.slice ao 0 cp) [] vs := by
  refine ⟨?_, Nat.zero_le _, fun i v hv => ?_, h.ne⟩
  · rcases h.val with ⟨e, h2⟩ | ⟨L, e, h1, h2, h3⟩
    · simp only [Value.slice.injEq] at e
      obtain ⟨rfl, _, rfl⟩ := e
      exact .inl ⟨rfl, h2⟩
    · simp only [Value.slice.injEq] at e
      obtain ⟨rfl, _, rfl⟩ := e
      exact .inr ⟨L, rfl, h1, h2, h3⟩
  · obtain ⟨n, xs, ho, _⟩ := h.row i v hv
    exact ⟨n, xs, ho, fun l hl => by simp at hl⟩

theorem LinesOwn.shape {lv : Value} {lines : List (List PC)} {vs : List Value} (h : LinesOwn F w lv lines vs) : ∃ ao, lv = .slice ao lines.length vs.length := by
  rcases h.val with ⟨rfl, rfl⟩ | ⟨L, rfl, _⟩
  · have := h.le; simp at this; exact ⟨none, by rw [this]; rfl⟩
  · exact ⟨_, rfl⟩

set_option maxHeartbeats 1000000 in
theorem reset_any {ht : Bool} (hF : ∀ k, w.heap.size ≤ k → F k) {bufv lv wv ov : Value} {vs : List Value} (hrp : RepAt F w B S c s ht bufv lv wv ov vs) :
    Calls Tryd.prog 50 #[.pointer (some ⟨B, 0, none⟩)] w fun ed w' => ed = .returned (.tuple #[]) ∧ Rep F w' B S c { s with buf := [], pos := 0, csize := 0, cw := 0, en := 0, lines := [[]], ws := [] } ∧ Tch F w w' := by
  obtain ⟨ab, cb, rfl⟩ := hrp.parts.buf.shape
  obtain ⟨aw, cw, rfl⟩ := hrp.parts.wds.shape
  obtain ⟨al, rfl⟩ := hrp.parts.lines.shape
  have c13 : w.cell? ⟨B, 13, none⟩ = some (.slice ab s.buf.length cb) := cell_of_blk hrp.blk 13
  have c19 : w.cell? ⟨B, 19, none⟩ = some (.slice al s.lines.length vs.length) := cell_of_blk hrp.blk 19
  have c20 : w.cell? ⟨B, 20, none⟩ = some (.slice aw s.ws.length cw) := cell_of_blk hrp.blk 20
  have fz := fun k => frozen_of_blk hrp.blk k
  have x1 : (if vs.length = 0 then al else Option.map (fun x => x.add 0) al) = al := by cases al <;> simp [Addr.add]
  have x2 : (if cw = 0 then aw else Option.map (fun x => x.add 0) aw) = aw := by cases aw <;> simp [Addr.add]
  have z14 : w.cell? ⟨B, 14, none⟩ = some (.int .i64 s.pos) := cell_of_blk hrp.blk 14
  have z15 : w.cell? ⟨B, 15, none⟩ = some (.int .i64 s.csize) := cell_of_blk hrp.blk 15
  have z16 : w.cell? ⟨B, 16, none⟩ = some (.int .i64 s.cw) := cell_of_blk hrp.blk 16
  have z17 : w.cell? ⟨B, 17, none⟩ = some (.bool ht) := cell_of_blk hrp.blk 17
  have z18 : w.cell? ⟨B, 18, none⟩ = some (bv s.en) := cell_of_blk hrp.blk 18
  have e1 := blk_set hrp.blk 13 (.slice ab 0 cb)
  have e2 := blk_set e1 14 (.int .i64 0)
  have e3 := blk_set e2 15 (.int .i64 0)
  have e4 := blk_set e3 16 (.int .i64 0)
  have e5 := blk_set e4 17 (.bool false)
  have e6 := blk_set e5 18 (.int .u8 0)
  have e7 := blk_set e6 19 (.slice al 0 vs.length)
  have e8 := blk_set e7 20 (.slice aw 0 cw)
  have hP0 : Parts F w S c.room [] [] [] s.out (.slice ab 0 cb) (.slice al 0 vs.length) (.slice aw 0 cw) ov vs :=
    ⟨by simpa [bvs] using Own.cut0 hrp.parts.buf, hrp.parts.lines.cut0, by simpa [ivs] using Own.cut0 hrp.parts.wds, hrp.parts.sink, hrp.parts.FS, hrp.parts.out, by
      rcases hrp.parts.ne with h | h
      · exact .inl h
      · exact .inr (by cases ab <;> exact h), hrp.parts.fits⟩
  have hP := (((((((hP0.setB hrp.blk 13 (.slice ab 0 cb)).setB e1 14 (.int .i64 0)).setB e2 15 (.int .i64 0)).setB e3 16 (.int .i64 0)).setB e4 17 (.bool false)).setB e5 18 (.int .u8 0)).setB e6 19 (.slice al 0 vs.length)).setB e7 20 (.slice aw 0 cw)
  have hT := (((((((Tch.setCell (F := F) (a := ⟨B, 13, none⟩) w hrp.FB (.slice ab 0 cb)).trans (Tch.setCell (a := ⟨B, 14, none⟩) _ hrp.FB (.int .i64 0))).trans (Tch.setCell (a := ⟨B, 15, none⟩) _ hrp.FB (.int .i64 0))).trans (Tch.setCell (a := ⟨B, 16, none⟩) _ hrp.FB (.int .i64 0))).trans (Tch.setCell (a := ⟨B, 17, none⟩) _ hrp.FB (.bool false))).trans (Tch.setCell (a := ⟨B, 18, none⟩) _ hrp.FB (.int .u8 0))).trans (Tch.setCell (a := ⟨B, 19, none⟩) _ hrp.FB (.slice al 0 vs.length))).trans (Tch.setCell (a := ⟨B, 20, none⟩) _ hrp.FB (.slice aw 0 cw))
  have hrep2 : Rep F ((((((((w.setCell ⟨B, 13, none⟩ (.slice ab 0 cb)).setCell ⟨B, 14, none⟩ (.int .i64 0)).setCell ⟨B, 15, none⟩ (.int .i64 0)).setCell ⟨B, 16, none⟩ (.int .i64 0)).setCell ⟨B, 17, none⟩ (.bool false)).setCell ⟨B, 18, none⟩ (.int .u8 0)).setCell ⟨B, 19, none⟩ (.slice al 0 vs.length)).setCell ⟨B, 20, none⟩ (.slice aw 0 cw)) B S c { s with buf := [], pos := 0, csize := 0, cw := 0, en := 0, lines := [], ws := [] } :=
    ⟨_, _, _, ov, vs, by rw [e8]; simp [wcells, bv], hrp.FB, hP⟩
  have HR := Lib.hid hrep2
  have HT := Lib.hid hT
  clear hrep2 hT hP hP0 e1 e2 e3 e4 e5 e6 e7 e8
  go_enter Tryd.func50, Tryd.ntmps50
  go_wp2_with fail
  refine (addLine_calls (fun k hk => hF k (Nat.le_trans HT.out.size hk)) HR.out (by simp) (by simp) true).mono ?_
  rintro e w1 ⟨rfl, hr1, ht1⟩
  go_wp2
  go_end0
  exact ⟨rfl, by simpa using hr1, HT.out.trans ht1⟩
theorem reset_calls (hF : ∀ k, w.heap.size ≤ k → F k) (hrep : Rep F w B S c s) :
    Calls Tryd.prog 50 #[.pointer (some ⟨B, 0, none⟩)] w fun ed w' => ed = .returned (.tuple #[]) ∧ Rep F w' B S c { s with buf := [], pos := 0, csize := 0, cw := 0, en := 0, lines := [[]], ws := [] } ∧ Tch F w w' := by
  obtain ⟨bufv, lv, wv, ov, vs, hrp⟩ := hrep
  exact reset_any hF hrp
end
end Go.Proofs.YteildpeogbenbaaDoor

namespace Go.Proofs.YteildpeogbenbaaDoor
open Go.RowKit Go.Tw Go.Sort
set_option maxRecDepth 100000
section
variable {F G : Nat → Prop} {w : World} {B S : Nat} {c : Cfg} {s : St} {ht : Bool} {bufv lv wv ov : Value} {vs : List Value}

/-- What may be written: the sink, its row, new blocks. -/
structure OutG (G : Nat → Prop) (w : World) (S : Nat) (ov : Value) : Prop where
  sink : G S
  row : ∀ g, ov.ownBlock = some g → G g
  new : ∀ k, w.heap.size ≤ k → G k
  err : ¬ G 0

/-- What every walk needs of the world: new blocks are free, the sink's error is laid, and is none of the writer's. -/
structure Env (F : Nat → Prop) (w : World) : Prop where
  new : ∀ k, w.heap.size ≤ k → F k
  out : ¬ F 0
  err : ∃ ea, w.cell? ⟨0, 0, none⟩ = some (.iface 116 (.pointer (some ea)))
theorem Env.step {w' : World} (h : Env F w) (t : Tch G w w') (hg : ¬ G 0) : Env F w' :=
  ⟨fun k hk => h.new k (Nat.le_trans t.size hk), h.out, h.err.elim fun ea e => ⟨ea, t.cell e hg⟩⟩
theorem Env.to {w' : World} (h : Env F w) (t : Tch F w w') : Env F w' := h.step t h.out

/-- The sink has no room left: it holds the first bytes of T, and its error goes up. -/
def FullAt (F G : Nat → Prop) (w : World) (B S : Nat) (c : Cfg) (T : List UInt8) (ea : Addr) (w' : World) : Prop :=
  w'.cell? ⟨0, 0, none⟩ = some (.iface 116 (.pointer (some ea))) ∧ ∃ s' ht bufv lv wv ov vs,
    RepAt F w' B S c s' ht bufv lv wv ov vs ∧ (s'.out.length : Int) = c.room ∧ (∃ r, s'.out ++ r = T ∧ r ≠ []) ∧ Tch G w w'
def Stop (F G : Nat → Prop) (w : World) (B S : Nat) (c : Cfg) (T : List UInt8) (e : Ending) (w' : World) : Prop :=
  ∃ ea, e = .panicked [{ v := .iface 97 (.agg #[.iface 116 (.pointer (some ea))]), recovered := false }] ∧ FullAt F G w B S c T ea w'
theorem Stop.panic {T : List UInt8} {e : Ending} {w' : World} (h : Stop F G w B S c T e w') : ∃ ch, e = .panicked ch := by
  obtain ⟨ea, he, _⟩ := h
  exact ⟨_, he⟩
theorem FullAt.up {G1 : Nat → Prop} {w0 : World} {T T' : List UInt8} {ea : Addr} {w' : World} (h : FullAt F G1 w B S c T ea w') (t : Tch G w0 w) (hG : ∀ k, k < w.heap.size → G1 k → G k) (x : List UInt8) (hT : T ++ x = T') : FullAt F G w0 B S c T' ea w' := by
  obtain ⟨hc, s', ht, bufv, lv, wv, ov, vs, hr, hl, ⟨r, h1, h2⟩, t2⟩ := h
  exact ⟨hc, s', ht, bufv, lv, wv, ov, vs, hr, hl, ⟨r ++ x, by rw [← hT, ← h1, List.append_assoc], by simp [h2]⟩, t.trans (t2.mono' hG)⟩
theorem Stop.up {G1 : Nat → Prop} {w0 : World} {T T' : List UInt8} {e : Ending} {w' : World} (h : Stop F G1 w B S c T e w') (t : Tch G w0 w) (hG : ∀ k, k < w.heap.size → G1 k → G k) (x : List UInt8) (hT : T ++ x = T') : Stop F G w0 B S c T' e w' := by
  obtain ⟨ea, he, h⟩ := h
  exact ⟨ea, he, h.up t hG x hT⟩
theorem stopUp {P : Program} {f : FuncId} {args : Array Value} {wa : World} {A : Ending → World → Prop} {G1 : Nat → Prop} {w0 : World} {T T' : List UInt8} (h : Calls P f args wa fun e w' => A e w' ∨ Stop F G1 w B S c T e w') (t : Tch G w0 w) (hG : ∀ k, k < w.heap.size → G1 k → G k) (x : List UInt8) (hT : T ++ x = T') : Calls P f args wa fun e w' => A e w' ∨ Stop F G w0 B S c T' e w' :=
  h.mono fun _ _ h => h.imp id fun h => h.up t hG x hT

/-- bs has gone to the sink. -/
def Wrote (F G : Nat → Prop) (w : World) (B S : Nat) (c : Cfg) (s : St) (ht : Bool) (bufv lv wv : Value) (vs : List Value) (bs : List UInt8) (w' : World) : Prop :=
  ∃ ov', RepAt F w' B S c { s with out := s.out ++ bs } ht bufv lv wv ov' vs ∧ Tch G w w' ∧ OutG G w' S ov'

theorem Parts.outGrown {w' : World} {room : Int} {bf ot : List UInt8} {ls : List (List PC)} {ws : List Nat} (h : Parts F w S room bf ls ws ot bufv lv wv ov vs) {v' : Value} {bs : List UInt8} {n : Nat} {xs : List Value} (hown : Own F w' 5 1 v' n xs) (hn : n = ot.length + bs.length) (hx : xs = bvs ot ++ bvs bs) (hg : w.grownBy w' ov.ownBlock) (hb : ∀ g, v'.ownBlock = some g → ov.ownBlock = some g ∨ w.heap.size ≤ g) (hf : ((ot.length + bs.length : Nat) : Int) ≤ room ∧ room ≤ 9223372036854775807) :
    Parts F (w'.setCell ⟨S, 0, none⟩ v') S room bf ls ws (ot ++ bs) bufv lv wv v' vs := by
  subst hn hx
  have t : Tch (fun k => ov.ownBlock = some k) w w' := Tch.grown hg (fun k e => e)
  have no : ∀ {k : Nat} {cs : Array Value} {T : TypeId} {fr : Nat × Nat}, w.heap[k]? = some (.cells cs T fr) → T ≠ 5 → ¬ (ov.ownBlock = some k) := fun hk hT => h.out.ne hk hT
  have hS' := t.heap h.sink (no h.sink (by decide))
  have t2 : Tch (· = S) w' (w'.setCell ⟨S, 0, none⟩ v') := Tch.setCell (F := (· = S)) (a := ⟨S, 0, none⟩) w' rfl v'
  have no2 : ∀ {k : Nat} {cs : Array Value} {T : TypeId} {fr : Nat × Nat}, w'.heap[k]? = some (.cells cs T fr) → T ≠ 44 → ¬ (k = S) := by
    intro k cs T fr hk hT e
    subst e; rw [hS'] at hk; simp at hk; exact hT hk.2.1.symm
  have keepB : Own F w' 5 1 bufv bf.length (bvs bf) := h.buf.kept t (fun g hg e => by
    rcases h.ne with h0 | h0
    · rw [h0] at e; cases e
    · exact h0 (e.trans hg.symm))
  have keep2 : ∀ {e : TypeId} {size : Nat} {u : Value} {n : Nat} {xs : List Value}, Own F w' e size u n xs → e ≠ 44 → Own F (w'.setCell ⟨S, 0, none⟩ v') e size u n xs :=
    fun ho he => ho.kept t2 (fun g hg => no2 (ho.block hg).choose_spec he)
  have hl1 : LinesOwn F w' lv ls vs := h.lines.kept t (fun L hL => no (h.lines.blockL hL).1 (by decide)) (fun i v g hv hg => no (h.lines.blockR hv hg).1.choose_spec (by decide))
  have hw1 : Own F w' 3 1 wv ws.length (ivs ws) := h.wds.kept t (fun g hg => no (h.wds.block hg).choose_spec (by decide))
  refine ⟨keep2 keepB (by decide), hl1.kept t2 (fun L hL => no2 (hl1.blockL hL).1 (by decide)) (fun i v g hv hg => no2 (hl1.blockR hv hg).1.choose_spec (by decide)), keep2 hw1 (by decide), ?_, h.FS, ?_, ?_, by simpa using hf⟩
  · rw [blk_set hS' 0 v']; simp
  · have := keep2 hown (by decide); simpa using this
  · rcases hv : v'.ownBlock with _ | g
    · exact .inl rfl
    · refine .inr fun e => ?_
      rcases hb g hv with h1 | h1
      · rcases h.ne with h0 | h0
        · rw [h0] at h1; cases h1
        · exact h0 (h1.trans e)
      · have := h.buf.lt e.symm; omega

/-- The append of bytes that are read to a row of one's own. -/
theorem run_append_Rd (hF : ∀ k, w.heap.size ≤ k → F k) {ov : Value} {ot bs : List UInt8} (hown : Own F w 5 1 ov ot.length (bvs ot)) {x : Value} (hrd : Rd w x bs) (hb : ot.length + bs.length ≤ 140737488355328) (ty : TypeId) :
    ∃ v' w', (Builtin.append_ #[26, 26] ty #[ov, x]).run Tryd.prog w = .ok v' w' ∧ Own F w' 5 1 v' (ot.length + bs.length) (bvs ot ++ bvs bs) ∧ w.grownBy w' ov.ownBlock ∧ (∀ g, v'.ownBlock = some g → ov.ownBlock = some g ∨ w.heap.size ≤ g) := by
  obtain ⟨i0, hi, hz0, hz1, hz2⟩ := info_parts Tryd.info_u8
  obtain ⟨ao, cp, rfl, h1, h2, h3, h4, h5⟩ := hrd.val
  rcases ao with _ | ad
  · have hcp : cp = 0 := h3 rfl
    subst hcp
    have hbs : bs = [] := List.length_eq_zero_iff.1 (by omega)
    subst hbs
    have hr := run_append_owned_none (P := Tryd.prog) (w := w) 0 26 ty 5 i0 1 Tryd.underlying26 hi _ _ _ hown.row
    exact ⟨_, _, hr, by simpa [bvs] using hown, ⟨rfl, rfl, rfl, Nat.le_refl _, fun _ _ _ => rfl⟩, fun g hg => .inl hg⟩
  · have hsp := h4 ad rfl
    obtain ⟨k, o, sp⟩ := ad
    simp only at hsp
    subst hsp
    have hcells : ∀ j (h : j < bs.length), w.cell? ⟨k, o + j, none⟩ = some (bv bs[j]) := fun j hj => by
      obtain ⟨ad, e, hc⟩ := h5 j hj
      cases e; exact hc
    obtain ⟨v', w', hr, ho, hg, hblk, _⟩ := run_append_Own (P := Tryd.prog) w F 26 ty 5 i0 (.int .u8 0) 1 1 Tryd.underlying26 hi hz0 hz1 hz2 rfl (by decide) _ _ _ hown ⟨k, o, none⟩ bs.length cp (bvs bs) (by simp) (Rd.news hcells) (bvs_one bs) (by unfold maxLen; omega) (by omega) hF
    exact ⟨v', w', hr, ho, hg, hblk⟩

theorem Wrote.drewN {bs : List UInt8} {w' : World} (h : Wrote F G w B S c s ht bufv lv wv vs bs w') (n : Nat) : Wrote F G w B S c s ht bufv lv wv vs bs (w'.drewN n) := by
  obtain ⟨ov', hr, t, g⟩ := h
  exact ⟨ov', hr.kept (Tch.drewN (fun _ => False) w' n) (fun _ _ _ => id), t.trans (Tch.drewN G w' n), ⟨g.sink, g.row, g.new, g.err⟩⟩

set_option maxHeartbeats 2000000 in
theorem sinkWrite_calls (hF : Env F w) (hrp : RepAt F w B S c s ht bufv lv wv ov vs) (hG : OutG G w S ov) {v : Value} {bs : List UInt8} (hrd : Rd w v bs) (hb : s.out.length + bs.length ≤ 140737488355328) :
    Calls Tryd.prog 74 #[.pointer (some ⟨S, 0, none⟩), v] w fun e w' =>
      (e = .returned (.tuple #[.int .i64 bs.length, .nilIface]) ∧ Wrote F G w B S c s ht bufv lv wv vs bs w') ∨
      ∃ (n : Nat) (ea : Addr), e = .returned (.tuple #[.int .i64 n, .iface 116 (.pointer (some ea))]) ∧ w'.cell? ⟨0, 0, none⟩ = some (.iface 116 (.pointer (some ea))) ∧ n < bs.length ∧ ((s.out.length + n : Nat) : Int) = c.room ∧ Wrote F G w B S c s ht bufv lv wv vs (bs.take n) w' := by
  obtain ⟨room, hroom⟩ : ∃ r : Nat, c.room = r := ⟨c.room.toNat, by have := hrp.parts.fits; omega⟩
  have hfit := hrp.parts.fits
  rw [hroom] at hfit
  obtain ⟨n, hn⟩ : ∃ n, n = min bs.length (room - s.out.length) := ⟨_, rfl⟩
  have hnb : n ≤ bs.length := by omega
  have hnr : s.out.length + n ≤ room := by omega
  have hnl : (bs.take n).length = n := by simp; omega
  obtain ⟨ao, cp, rfl, h1, h2, h3, h4, h5⟩ := hrd.val
  have hrn := hrd.taken (k := n) hnb
  have c0 : w.cell? ⟨S, 0, none⟩ = some ov := cell_of_blk hrp.parts.sink 0
  have c1 : w.cell? ⟨S, 1, none⟩ = some (.int .i64 room) := by have := cell_of_blk hrp.parts.sink 1; rw [this, hroom]; rfl
  have hSB : ¬ S = B := fun e => by have h1 := hrp.parts.sink; rw [e, hrp.blk] at h1; simp at h1
  obtain ⟨aw, cw, rfl⟩ := hrp.parts.out.shape
  have t0 : Tch (fun _ => False) w w.drew.drew := (Tch.drew _ _).trans (Tch.drew _ _)
  have hrp2 := hrp.kept t0 (fun _ _ _ => id)
  obtain ⟨v9, w9, hrun9, hown9, hgrow9, hblk9⟩ := run_append_Rd (w := w.drew.drew) hF.new hrp2.parts.out hrn.drew.drew (by omega) 26
  have hSne : (Value.slice aw s.out.length cw).ownBlock ≠ some S := hrp2.parts.out.ne hrp2.parts.sink (by decide)
  have hS9 : w9.heap[S]? = some (.cells #[.slice aw s.out.length cw, .int .i64 c.room] 44 (0, 0)) := by rw [hgrow9.block S (lt_of_heap hrp2.parts.sink) (fun e => hSne e.symm)]; exact hrp2.parts.sink
  have hBne : (Value.slice aw s.out.length cw).ownBlock ≠ some B := hrp2.parts.out.ne hrp2.blk (by decide)
  have hB9 : w9.heap[B]? = some (.cells (wcells S c bufv s.pos s.csize s.cw ht s.en lv wv) 77 (0, 0)) := by rw [hgrow9.block B (lt_of_heap hrp2.blk) (fun e => hBne e.symm)]; exact hrp2.blk
  have c90 : w9.cell? ⟨S, 0, none⟩ = some (.slice aw s.out.length cw) := cell_of_blk hS9 0
  have f90 := frozen_of_blk hS9 0
  obtain ⟨a9, c9, rfl⟩ := hown9.shape
  have t2 : Tch (· = S) w9 (w9.setCell ⟨S, 0, none⟩ (.slice a9 (s.out.length + (bs.take n).length) c9)) := Tch.setCell (F := (· = S)) (a := ⟨S, 0, none⟩) w9 rfl _
  have hT : Tch G w (w9.setCell ⟨S, 0, none⟩ (.slice a9 (s.out.length + (bs.take n).length) c9)) := ((t0.mono (fun _ h => h.elim)).trans (Tch.grown hgrow9 hG.row)).trans (t2.mono (fun k e => e ▸ hG.sink))
  have hP := hrp2.parts.outGrown (bs := bs.take n) hown9 rfl rfl hgrow9 hblk9 ⟨by rw [hnl, hroom]; omega, hrp.parts.fits.2⟩
  have hfin : Wrote F G w B S c s ht bufv lv wv vs (bs.take n) (w9.setCell ⟨S, 0, none⟩ (.slice a9 (s.out.length + (bs.take n).length) c9)) :=
    ⟨_, ⟨t2.heap hB9 (fun e => hSB e.symm), hrp.FB, hP⟩, hT, ⟨hG.sink, fun g hg => (hblk9 g hg).elim (hG.row g) (hG.new g), fun k hk => hG.new k (by have := hgrow9.size; simp [World.setCell] at hk this; omega), hG.err⟩⟩
  obtain ⟨ea, hea⟩ := hF.err
  have hce := hT.cell hea hG.err
  have HFIN := Lib.hid hfin
  have HRUN := Lib.hid hrun9
  have HROOM := Lib.hid hroom
  have HN := Lib.hid hn
  clear hfin hrun9 hroom hn hrp hrp2 hown9 hgrow9 hblk9 hS9 hB9 hT hP t2 hrd hrn h5 h3 h4 hea
  rw [hnl] at *
  go_enter Tryd.func74, Tryd.ntmps74
  have hw1 : IntKind.i64.wrap ((room : Int) - (s.out.length : Int)) = (room : Int) - (s.out.length : Int) := IntWalk.i64_in _ (by omega)
  have hr0 : ¬ ((room : Int) < 0) := by omega
  unfold maxLen at h2
  have hmin : min (bs.length : Int) ((room : Int) - (s.out.length : Int)) = (n : Int) := by have := HN.out; omega
  have x1 : (if cp = 0 then ao else Option.map (fun x => x.add 0) ao) = ao := by cases ao <;> simp [Addr.add]
  have hc2 : w.drew.drew.cell? ⟨S, 0, none⟩ = some (.slice aw s.out.length cw) := c0
  have hc1 : w.drew.cell? ⟨S, 0, none⟩ = some (.slice aw s.out.length cw) := c0
  have hncp : (n : Int) ≤ (cp : Int) := by omega
  go_wp2_with fail
  refine wp_region_rf (fun w' => w' = w.drew) [0, 1, 2, 3, 4, 5, 6, 7, 8, 9, 10, 11, 12] [13] 0 [_, _, _, _, _, _, _, _, _, _, _, _, _] [_] (by kernel_rfl) (by kernel_rfl) rfl rfl (fun _ _ d _ _ h => by cases d <;> exact h) rfl ?_
  iterate 13 (refine wpR_step rfl (fun K hK => ?_); go_simp; refine hK _ ?_; clear hK K)
  refine wpR_nil (wpE_zero ?_)
  clear hmin hw1 c0 c1
  go_wp2_with fail
  refine wp_region_rf (fun w' => w' = w.drew.drew ∨ w' = w9) [0, 1, 2, 3, 4, 5, 6, 7, 9, 10] [8, 11] 1 [_, _, _, _, _, _, _, _, _, _] [_, _] (by kernel_rfl) (by kernel_rfl) rfl rfl (fun _ _ d _ _ h => by cases d <;> exact h) (.inl rfl) ?_
  iterate 10 (refine wpR_step rfl (fun K hK => ?_); go_simp; refine hK _ ?_; clear hK K)
  refine wpR_nil ?_
  refine wpE_step rfl (fun K hK => ?_)
  refine wp_append_eq (.tmp 40) (.tmp 43) 26 rfl rfl rfl HRUN.out ?_
  go_simp
  refine hK _ _ (.inr rfl) ?_
  clear hK K HRUN
  refine wpE_zero ?_
  by_cases hlt : n < bs.length
  · go_wp2_with fail
    go_quiet (fail)
    go_wp2_with fail
    go_ret2
    exact .inr ⟨n, ea, rfl, hce, hlt, by rw [HROOM.out]; have := HN.out; omega, HFIN.out.drewN nq⟩
  · have hnn : n = bs.length := by omega
    subst hnn
    go_wp2_with fail
    go_ret2
    have := HFIN.out
    rw [List.take_length] at this
    exact .inl ⟨rfl, this⟩
end
end Go.Proofs.YteildpeogbenbaaDoor

namespace Go.Proofs.YteildpeogbenbaaDoor
open Go.RowKit Go.Tw Go.Sort
set_option maxRecDepth 100000
section
variable {F G : Nat → Prop} {w : World} {B S : Nat} {c : Cfg} {s : St} {ht : Bool} {bufv lv wv ov : Value} {vs : List Value}

theorem method_write (a : Addr) (w : World) : (method 254 42 (.pointer (some a)) "Write").run Tryd.prog w = .ok (74, .pointer (some a)) w := by kernel_rfl

set_option maxHeartbeats 1000000 in
theorem write0_calls (hF : Env F w) (hrp : RepAt F w B S c s ht bufv lv wv ov vs) (hG : OutG G w S ov) {v : Value} {bs : List UInt8} (hrd : Rd w v bs) (hb : s.out.length + bs.length ≤ 140737488355328) :
    Calls Tryd.prog 39 #[.pointer (some ⟨B, 0, none⟩), v] w fun e w' => (e = .returned (.tuple #[]) ∧ Wrote F G w B S c s ht bufv lv wv vs bs w') ∨ Stop F G w B S c (s.out ++ bs) e w' := by
  have HS := Lib.hid (sinkWrite_calls hF hrp hG hrd hb)
  obtain ⟨ao, cp, rfl, h1, h2, h3, h4, h5⟩ := hrd.val
  have c0 : w.cell? ⟨B, 0, none⟩ = some (.iface 42 (.pointer (some ⟨S, 0, none⟩))) := cell_of_blk hrp.blk 0
  clear h3 h4 h5
  go_enter Tryd.func39, Tryd.ntmps39
  have hmw := method_write ⟨S, 0, none⟩
  have hbne : ((bs.length : Int) != (bs.length : Int)) = false := by simp
  go_wp2_with fail
  refine HS.out.mono ?_
  rintro e w1 (⟨rfl, hw⟩ | ⟨n, ea, rfl, hce, hn, hrm, hw⟩)
  · have HW := Lib.hid hw
    clear hw
    go_wp2_with fail
    go_end0
    exact .inl ⟨rfl, HW.out⟩
  · have HW := Lib.hid hw
    have HCE := Lib.hid hce
    have HRM := Lib.hid hrm
    have hne2 : ((n : Int) != (bs.length : Int)) = true := by rw [bne_iff_ne]; omega
    clear hw hce hrm
    go_wp2_with fail
    obtain ⟨ov', hr, t, g⟩ := HW.out
    refine And.intro rfl (Or.inr ⟨ea, rfl, HCE.out, _, ht, bufv, lv, wv, ov', vs, hr, ?_, ⟨bs.drop n, ?_, ?_⟩, t⟩)
    · rw [← HRM.out]; simp; omega
    · rw [List.append_assoc, List.take_append_drop]
    · intro h0
      have := congrArg List.length h0
      simp at this
      omega

/-- Two writes, one behind the other. -/
theorem Wrote.step {w1 w2 : World} {bs cs : List UInt8} (ov1 : Value) (_ : RepAt F w1 B S c { s with out := s.out ++ bs } ht bufv lv wv ov1 vs) (t1 : Tch G w w1) (h : Wrote F G w1 B S c { s with out := s.out ++ bs } ht bufv lv wv vs cs w2) : Wrote F G w B S c s ht bufv lv wv vs (bs ++ cs) w2 := by
  obtain ⟨ov2, hr2, t2, g2⟩ := h
  refine ⟨ov2, ?_, t1.trans t2, g2⟩
  simpa using hr2

def NRel (F G : Nat → Prop) (w : World) (B S : Nat) (c : Cfg) (s : St) (ht : Bool) (bufv lv wv : Value) (vs : List Value) (b : UInt8) (n : Nat) (t : Value) (wr : World) : Prop :=
  ∃ m : Nat, m ≤ n ∧ t = .int .i64 m ∧ Wrote F G w B S c s ht bufv lv wv vs (List.replicate (n - m) b) wr

set_option maxHeartbeats 1000000 in
theorem writeN_calls (hF : Env F w) (hrp : RepAt F w B S c s ht bufv lv wv ov vs) (hG : OutG G w S ov) {v : Value} {b : UInt8} (hrd : Rd w v (List.replicate 8 b)) (hgv : ∀ g, v.ownBlock = some g → ¬ G g) (n : Nat) (hb : s.out.length + n ≤ 140737488355328) :
    Calls Tryd.prog 57 #[.pointer (some ⟨B, 0, none⟩), v, .int .i64 n] w fun e w' => (e = .returned (.tuple #[]) ∧ Wrote F G w B S c s ht bufv lv wv vs (List.replicate n b) w') ∨ Stop F G w B S c (s.out ++ List.replicate n b) e w' := by
  obtain ⟨ao, cp, hv, h1, h2, h3, h4, h5⟩ := hrd.val
  simp only [List.length_replicate] at hv h1
  subst hv
  have HRD := Lib.hid hrd
  have H0 : NRel F G w B S c s ht bufv lv wv vs b n (.int .i64 n) w := ⟨n, Nat.le_refl _, rfl, ov, by simpa using hrp, Tch.refl _ _, hG⟩
  have HF := Lib.hid hF
  have HGV := Lib.hid hgv
  have x1 : (if cp = 0 then ao else Option.map (fun x => x.add 0) ao) = ao := by cases ao <;> simp [Addr.add]
  unfold maxLen at h2
  clear h3 h4 h5 hrd hF hgv hrp hG
  go_enter Tryd.func57, Tryd.ntmps57
  go_wp2_with fail
  go_loopw [2] (fun t wr => NRel F G w B S c s ht bufv lv wv vs b n t wr) (fun t _ => (intOf t).toNat)
  case atStart => exact H0
  case round =>
    obtain ⟨m, hm, rfl, ov1, hr1, t1, g1⟩ := hrel
    have HR1 := Lib.hid hr1
    have T1 := Lib.hid t1
    have G1 := Lib.hid g1
    have HRD1 := Lib.hid (HRD.out.kept t1 (fun _ g hg => HGV.out g hg))
    have HF1 : Hid (Env F wr) := HF.out.step t1 g1.err
    clear hr1 t1 g1
    by_cases hlt : 8 < m
    · go_wp2_with (go_at_call 39; refine (stopUp (T' := s.out ++ List.replicate n b) (write0_calls HF1.out HR1.out G1.out HRD1.out (by simp; omega)) T1.out (fun _ _ => id) (List.replicate (m - 8) b) (by simp only [List.append_assoc, List.replicate_append_replicate]; congr 2; omega)).mono ?_; rintro e w2 hE; rcases hE with ⟨rfl, hw⟩ | hE; rotate_left; (obtain ⟨ch, rfl⟩ := hE.panic; exact And.intro rfl (Or.inr hE)); have HW := Lib.hid hw; clear hw)
      go_roundw
      case rel =>
        refine ⟨m - 8, by omega, by (have : ((m - 8 : Nat) : Int) = (m : Int) - 8 := by omega); rw [this], ?_⟩
        have := Wrote.step ov1 HR1.out T1.out HW.out
        rwa [List.replicate_append_replicate, show n - m + 8 = n - (m - 8) by omega] at this
      case measure => simp [intOf]; omega
    · have HT := Lib.hid (HRD1.out.taken (k := m) (by simp; omega))
      go_wp2_with (go_at_call 39; refine (stopUp (T' := s.out ++ List.replicate n b) (write0_calls HF1.out HR1.out G1.out HT.out (by simp; omega)) T1.out (fun _ _ => id) [] (by simp only [List.append_nil, List.append_assoc, List.take_replicate, List.replicate_append_replicate]; congr 2; omega)).mono ?_; rintro e w2 hE; rcases hE with ⟨rfl, hw⟩ | hE; rotate_left; (obtain ⟨ch, rfl⟩ := hE.panic; exact And.intro rfl (Or.inr hE)); have HW := Lib.hid hw; clear hw)
      go_end0
      refine .inl ⟨rfl, ?_⟩
      have := Wrote.step ov1 HR1.out T1.out HW.out
      rwa [List.take_replicate, List.replicate_append_replicate, show n - m + min m 8 = n by omega] at this
end
end Go.Proofs.YteildpeogbenbaaDoor
