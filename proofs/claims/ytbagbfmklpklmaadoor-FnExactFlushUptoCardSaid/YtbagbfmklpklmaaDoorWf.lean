/- Walks: the sink's Write, write0, writeN. -/
import Derived.Test.YtbagbfmklpklmaaDoorWe
namespace Go.Proofs.YtbagbfmklpklmaaDoor
open Go.RowKit Go.Tw Go.Sort
set_option maxRecDepth 100000
section
variable {F G : Nat → Prop} {w : World} {B S : Nat} {c : Cfg} {s : St} {ht : Bool} {bufv lv wv ov : Value} {vs : List Value}

/-- What may be written: the sink, its row, new blocks. -/
structure OutG (G : Nat → Prop) (w : World) (S : Nat) (ov : Value) : Prop where
  sink : G S
  row : ∀ g, ov.ownBlock = some g → G g
  new : ∀ k, w.heap.size ≤ k → G k

/-- bs has gone to the sink. -/
def Wrote (F G : Nat → Prop) (w : World) (B S : Nat) (c : Cfg) (s : St) (ht : Bool) (bufv lv wv : Value) (vs : List Value) (bs : List UInt8) (w' : World) : Prop :=
  ∃ ov', RepAt F w' B S c { s with out := s.out ++ bs } ht bufv lv wv ov' vs ∧ Tch G w w' ∧ OutG G w' S ov'

theorem Parts.outGrown {w' : World} {room : Int} {bf ot : List UInt8} {ls : List (List PC)} {ws : List Nat} (h : Parts F w S room bf ls ws ot bufv lv wv ov vs) {v' : Value} {bs : List UInt8} {n : Nat} {xs : List Value} (hown : Own F w' 5 1 v' n xs) (hn : n = ot.length + bs.length) (hx : xs = bvs ot ++ bvs bs) (hg : w.grownBy w' ov.ownBlock) (hb : ∀ g, v'.ownBlock = some g → ov.ownBlock = some g ∨ w.heap.size ≤ g) :
    Parts F (w'.setCell ⟨S, 0, none⟩ v') S room bf ls ws (ot ++ bs) bufv lv wv v' vs := by
  subst hn hx
  have t : Tch (fun k => ov.ownBlock = some k) w w' := Tch.grown hg (fun k e => e)
  have no : ∀ {k : Nat} {cs : Array Value} {T : TypeId} {fr : Nat × Nat}, w.heap[k]? = some (.cells cs T fr) → T ≠ 5 → ¬ (ov.ownBlock = some k) := fun hk hT => h.out.ne hk hT
  have hS' := t.heap h.sink (no h.sink (by decide))
  have t2 : Tch (· = S) w' (w'.setCell ⟨S, 0, none⟩ v') := Tch.setCell (F := (· = S)) (a := ⟨S, 0, none⟩) w' rfl v'
  have no2 : ∀ {k : Nat} {cs : Array Value} {T : TypeId} {fr : Nat × Nat}, w'.heap[k]? = some (.cells cs T fr) → T ≠ 43 → ¬ (k = S) := by
    intro k cs T fr hk hT e
    subst e; rw [hS'] at hk; simp at hk; exact hT hk.2.1.symm
  have keepB : Own F w' 5 1 bufv bf.length (bvs bf) := h.buf.kept t (fun g hg e => by
    rcases h.ne with h0 | h0
    · rw [h0] at e; cases e
    · exact h0 (e.trans hg.symm))
  have keep2 : ∀ {e : TypeId} {size : Nat} {u : Value} {n : Nat} {xs : List Value}, Own F w' e size u n xs → e ≠ 43 → Own F (w'.setCell ⟨S, 0, none⟩ v') e size u n xs :=
    fun ho he => ho.kept t2 (fun g hg => no2 (ho.block hg).choose_spec he)
  have hl1 : LinesOwn F w' lv ls vs := h.lines.kept t (fun L hL => no (h.lines.blockL hL).1 (by decide)) (fun i v g hv hg => no (h.lines.blockR hv hg).1.choose_spec (by decide))
  have hw1 : Own F w' 3 1 wv ws.length (ivs ws) := h.wds.kept t (fun g hg => no (h.wds.block hg).choose_spec (by decide))
  refine ⟨keep2 keepB (by decide), hl1.kept t2 (fun L hL => no2 (hl1.blockL hL).1 (by decide)) (fun i v g hv hg => no2 (hl1.blockR hv hg).1.choose_spec (by decide)), keep2 hw1 (by decide), ?_, h.FS, ?_, ?_⟩
  · rw [blk_set hS' 0 v']; simp
  · have := keep2 hown (by decide); simpa using this
  · rcases hv : v'.ownBlock with _ | g
    · exact .inl rfl
    · refine .inr fun e => ?_
      rcases hb g hv with h1 | h1
      · rcases h.ne with h0 | h0
        · rw [h0] at h1; cases h1
        · exact h0 (h1.trans e)
      · have := h.buf.lt e.symm; omega

set_option maxHeartbeats 400000 in
theorem sinkWrite_calls (hF : ∀ k, w.heap.size ≤ k → F k) (hrp : RepAt F w B S c s ht bufv lv wv ov vs) (hG : OutG G w S ov) (hroom : c.room < 0) {v : Value} {bs : List UInt8} (hrd : Rd w v bs) (hb : s.out.length + bs.length ≤ 140737488355328) :
    Calls Tryd.prog 77 #[.pointer (some ⟨S, 0, none⟩), v] w fun e w' => e = .returned (.tuple #[.int .i64 bs.length, .nilIface]) ∧ Wrote F G w B S c s ht bufv lv wv vs bs w' := by
  obtain ⟨ao, cp, rfl, h1, h2, h3, h4, h5⟩ := hrd.val
  obtain ⟨i0, hi, hz0, hz1, hz2⟩ := info_parts Tryd.info_u8
  have c0 : w.cell? ⟨S, 0, none⟩ = some ov := cell_of_blk hrp.parts.sink 0
  have c1 : w.cell? ⟨S, 1, none⟩ = some (.int .i64 c.room) := cell_of_blk hrp.parts.sink 1
  have hSB : ¬ S = B := fun e => by have h1 := hrp.parts.sink; rw [e, hrp.blk] at h1; simp at h1
  rcases ao with _ | ad
  · have hcp : cp = 0 := h3 rfl
    subst hcp
    have hbs : bs = [] := List.length_eq_zero_iff.1 (by omega)
    subst hbs
    have f0 := frozen_of_blk hrp.parts.sink 0
    obtain ⟨aw, cw, rfl⟩ := hrp.parts.out.shape
    go_enter Tryd.func77, Tryd.ntmps77
    go_wp2_with (at_builtin; refine wpList_append_own_none rfl (.tmp 16) (.tmp 17) 26 rfl 0 5 i0 1 Tryd.underlying26 hi _ _ _ rfl hrp.parts.out.row rfl ?_)
    go_ret2
    have hset := blk_set hrp.parts.sink 0 (.slice aw s.out.length cw)
    have t2 : Tch (· = S) w (w.setCell ⟨S, 0, none⟩ (.slice aw s.out.length cw)) := Tch.setCell (F := (· = S)) (a := ⟨S, 0, none⟩) w rfl _
    have hP := hrp.parts.outGrown (w' := w) (bs := []) hrp.parts.out (by simp) (by simp [bvs]) ⟨rfl, rfl, rfl, Nat.le_refl _, fun _ _ _ => rfl⟩ (fun g hg => .inl hg)
    exact ⟨by simp, _, ⟨t2.heap hrp.blk (fun e => hSB e.symm), hrp.FB, hP⟩, t2.mono (fun k e => e ▸ hG.sink), ⟨hG.sink, hG.row, fun k hk => hG.new k (by simpa [World.setCell] using hk)⟩⟩
  · have hsp := h4 ad rfl
    obtain ⟨k, o, sp⟩ := ad
    simp only at hsp
    subst hsp
    have hcells : ∀ j (h : j < bs.length), w.cell? ⟨k, o + j, none⟩ = some (bv bs[j]) := fun j hj => by
      obtain ⟨ad, e, hc⟩ := h5 j hj
      cases e; exact hc
    clear h5 h3 h4
    go_enter Tryd.func77, Tryd.ntmps77
    go_wp2_with (at_builtin; refine wpList_append_Own rfl (.tmp 16) (.tmp 17) 26 rfl F 5 i0 (.int .u8 0) 1 1 Tryd.underlying26 hi hz0 hz1 hz2 rfl (by decide) ov _ _ rfl hrp.parts.out ⟨k, o, none⟩ bs.length cp (bvs bs) rfl ?c1 ?c2 ?c3 ?c4 ?c5 hF ?_)
    case c1 => simp
    case c2 => exact Rd.news hcells
    case c3 => exact bvs_one bs
    case c4 => unfold maxLen; omega
    case c5 => omega
    intro v' w1 hown hgrow hblk
    have hSne : ov.ownBlock ≠ some S := hrp.parts.out.ne hrp.parts.sink (by decide)
    have hS1 : w1.heap[S]? = some (.cells #[ov, .int .i64 c.room] 43 (0, 0)) := by rw [hgrow.block S (lt_of_heap hrp.parts.sink) (fun e => hSne e.symm)]; exact hrp.parts.sink
    have hBne : ov.ownBlock ≠ some B := hrp.parts.out.ne hrp.blk (by decide)
    have hB1 : w1.heap[B]? = some (.cells (wcells S c bufv s.pos s.csize s.cw ht s.en lv wv) 70 (0, 0)) := by rw [hgrow.block B (lt_of_heap hrp.blk) (fun e => hBne e.symm)]; exact hrp.blk
    have d0 : w1.cell? ⟨S, 0, none⟩ = some ov := cell_of_blk hS1 0
    have g0 := frozen_of_blk hS1 0
    obtain ⟨av, cv, rfl⟩ := hown.shape
    have HO := Lib.hid hown
    have HG := Lib.hid hgrow
    have HK := Lib.hid hblk
    have HB := Lib.hid hB1
    clear hown hgrow hblk hS1 hB1 hcells c0 c1
    go_wp2
    go_ret2
    have hP := hrp.parts.outGrown (bs := bs) HO.out rfl rfl HG.out HK.out
    have t2 : Tch (· = S) w1 (w1.setCell ⟨S, 0, none⟩ (.slice av (s.out.length + bs.length) cv)) := Tch.setCell (F := (· = S)) (a := ⟨S, 0, none⟩) w1 rfl _
    refine ⟨rfl, _, ⟨t2.heap HB.out (fun e => hSB e.symm), hrp.FB, hP⟩, (Tch.grown HG.out hG.row).trans (t2.mono (fun k e => e ▸ hG.sink)), ⟨hG.sink, fun g hg => ?_, fun k hk => hG.new k ?_⟩⟩
    · rcases HK.out g hg with h | h
      · exact hG.row g h
      · exact hG.new g h
    · have := HG.out.size; simp [World.setCell] at hk; omega
end
end Go.Proofs.YtbagbfmklpklmaaDoor
