/- A writer is set up anew with another sink. -/
import Derived.Test.YtaagcdlghoiolaaDoorWw
namespace Go.Proofs.YtaagcdlghoiolaaDoor
open Go.RowKit Go.Tw Go.Sort
set_option maxRecDepth 100000

/-- F, but for a sink and what it has got. -/
def Past (F : Nat → Prop) (S : Nat) (ov : Value) (k : Nat) : Prop := F k ∧ k ≠ S ∧ ov.ownBlock ≠ some k
section
variable {F : Nat → Prop} {w : World} {B S T : Nat} {c : Cfg} {s : St} {bufv lv wv ov : Value} {vs : List Value}
theorem Parts.swap (h : RepAt F w B S c s false bufv lv wv ov vs) {room : Int} (hT : w.heap[T]? = some (.cells #[.slice none 0 0, .int .i64 room] 50 (0, 0))) (hFT : F T) (hne : T ≠ S) : Parts (Past F S ov) w T room s.buf s.lines s.ws [] bufv lv wv (.slice none 0 0) vs ∧ Past F S ov B := by
  have hp := h.parts
  have nS : ∀ {k : Nat} {cs : Array Value} {Ty : TypeId} {fr : Nat × Nat}, w.heap[k]? = some (.cells cs Ty fr) → Ty ≠ 50 → k ≠ S := by
    intro k cs Ty fr hk hTy e
    subst e
    rw [hp.sink] at hk
    simp at hk
    exact hTy hk.2.1.symm
  have nO : ∀ {k : Nat} {cs : Array Value} {Ty : TypeId} {fr : Nat × Nat}, w.heap[k]? = some (.cells cs Ty fr) → Ty ≠ 5 → ov.ownBlock ≠ some k := fun hk hTy => hp.out.ne hk hTy
  refine ⟨⟨⟨hp.buf.row, fun g hg => ⟨hp.buf.mem g hg, nS (hp.buf.block hg).choose_spec (by decide), ?_⟩⟩, ?_, ⟨hp.wds.row, fun g hg => ⟨hp.wds.mem g hg, nS (hp.wds.block hg).choose_spec (by decide), nO (hp.wds.block hg).choose_spec (by decide)⟩⟩, hT, ⟨hFT, hne, nO hT (by decide)⟩, Own.nil _ _ _ _, .inl rfl⟩, ⟨h.FB, nS h.blk (by decide), nO h.blk (by decide)⟩⟩
  · intro e
    rcases hp.ne with h0 | h0
    · rw [h0] at e; cases e
    · exact h0 (e.trans hg.symm)
  · refine ⟨?_, hp.lines.le, fun i v hv => ?_, hp.lines.ne⟩
    · rcases hp.lines.val with h0 | ⟨L, e, hF, hh, hm⟩
      · exact .inl h0
      · exact .inr ⟨L, e, ⟨hF, nS hh (by decide), nO hh (by decide)⟩, hh, hm⟩
    · obtain ⟨n, xs, ho, hl⟩ := hp.lines.row i v hv
      exact ⟨n, xs, ⟨ho.row, fun g hg => ⟨ho.mem g hg, nS (ho.block hg).choose_spec (by decide), nO (ho.block hg).choose_spec (by decide)⟩⟩, hl⟩
theorem Past.fresh (hF : ∀ k, w.heap.size ≤ k → F k) (h : RepAt F w B S c s false bufv lv wv ov vs) : ∀ k, w.heap.size ≤ k → Past F S ov k := fun k hk => by
  have h1 := lt_of_heap h.parts.sink
  exact ⟨hF k hk, by omega, fun e => by have := h.parts.out.lt e; omega⟩
theorem again_init (hF : ∀ k, w.heap.size ≤ k → F k) (h : RepAt F w B S c s false bufv lv wv ov vs) {room : Int} (hT : w.heap[T]? = some (.cells #[.slice none 0 0, .int .i64 room] 50 (0, 0))) (hFT : F T) (hne : T ≠ S) (mn tb pd fl : Nat) (ch : UInt8) (hmn : mn ≤ 1000) (htb : tb ≤ 1000) (hpd : pd ≤ 1000) (hfl : fl < 64) :
    Calls Tryd.prog 37 #[.pointer (some ⟨B, 0, none⟩), .iface 48 (.pointer (some ⟨T, 0, none⟩)), .int .i64 mn, .int .i64 tb, .int .i64 pd, .int .u8 ch.toNat, .int .u64 fl] w fun ed w' => ed = .returned (.pointer (some ⟨B, 0, none⟩)) ∧ Rep (Past F S ov) w' B T ⟨mn, tb, pd, ch, keepFl ch fl, room⟩ (St.new []) ∧ Tch (Past F S ov) w w' := by
  obtain ⟨hP, hB⟩ := Parts.swap h hT hFT hne
  exact Init_calls (F := Past F S ov) (Past.fresh hF h) hB (iv := .iface 48 (.pointer (some ⟨S, 0, none⟩))) (mn0 := c.mn) (tb0 := c.tb) (pd0 := c.pd) (fl0 := c.fl) (ps0 := [bv c.ch, bv c.ch, bv c.ch, bv c.ch, bv c.ch, bv c.ch, bv c.ch, bv c.ch]) (pos := s.pos) (csize := s.csize) (cw := s.cw) (en := s.en)
    rfl (fun v hv => by simp at hv; subst hv; rfl) rfl (by rw [h.blk]; rfl) hP mn tb pd fl ch hmn htb hpd hfl
end
end Go.Proofs.YtaagcdlghoiolaaDoor
