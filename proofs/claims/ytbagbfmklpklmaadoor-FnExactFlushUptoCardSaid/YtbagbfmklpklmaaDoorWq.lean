/- Walks: handlePanic where nothing panics; flush, Flush. -/
import Derived.Test.YtbagbfmklpklmaaDoorWp
import Derived.Defers
import Derived.Recover
namespace Go.Proofs.YtbagbfmklpklmaaDoor
open Go.RowKit Go.Tw Go.Sort
set_option maxRecDepth 100000

theorem handlePanic_idle (p q : Value) (t : Value) (w : World) :
    CallsD Tryd.prog 33 #[p, q, t] .returning w fun e u' w' => u' = .returning ∧ e = .returned (.tuple #[]) ∧ w = w' := by
  refine callsD_of_wpS Tryd.func33 rfl fun c₀ cs hu => ?_
  apply wpS_seq
  apply wpS_region
  simp [wpOpsS, go_sem, recoverD, hu, Tryd.ntmps33, Exit.thenS]
  apply wpS_seq
  apply wpS_region
  simp [wpOpsS, go_sem, recoverD, hu, Exit.thenS]
  refine wpS_cond (t := false) (by simp [Act.eval, Array.replicate]) ?_
  simp only [Bool.false_eq_true, if_false]
  refine wpS_of_wp (wp_skip ?_)
  cases c₀
  simp_all [bodyPostS, results, Tryd.results33]

section
variable {F : Nat → Prop} {w : World} {B S : Nat} {c : Cfg} {s : St} {k : Nat}

theorem Rep.mono {G : Nat → Prop} (h : Rep F w B S c s) (hG : ∀ k, k < w.heap.size → F k → G k) : Rep G w B S c s := by
  obtain ⟨bufv, lv, wv, ov, vs, h⟩ := h
  refine ⟨bufv, lv, wv, ov, vs, h.blk, hG _ (lt_of_heap h.blk) h.FB, h.parts.buf.mono hG, ⟨?_, h.parts.lines.le, fun i v hv => ?_, h.parts.lines.ne⟩, h.parts.wds.mono hG, h.parts.sink, hG _ (lt_of_heap h.parts.sink) h.parts.FS, h.parts.out.mono hG, h.parts.ne⟩
  · rcases h.parts.lines.val with h0 | ⟨L, e, hF, hh, hm⟩
    · exact .inl h0
    · exact .inr ⟨L, e, hG _ (lt_of_heap hh) hF, hh, hm⟩
  · obtain ⟨n, xs, ho, hl⟩ := h.parts.lines.row i v hv
    exact ⟨n, xs, ho.mono hG, hl⟩

/-- The frame of a call that has a variable of its own in the block e. -/
def But (F : Nat → Prop) (e : Nat) (k : Nat) : Prop := F k ∧ k ≠ e
theorem Rep.but (h : Rep F w B S c s) (e : Nat) (he : w.heap.size ≤ e) : Rep (But F e) w B S c s := h.mono fun k hk hF => ⟨hF, by omega⟩
theorem Rep.unbut {e : Nat} (h : Rep (But F e) w B S c s) : Rep F w B S c s := h.mono fun _ _ hF => hF.1

set_option maxHeartbeats 1000000 in
theorem flush_calls (hF : ∀ k, w.heap.size ≤ k → F k) (hrep : Rep F w B S c s) (g : Good c s k) :
    Calls Tryd.prog 43 #[.pointer (some ⟨B, 0, none⟩)] w fun ed w' => ed = .returned .nilIface ∧ Rep F w' B S c (s.flush c) ∧ Tch F w w' := by
  have HN := Lib.hid (flushNoDefers_calls (F := But F w.heap.size) (w := w.alloc (.cells #[.nilIface] 47)) (fun k hk => ⟨hF k (by simp at hk; omega), by simp at hk; omega⟩) ((hrep.but _ (Nat.le_refl _)).alloc _) g)
  have hBl := hrep.conf.2.2.2
  have hFe := hF w.heap.size (Nat.le_refl _)
  clear hrep
  go_enter_defers Tryd.func43, Tryd.ntmps43
  go_wp2_with (go_at_call 38; (with_reducible refine HN.out.mono ?_); rintro e w1 ⟨rfl, hr, t⟩; have he := t.heap (k := w.heap.size) (heap_alloc_new w _) (fun h => h.2 rfl); have c0 : w1.cell? ⟨w.heap.size, 0, none⟩ = some .nilIface := cell_of_blk he 0; have f0 := frozen_of_blk he 0; have HR := Lib.hid hr; have T := Lib.hid t; have HE := Lib.hid he; clear hr t he)
  refine leaves_cons (f := 33) (args := #[.pointer (some ⟨B, 0, none⟩), .pointer (some ⟨w.heap.size, 0, none⟩), .string ⟨#[70, 108, 117, 115, 104]⟩]) (by simp) (by simp [go_sem]) ?_
  refine (handlePanic_idle _ _ _ _).mono ?_
  rintro e u' w'' ⟨rfl, rfl, rfl⟩
  have hR : Rep F (w1.setCell ⟨w.heap.size, 0, none⟩ .nilIface) B S c (s.flush c) := Rep.unbut (HR.out.kept (Tch.setCell (F := (· = w.heap.size)) (a := ⟨w.heap.size, 0, none⟩) w1 rfl _) (fun k _ hk => hk.2))
  have hT : Tch F w (w1.setCell ⟨w.heap.size, 0, none⟩ .nilIface) := ((Tch.alloc F w _).trans (T.out.mono (fun k h => h.1))).trans (Tch.setCell _ hFe _)
  have hc : (w1.setCell ⟨w.heap.size, 0, none⟩ .nilIface).cell? ⟨w.heap.size, 0, none⟩ = some .nilIface := by have := blk_set HE.out 0 .nilIface; rw [cell_of_blk this]; simp
  simp [Leaves, settle, results, Tryd.results43, go_sem, hc]
  exact ⟨hR, hT⟩
theorem Flush_calls (hF : ∀ k, w.heap.size ≤ k → F k) (hrep : Rep F w B S c s) (g : Good c s k) :
    Calls Tryd.prog 26 #[.pointer (some ⟨B, 0, none⟩)] w fun ed w' => ed = .returned .nilIface ∧ Rep F w' B S c (s.flush c) ∧ Tch F w w' := by
  have HN := Lib.hid (flush_calls hF hrep g)
  clear hrep
  go_enter Tryd.func26, Tryd.ntmps26
  go_wp2_with (go_at_call 43; (with_reducible refine HN.out.mono ?_); rintro e w1 ⟨rfl, hr, t⟩; have HR := Lib.hid hr; have T := Lib.hid t; clear hr t)
  go_ret
  exact ⟨rfl, HR.out, T.out⟩
end
end Go.Proofs.YtbagbfmklpklmaaDoor
