/- A law's walk: what stands while it goes: the set-up in its block, the text, nothing old has turned. -/
import Derived.Test.YteildpeogbenbaaDoorSp
import Derived.Test.YteildpeogbenbaaDoorPh
namespace Go.Proofs.YteildpeogbenbaaDoor
open Go.RowKit Go.Tw Go.Sort
set_option maxRecDepth 100000

structure LS (w : World) (mn tb pd : Int) (ch : UInt8) (fl : Int) (v : Value) (s : List UInt8) (w' : World) : Prop where
  conf : w'.heap[w.heap.size]? = some (.cells #[.int .i64 mn, .int .i64 tb, .int .i64 pd, .int .u8 ch.toNat, .int .i64 fl] 23 (0, 0))
  rd : Rd w' v s
  bel : Below w.heap.size w w'

section
variable {w w' w'' : World} {mn tb pd fl : Int} {ch : UInt8} {v : Value} {s : List UInt8}
theorem LS.start (h : Rd w v s) : LS w mn tb pd ch fl v s (w.alloc (.cells #[.int .i64 mn, .int .i64 tb, .int .i64 pd, .int .u8 ch.toNat, .int .i64 fl] 23)) :=
  have hb : Below w.heap.size w (w.alloc (.cells #[.int .i64 mn, .int .i64 tb, .int .i64 pd, .int .u8 ch.toNat, .int .i64 fl] 23)) := (Below.refl _ w).alloc (Nat.le_refl _) _
  ⟨heap_alloc_new w _, h.below hb, hb⟩
theorem LS.step (h : LS w mn tb pd ch fl v s w') (b : Below w'.heap.size w' w'') : LS w mn tb pd ch fl v s w'' :=
  ⟨(Tch.of_below (F := fun _ => False) b).heap h.conf id, h.rd.below b, h.bel.trans (b.mono h.bel.size)⟩
theorem below_drawn {a b : World} {B : Nat} (h : Below B a.drew b) : Below B a b := ⟨h.os, h.tape, h.output, h.size, h.block⟩
theorem LS.drew (h : LS w mn tb pd ch fl v s w') : LS w mn tb pd ch fl v s w'.drew := h.step (below_drawn (Below.refl _ _))
theorem LS.cells (h : LS w mn tb pd ch fl v s w') : w'.cell? ⟨w.heap.size, 0, none⟩ = some (.int .i64 mn) ∧ w'.cell? ⟨w.heap.size, 1, none⟩ = some (.int .i64 tb) ∧ w'.cell? ⟨w.heap.size, 2, none⟩ = some (.int .i64 pd) ∧ w'.cell? ⟨w.heap.size, 3, none⟩ = some (.int .u8 ch.toNat) ∧ w'.cell? ⟨w.heap.size, 4, none⟩ = some (.int .i64 fl) := conf_at h.conf
theorem LS.shape (h : LS w mn tb pd ch fl v s w') : ∃ ao cp, v = .slice ao s.length cp ∧ s.length ≤ cp ∧ cp ≤ 9223372036854775807 := by
  obtain ⟨ao, cp, e, h1, h2, _⟩ := h.rd.val
  unfold maxLen at h2
  exact ⟨ao, cp, e, h1, by omega⟩
/-- The text is another one from here on. -/
theorem LS.text (h : LS w mn tb pd ch fl v s w') {v2 : Value} {s2 : List UInt8} (h2 : Rd w' v2 s2) : LS w mn tb pd ch fl v2 s2 w' := ⟨h.conf, h2, h.bel⟩
/-- The set-up is another one from here on: the five stores. -/
def setConf (w' : World) (k : Nat) (mn tb pd : Int) (ch : UInt8) (fl : Int) : World := ((((w'.setCell ⟨k, 0, none⟩ (.int .i64 mn)).setCell ⟨k, 1, none⟩ (.int .i64 tb)).setCell ⟨k, 2, none⟩ (.int .i64 pd)).setCell ⟨k, 3, none⟩ (.int .u8 ch.toNat)).setCell ⟨k, 4, none⟩ (.int .i64 fl)
theorem LS.set (h : LS w mn tb pd ch fl v s w') (_ : Rd w v s) (k : Nat) (_ : k < 5) (u : Value) : Below w.heap.size w (w'.setCell ⟨w.heap.size, k, none⟩ u) ∧ (w'.setCell ⟨w.heap.size, k, none⟩ u).heap[w.heap.size]? = some (.cells (#[.int .i64 mn, .int .i64 tb, .int .i64 pd, .int .u8 ch.toNat, .int .i64 fl].setIfInBounds k u) 23 (0, 0)) :=
  ⟨h.bel.setCell (Nat.le_refl _) _, blk_set h.conf k u⟩
theorem LS.setFl (h : LS w mn tb pd ch fl v s w') (hv : Rd w v s) (g : Int) : LS w mn tb pd ch g v s (setConf w' w.heap.size mn tb pd ch g) := by
  have e1 := blk_set h.conf 0 (.int .i64 mn)
  have e2 := blk_set e1 1 (.int .i64 tb)
  have e3 := blk_set e2 2 (.int .i64 pd)
  have e4 := blk_set e3 3 (.int .u8 ch.toNat)
  have e5 := blk_set e4 4 (.int .i64 g)
  have hb : Below w.heap.size w (setConf w' w.heap.size mn tb pd ch g) := ((((h.bel.setCell (Nat.le_refl _) _).setCell (Nat.le_refl _) _).setCell (Nat.le_refl _) _).setCell (Nat.le_refl _) _).setCell (Nat.le_refl _) _
  exact ⟨by unfold setConf; simpa using e5, hv.below hb, hb⟩
theorem LS.setCh (h : LS w mn tb pd ch fl v s w') (hv : Rd w v s) (x : UInt8) : LS w mn tb pd x fl v s (w'.setCell ⟨w.heap.size, 3, none⟩ (.int .u8 x.toNat)) := by
  have e1 := blk_set h.conf 3 (.int .u8 x.toNat)
  have hb : Below w.heap.size w (w'.setCell ⟨w.heap.size, 3, none⟩ (.int .u8 x.toNat)) := h.bel.setCell (Nat.le_refl _) _
  exact ⟨by simpa using e1, hv.below hb, hb⟩
end

/-- A valid set-up in natural numbers. -/
theorem vld_nat {mn tb pd fl : Int} (hv : Vld mn tb pd fl) : ∃ (m t p f : Nat), mn = m ∧ tb = t ∧ pd = p ∧ fl = f ∧ m ≤ 1000 ∧ t ≤ 1000 ∧ p ≤ 1000 ∧ f < 64 := by
  unfold Vld at hv
  exact ⟨mn.toNat, tb.toNat, pd.toNat, fl.toNat, by omega, by omega, by omega, by omega, by omega, by omega, by omega, by omega⟩

def flagsL : List Int := [1, 2, 4, 8, 16, 32]
end Go.Proofs.YteildpeogbenbaaDoor
