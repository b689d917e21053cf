/- A law's walk: what stands while it goes: the set-up in its block, the text, nothing old has turned. -/
import Derived.Test.YtaagcdlghoiolaaDoorSp
import Derived.Test.YtaagcdlghoiolaaDoorPh
namespace Go.Proofs.YtaagcdlghoiolaaDoor
open Go.RowKit Go.Tw Go.Sort
set_option maxRecDepth 100000

structure LS (w : World) (mn tb pd : Int) (ch : UInt8) (fl : Int) (v : Value) (s : List UInt8) (w' : World) : Prop where
  conf : w'.heap[w.heap.size]? = some (.cells #[.int .i64 mn, .int .i64 tb, .int .i64 pd, .int .u8 ch.toNat, .int .i64 fl] 23 (0, 0))
  rd : Rd w' v s
  bel : Below w.heap.size w w'

section
variable {w w' w'' : World} {mn tb pd fl : Int} {ch : UInt8} {v : Value} {s : List UInt8}
theorem LS.start (h : Rd w v s) : LS w mn tb pd ch fl v s (w.alloc (.cells #[.int .i64 mn, .int .i64 tb, .int .i64 pd, .int .u8 ch.toNat, .int .i64 fl] 23)) :=
  have hb : Below w.heap.size w (w.alloc (.cells #[.int .i64 mn, .int .i64 tb, .int .i64 pd, .int .u8 ch.toNat, .int .i64 fl] 23)) := (Below.refl _ w).alloc (Nat.le_refl _) _
  ⟨heap_alloc_new w _, h.below hb, hb⟩
theorem LS.step (h : LS w mn tb pd ch fl v s w') (b : Below w'.heap.size w' w'') : LS w mn tb pd ch fl v s w'' :=
  ⟨(Tch.of_below (F := fun _ => False) b).heap h.conf id, h.rd.below b, h.bel.trans (b.mono h.bel.size)⟩
theorem below_drawn {a b : World} {B : Nat} (h : Below B a.drew b) : Below B a b := ⟨h.os, h.tape, h.output, h.size, h.block⟩
theorem LS.drew (h : LS w mn tb pd ch fl v s w') : LS w mn tb pd ch fl v s w'.drew := h.step (below_drawn (Below.refl _ _))
theorem LS.cells (h : LS w mn tb pd ch fl v s w') : w'.cell? ⟨w.heap.size, 0, none⟩ = some (.int .i64 mn) ∧ w'.cell? ⟨w.heap.size, 1, none⟩ = some (.int .i64 tb) ∧ w'.cell? ⟨w.heap.size, 2, none⟩ = some (.int .i64 pd) ∧ w'.cell? ⟨w.heap.size, 3, none⟩ = some (.int .u8 ch.toNat) ∧ w'.cell? ⟨w.heap.size, 4, none⟩ = some (.int .i64 fl) := conf_at h.conf
theorem LS.shape (h : LS w mn tb pd ch fl v s w') : ∃ ao cp, v = .slice ao s.length cp ∧ s.length ≤ cp ∧ cp ≤ 9223372036854775807 := by
  obtain ⟨ao, cp, e, h1, h2, _⟩ := h.rd.val
  unfold maxLen at h2
  exact ⟨ao, cp, e, h1, by omega⟩
/-- The text is another one from here on. -/
theorem LS.text (h : LS w mn tb pd ch fl v s w') {v2 : Value} {s2 : List UInt8} (h2 : Rd w' v2 s2) : LS w mn tb pd ch fl v2 s2 w' := ⟨h.conf, h2, h.bel⟩
/-- The set-up is another one from here on: the five stores. -/
def setConf (w' : World) (k : Nat) (mn tb pd : Int) (ch : UInt8) (fl : Int) : World := ((((w'.setCell ⟨k, 0, none⟩ (.int .i64 mn)).setCell ⟨k, 1, none⟩ (.int .i64 tb)).setCell ⟨k, 2, none⟩ (.int .i64 pd)).setCell ⟨k, 3, none⟩ (.int .u8 ch.toNat)).setCell ⟨k, 4, none⟩ (.int .i64 fl)
theorem LS.set (h : LS w mn tb pd ch fl v s w') (_ : Rd w v s) (k : Nat) (_ : k < 5) (u : Value) : Below w.heap.size w (w'.setCell ⟨w.heap.size, k, none⟩ u) ∧ (w'.setCell ⟨w.heap.size, k, none⟩ u).heap[w.heap.size]? = some (.cells (#[.int .i64 mn, .int .i64 tb, .int .i64 pd, .int .u8 ch.toNat, .int .i64 fl].setIfInBounds k u) 23 (0, 0)) :=
  ⟨h.bel.setCell (Nat.le_refl _) _, blk_set h.conf k u⟩
theorem LS.setFl (h : LS w mn tb pd ch fl v s w') (hv : Rd w v s) (g : Int) : LS w mn tb pd ch g v s (setConf w' w.heap.size mn tb pd ch g) := by
  have e1 := blk_set h.conf 0 (.int .i64 mn)
  have e2 := blk_set e1 1 (.int .i64 tb)
  have e3 := blk_set e2 2 (.int .i64 pd)
  have e4 := blk_set e3 3 (.int .u8 ch.toNat)
  have e5 := blk_set e4 4 (.int .i64 g)
  have hb : Below w.heap.size w (setConf w' w.heap.size mn tb pd ch g) := ((((h.bel.setCell (Nat.le_refl _) _).setCell (Nat.le_refl _) _).setCell (Nat.le_refl _) _).setCell (Nat.le_refl _) _).setCell (Nat.le_refl _) _
  exact ⟨by unfold setConf; simpa using e5, hv.below hb, hb⟩
theorem LS.setCh (h : LS w mn tb pd ch fl v s w') (hv : Rd w v s) (x : UInt8) : LS w mn tb pd x fl v s (w'.setCell ⟨w.heap.size, 3, none⟩ (.int .u8 x.toNat)) := by
  have e1 := blk_set h.conf 3 (.int .u8 x.toNat)
  have hb : Below w.heap.size w (w'.setCell ⟨w.heap.size, 3, none⟩ (.int .u8 x.toNat)) := h.bel.setCell (Nat.le_refl _) _
  exact ⟨by simpa using e1, hv.below hb, hb⟩
end

/-- A valid set-up in natural numbers. -/
theorem vld_nat {mn tb pd fl : Int} (hv : Vld mn tb pd fl) : ∃ (m t p f : Nat), mn = m ∧ tb = t ∧ pd = p ∧ fl = f ∧ m ≤ 1000 ∧ t ≤ 1000 ∧ p ≤ 1000 ∧ f < 64 := by
  unfold Vld at hv
  exact ⟨mn.toNat, tb.toNat, pd.toNat, fl.toNat, by omega, by omega, by omega, by omega, by omega, by omega, by omega, by omega⟩

/-- impl.Write of one text: what the reference gives. -/
theorem write_one (w : World) (m t p f : Nat) (hf : f < 64) (ch : UInt8) {v : Value} {s : List UInt8} (h : Rd w v s) (hs : s.length ≤ 2390000) (hm : m ≤ 1000) (ht : t ≤ 1000) (hp : p ≤ 1000) :
    Calls Tryd.prog 15 #[.agg #[.int .i64 m, .int .i64 t, .int .i64 p, .int .u8 ch.toNat, .int .i64 f], .slice (some ⟨w.heap.size, 0, none⟩) 1 1] (w.alloc (.cells #[v] 24)) fun e w' => ∃ v', e = .returned v' ∧ Rd w' v' (formatO (cfgOf m t p f ch) s) ∧ Below w.heap.size w w' := by
  have hba : Below w.heap.size w (w.alloc (.cells #[v] 24)) := (Below.refl _ w).alloc (Nat.le_refl _) _
  refine (implWrite_calls (w := w.alloc (.cells #[v] 24)) m t p f ch hm ht hp hf (Wrs.one w h) (by simp; omega)).mono ?_
  rintro e w' ⟨v', rfl, hr, hb⟩
  have hs1 : [s].flatten = s := by simp
  rw [hs1, show outOf (⟨m, t, p, ch, keepFl ch f, -1⟩ : Cfg) s = formatO (cfgOf m t p f ch) s from out_format (cfgOf m t p f ch) s] at hr
  exact ⟨v', rfl, hr, hba.trans (hb.mono hba.size)⟩
theorem write_many (w : World) (m t p f : Nat) (hf : f < 64) (ch : UInt8) {v : Value} {bss : List (List UInt8)} {s : List UInt8} (hs : s = bss.flatten) (h : Wrs w v bss) (hl : s.length ≤ 2390000) (hm : m ≤ 1000) (ht : t ≤ 1000) (hp : p ≤ 1000) :
    Calls Tryd.prog 15 #[.agg #[.int .i64 m, .int .i64 t, .int .i64 p, .int .u8 ch.toNat, .int .i64 f], v] w fun e w' => ∃ v', e = .returned v' ∧ Rd w' v' (formatO (cfgOf m t p f ch) s) ∧ Below w.heap.size w w' := by
  subst hs
  refine (implWrite_calls m t p f ch hm ht hp hf h (by omega)).mono ?_
  rintro e w' ⟨v', rfl, hr, hb⟩
  rw [show outOf (⟨m, t, p, ch, keepFl ch f, -1⟩ : Cfg) bss.flatten = formatO (cfgOf m t p f ch) bss.flatten from out_format (cfgOf m t p f ch) bss.flatten] at hr
  exact ⟨v', rfl, hr, hb⟩

/-- With's flags. -/
def wfl (x : Int) (k : Int) (yes : Bool) : Int := if yes then bits BinOp.or IntKind.i64 (bits BinOp.andNot IntKind.i64 x k) k else bits BinOp.andNot IntKind.i64 x k
theorem with_calls' (w : World) (mn tb pd fl : Int) (ch : UInt8) (f : Int) (yes : Bool) : Calls Tryd.prog 19 #[.agg #[.int .i64 mn, .int .i64 tb, .int .i64 pd, .int .u8 ch.toNat, .int .i64 fl], .int .i64 f, .bool yes] w fun e w' => e = .returned (.agg #[.int .i64 mn, .int .i64 tb, .int .i64 pd, .int .u8 ch.toNat, .int .i64 (wfl fl f yes)]) ∧ Below w.heap.size w w' := with_calls w mn tb pd fl ch f yes
def flagsL : List Int := [1, 2, 4, 8, 16, 32]
theorem wrap64_eq' (n : Int) : IntKind.i64.wrap n = if n % 18446744073709551616 ≥ 9223372036854775808 then n % 18446744073709551616 - 18446744073709551616 else n % 18446744073709551616 := by
  simp [IntKind.wrap, IntKind.signed, IntKind.bits]
theorem andNot_bit (x k : Int) (i : Nat) (hk : (BitVec.ofInt 64 k).getLsbD i = true) (f : Nat) (hf : f < 64) (h : bits BinOp.andNot IntKind.i64 x k = (f : Int)) : f.testBit i = false := by
  have e : bits BinOp.andNot IntKind.i64 x k = IntKind.i64.wrap ((BitVec.ofInt 64 x &&& ~~~ BitVec.ofInt 64 k).toNat : Int) := rfl
  have hb : ((BitVec.ofInt 64 x &&& ~~~ BitVec.ofInt 64 k).toNat).testBit i = false := by
    rw [BitVec.testBit_toNat, BitVec.getLsbD_and, BitVec.getLsbD_not]
    simp [hk]
  have hn := (BitVec.ofInt 64 x &&& ~~~ BitVec.ofInt 64 k).isLt
  rw [e, wrap64_eq'] at h
  generalize (BitVec.ofInt 64 x &&& ~~~ BitVec.ofInt 64 k).toNat = n at *
  have hv : n = f := by split at h <;> omega
  rwa [hv] at hb
/-- A flag that is taken away is not there. -/
theorem andNot_flag (x k : Int) (hk : k ∈ flagsL) (f : Fin 64) (h : bits BinOp.andNot IntKind.i64 x k = (f.val : Int)) : (bits BinOp.and IntKind.i64 ((f.val : Nat) : Int) k != 0) = false := by
  have key : ∀ (i : Nat), i < 6 → k = 2 ^ i → (bits BinOp.and IntKind.i64 ((f.val : Nat) : Int) k != 0) = false := by
    intro i hi hki
    have h1 := andNot_bit x k i (by subst hki; clear h hk; revert i; decide) f.val f.isLt h
    clear h hk
    subst hki
    revert h1
    revert f
    revert i
    decide
  simp [flagsL] at hk
  rcases hk with rfl | rfl | rfl | rfl | rfl | rfl
  · exact key 0 (by omega) rfl
  · exact key 1 (by omega) rfl
  · exact key 2 (by omega) rfl
  · exact key 3 (by omega) rfl
  · exact key 4 (by omega) rfl
  · exact key 5 (by omega) rfl
/-- With, of a valid set-up's flags: the flag is as asked, the others as they were. -/
theorem wfl_flags : ∀ (f : Fin 64), ∀ k ∈ flagsL, ∀ yes : Bool, ∃ g : Fin 64, wfl ((f.val : Nat) : Int) k yes = ((g.val : Nat) : Int) ∧ ∀ j ∈ flagsL, (bits BinOp.and IntKind.i64 ((g.val : Nat) : Int) j != 0) = if j = k then yes else (bits BinOp.and IntKind.i64 ((f.val : Nat) : Int) j != 0) := by
  decide +kernel
end Go.Proofs.YtaagcdlghoiolaaDoor
