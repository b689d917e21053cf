/- Walks: utf8.Valid of a slice of bytes: it returns, and nothing old turns. -/
import Derived.Test.YteildpeogbenbaaDoorRc
import Derived.Shelf.Unicode.WordAny
import Derived.Below
import Derived.BigQuiet
import Derived.Deep.DeepBigQuietO
import Derived.Deep.LoopGhost
import Derived.Deep.DeepCutAuto
import Derived.Deep.CutBlock
import Derived.Deep.DeepMust
import Derived.WalkSmall
namespace Go.Proofs.YteildpeogbenbaaDoor
open Go.RowKit Go.Tw
set_option maxRecDepth 100000

set_option maxHeartbeats 8000000 in
theorem word_calls (w : World) (k o n : Nat) (x0 x1 x2 x3 x4 x5 x6 x7 : UInt8) (h8 : 8 ≤ n)
    (c0 : w.cell? ⟨k, o, none⟩ = some (.int .u8 x0.toNat)) (c1 : w.cell? ⟨k, o + 1, none⟩ = some (.int .u8 x1.toNat)) (c2 : w.cell? ⟨k, o + 2, none⟩ = some (.int .u8 x2.toNat)) (c3 : w.cell? ⟨k, o + 3, none⟩ = some (.int .u8 x3.toNat))
    (c4 : w.cell? ⟨k, o + 4, none⟩ = some (.int .u8 x4.toNat)) (c5 : w.cell? ⟨k, o + 5, none⟩ = some (.int .u8 x5.toNat)) (c6 : w.cell? ⟨k, o + 6, none⟩ = some (.int .u8 x6.toNat)) (c7 : w.cell? ⟨k, o + 7, none⟩ = some (.int .u8 x7.toNat)) :
    Calls Tryd.prog 48 #[.slice (some ⟨k, o, none⟩) n n] w fun e w' => e = .returned (.int .u64 (Lib.leNat [x0, x1, x2, x3, x4, x5, x6, x7])) ∧ ∃ q, w' = w.drewN q := by
  have h0 := x0.toNat_lt
  have h1 := x1.toNat_lt
  have h2 := x2.toNat_lt
  have h3 := x3.toNat_lt
  have h4 := x4.toNat_lt
  have h5 := x5.toNat_lt
  have h6 := x6.toNat_lt
  have h7 := x7.toNat_lt
  have hv : ((Lib.leNat [x0, x1, x2, x3, x4, x5, x6, x7] : Nat) : Int) = (x0.toNat : Int) + (x1.toNat : Int) * 256 + (x2.toNat : Int) * 65536 + (x3.toNat : Int) * 16777216 + (x4.toNat : Int) * 4294967296 + (x5.toNat : Int) * 1099511627776 + (x6.toNat : Int) * 281474976710656 + (x7.toNat : Int) * 72057594037927936 := by
    simp only [Lib.leNat]
    push_cast
    omega
  have mixed : Tryd.prog.follows Departure.mixedOrders = true := by kernel_rfl
  have q0 : (0 : Int) < (n : Int) := by omega
  have q1 : (1 : Int) < (n : Int) := by omega
  have q2 : (2 : Int) < (n : Int) := by omega
  have q3 : (3 : Int) < (n : Int) := by omega
  have q4 : (4 : Int) < (n : Int) := by omega
  have q5 : (5 : Int) < (n : Int) := by omega
  have q6 : (6 : Int) < (n : Int) := by omega
  have q7 : (7 : Int) < (n : Int) := by omega
  go_enter Tryd.func48, Tryd.ntmps48
  go_wp2
  go_big_quiet_o (fail)
  go_wp2
  go_ret
  refine ⟨?_, _, rfl⟩
  simp (disch := omega) only [u64_or8, u64_or16, u64_or24, u64_or32, u64_or40, u64_or48, u64_or56]
  rw [hv]
  rfl


/-- Bytes that stand in a block. -/
def At (w : World) (k o n : Nat) (X : Nat → UInt8) : Prop := ∀ j, j < n → w.cell? ⟨k, o + j, none⟩ = some (.int .u8 (X j).toNat)
theorem At.drop {w : World} {k o n : Nat} {X : Nat → UInt8} (h : At w k o n X) (b : Nat) : At w k (o + b) (n - b) (fun j => X (b + j)) := fun j hj => by
  rw [Nat.add_assoc]; exact h (b + j) (by omega)
theorem At.below {w w' : World} {k o n : Nat} {X : Nat → UInt8} (h : At w k o n X) (t : Below w.heap.size w w') : At w' k o n X := fun j hj => (t.cell (p := ⟨k, o + j, none⟩) (block_lt_of_cell (h j hj))).trans (h j hj)
def wz (X : Nat → UInt8) : Nat := Lib.leNat [X 0, X 1, X 2, X 3, X 4, X 5, X 6, X 7]
theorem word_at {w : World} {k o n : Nat} {X : Nat → UInt8} (h : At w k o n X) (h8 : 8 ≤ n) : Calls Tryd.prog 48 #[.slice (some ⟨k, o, none⟩) n n] w fun e w' => e = .returned (.int .u64 (wz X)) ∧ ∃ q, w' = w.drewN q :=
  word_calls w k o n _ _ _ _ _ _ _ _ h8 (h 0 (by omega)) (h 1 (by omega)) (h 2 (by omega)) (h 3 (by omega)) (h 4 (by omega)) (h 5 (by omega)) (h 6 (by omega)) (h 7 (by omega))
end Go.Proofs.YteildpeogbenbaaDoor
