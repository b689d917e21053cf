/- Go's two tables of UTF-8, as the row lays them. With: the set-up with a flag, or without it, formats alike but for that flag. How long what is written can be. -/
import Derived.Test.YtaagcdlghoiolaaDoorQb
import Derived.Test.YtaagcdlghoiolaaDoorRows
import Derived.Lib.LaidIn
import Derived.Lib.LaidU8T
import Derived.Test.YtaagcdlghoiolaaDoorQd
namespace Go.Proofs.YtaagcdlghoiolaaDoor
open Go.RowKit Go.Tw Go.Shelf Go.Lib
set_option maxRecDepth 100000
def u8ren : Ren := ⟨fun n => n, fun | 5 => 5 | 119 => 70 | 138 => 72 | 139 => 73 | n => n, fun | 3 => 1 | 4 => 2 | n => n⟩
theorem u8types : U8Types Tryd.prog u8ren := ⟨by kernel_rfl, by kernel_rfl, by kernel_rfl, by kernel_rfl⟩
theorem u8extra : U8Extra Tryd.prog u8ren := ⟨by kernel_rfl, by kernel_rfl, by kernel_rfl, by kernel_rfl, by kernel_rfl, by kernel_rfl, by kernel_rfl⟩
theorem first_eq : Rows.laid_unicode_utf8_first = firstData := by kernel_rfl
theorem accept_eq : (Rows.laid_unicode_utf8_acceptRanges : DataW Unit) = acceptData := by kernel_rfl
theorem tabs_of {W : World} (h : laidMetH Tryd.prog [("unicode/utf8.acceptRanges", Rows.laid_unicode_utf8_acceptRanges), ("io.ErrShortWrite", Rows.laid_io_ErrShortWrite), ("unicode/utf8.first", Rows.laid_unicode_utf8_first)] W) : Lib.Utf8Tabs 1 2 W := by
  rw [first_eq, accept_eq] at h
  exact utf8Tabs_of_readsT u8types u8extra (Lib.laidMet.reads h (.tail _ (.tail _ (.head _)))) (Lib.laidMet.reads h (.head _))

/-- A world for the witness: the tables, and the one error. -/
noncomputable def low : Nat := (World.holding Tryd.prog default ⟨#[], #[], []⟩).heap.size
noncomputable def laidWorld (os : Os) : World :=
  let w0 := World.holding Tryd.prog os ⟨#[.cells #[.string ⟨#[115, 104, 111, 114, 116, 32, 119, 114, 105, 116, 101]⟩] 150], #[], []⟩
  let put (h : Array Obj) (g : Nat) (cs : Array Value) : Array Obj := h.modify g fun
    | .cells _ t frozen => .cells cs t frozen
    | o => o
  let h1 := put w0.heap 1 (Lib.firstTab.map fun z => Value.int .u8 z).toArray
  let h2 := put h1 2 ((List.range 16).flatMap fun i => [Value.int .u8 (Lib.accLo i), Value.int .u8 (Lib.accHi i)]).toArray
  let h3 := put h2 3 #[.iface 124 (.pointer (some ⟨low, 0, none⟩))]
  { w0 with heap := h3 }
def conf0 : Value := .agg #[.int .i64 0, .int .i64 0, .int .i64 0, .int .u8 0, .int .i64 0]
end Go.Proofs.YtaagcdlghoiolaaDoor

namespace Go.Proofs.YtaagcdlghoiolaaDoor
open Go.RowKit Go.Tw Go.Sort
set_option maxRecDepth 100000
theorem cfg_with (f : Nat) (hf : f < 64) (k : Int) (hk : k ∈ flagsL) (yes : Bool) : ∃ g : Nat, g < 64 ∧ wfl f k yes = g ∧ ∀ m t p ch, Alike (cfgOf m t p g ch) (cfgOf m t p f ch) ∧ ∀ j ∈ flagsL, j ≠ k → (cfgOf m t p g ch).flag j = (cfgOf m t p f ch).flag j := by
  obtain ⟨g, h1, h2⟩ := wfl_flags ⟨f, hf⟩ k hk yes
  refine ⟨g.val, g.isLt, h1, fun m t p ch => ⟨⟨rfl, rfl, rfl, rfl⟩, fun j hj hne => ?_⟩⟩
  have h3 := h2 j hj
  rw [if_neg hne] at h3
  simp [flagsL] at hj
  rcases hj with rfl | rfl | rfl | rfl | rfl | rfl
  · rw [flag_cfg g m t p ch 1 (by simp), flag_cfg ⟨f, hf⟩ m t p ch 1 (by simp), h3]
  · rw [flag_cfg g m t p ch 2 (by simp), flag_cfg ⟨f, hf⟩ m t p ch 2 (by simp), h3]
  · rw [flag_right g m t p ch, flag_right ⟨f, hf⟩ m t p ch, h3]
  · rw [flag_cfg g m t p ch 8 (by simp), flag_cfg ⟨f, hf⟩ m t p ch 8 (by simp), h3]
  · rw [flag_cfg g m t p ch 16 (by simp), flag_cfg ⟨f, hf⟩ m t p ch 16 (by simp), h3]
  · rw [flag_cfg g m t p ch 32 (by simp), flag_cfg ⟨f, hf⟩ m t p ch 32 (by simp), h3]
theorem with_nat (w : World) (m t p f g : Nat) (ch : UInt8) (k : Int) (yes : Bool) (hg : wfl f k yes = g) : Calls Tryd.prog 19 #[.agg #[.int .i64 m, .int .i64 t, .int .i64 p, .int .u8 ch.toNat, .int .i64 f], .int .i64 k, .bool yes] w fun e w' => e = .returned (.agg #[.int .i64 m, .int .i64 t, .int .i64 p, .int .u8 ch.toNat, .int .i64 g]) ∧ Below w.heap.size w w' := by
  have := with_calls' w m t p f ch k yes
  rwa [hg] at this
end Go.Proofs.YtaagcdlghoiolaaDoor

namespace Go.Proofs.YtaagcdlghoiolaaDoor
open Go.RowKit Go.Tw Go.Sort
set_option maxRecDepth 100000
theorem format_bound (m t p f : Nat) (ch : UInt8) (hm : m ≤ 1000) (ht : t ≤ 1000) (hp : p ≤ 1000) (s : List UInt8) (hs : s.length ≤ 3000) : (formatO (cfgOf m t p f ch) s).length ≤ 200000000000 := by
  have g : Good2 (cfgOf m t p f ch) (St.new []) 0 := Good2.new _ (by decide : (-1 : Int) < 0) hm ht hp
  have gs := g.steps s (by omega)
  have hc := gs.cost
  have hf := gs.toGood.flush
  have e1 : cellsOf (St.flush (cfgOf m t p f ch) (s.foldl (St.step (cfgOf m t p f ch)) (St.new []))).lines = 0 := rfl
  have e2 : (St.flush (cfgOf m t p f ch) (s.foldl (St.step (cfgOf m t p f ch)) (St.new []))).lines.length = 1 := rfl
  rw [e1, e2] at hf
  rw [← out_format]
  unfold outOf
  omega
end Go.Proofs.YtaagcdlghoiolaaDoor
