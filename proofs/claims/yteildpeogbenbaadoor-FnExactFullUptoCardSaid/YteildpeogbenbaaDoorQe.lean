/- Go's two tables of UTF-8, as the row lays them. With: the set-up with a flag, or without it, formats alike but for that flag. How long what is written can be. -/
import Derived.Test.YteildpeogbenbaaDoorQb
import Derived.Test.YteildpeogbenbaaDoorRows
import Derived.Lib.LaidIn
import Derived.Lib.LaidU8T
import Derived.Test.YteildpeogbenbaaDoorQd
namespace Go.Proofs.YteildpeogbenbaaDoor
open Go.RowKit Go.Tw Go.Shelf Go.Lib
set_option maxRecDepth 100000
def u8ren : Ren := ⟨fun n => n, fun | 5 => 5 | 119 => 92 | 138 => 94 | 139 => 95 | n => n, fun | 3 => 1 | 4 => 2 | n => n⟩
theorem u8types : U8Types Tryd.prog u8ren := ⟨by kernel_rfl, by kernel_rfl, by kernel_rfl, by kernel_rfl⟩
theorem u8extra : U8Extra Tryd.prog u8ren := ⟨by kernel_rfl, by kernel_rfl, by kernel_rfl, by kernel_rfl, by kernel_rfl, by kernel_rfl, by kernel_rfl⟩
theorem first_eq : Rows.laid_unicode_utf8_first = firstData := by kernel_rfl
theorem accept_eq : (Rows.laid_unicode_utf8_acceptRanges : DataW Unit) = acceptData := by kernel_rfl
theorem tabs_of {W : World} (h : laidMetH Tryd.prog [("unicode/utf8.acceptRanges", Rows.laid_unicode_utf8_acceptRanges), ("io.ErrShortWrite", Rows.laid_io_ErrShortWrite), ("loop.example/pub-tabcolumns/impl.errFull", Rows.laid_loop_example_pub_tabcolumns_impl_errFull), ("unicode/utf8.first", Rows.laid_unicode_utf8_first)] W) : Lib.Utf8Tabs 1 2 W := by
  rw [first_eq, accept_eq] at h
  exact utf8Tabs_of_readsT u8types u8extra (Lib.laidMet.reads h (.tail _ (.tail _ (.tail _ (.head _))))) (Lib.laidMet.reads h (.head _))

/-- A world for the witness: the tables, and the one error. -/
noncomputable def low : Nat := (World.holding Tryd.prog default ⟨#[], #[], []⟩).heap.size
noncomputable def laidWorld (os : Os) : World :=
  let w0 := World.holding Tryd.prog os ⟨#[.cells #[.string ⟨#[115, 104, 111, 114, 116, 32, 119, 114, 105, 116, 101]⟩] 142, .cells #[.string ⟨#[102, 117, 108, 108]⟩] 142], #[], []⟩
  let put (h : Array Obj) (g : Nat) (cs : Array Value) : Array Obj := h.modify g fun
    | .cells _ t frozen => .cells cs t frozen
    | o => o
  let h1 := put w0.heap 1 (Lib.firstTab.map fun z => Value.int .u8 z).toArray
  let h2 := put h1 2 ((List.range 16).flatMap fun i => [Value.int .u8 (Lib.accLo i), Value.int .u8 (Lib.accHi i)]).toArray
  let h3 := put h2 3 #[.iface 116 (.pointer (some ⟨low, 0, none⟩))]
  let h4 := put h3 0 #[.iface 116 (.pointer (some ⟨low + 1, 0, none⟩))]
  { w0 with heap := h4 }
def conf0 : Value := .agg #[.int .i64 0, .int .i64 0, .int .i64 0, .int .u8 0, .int .i64 0]
end Go.Proofs.YteildpeogbenbaaDoor

namespace Go.Proofs.YteildpeogbenbaaDoor
open Go.RowKit Go.Tw Go.Sort
set_option maxRecDepth 100000
end Go.Proofs.YteildpeogbenbaaDoor

namespace Go.Proofs.YteildpeogbenbaaDoor
open Go.RowKit Go.Tw Go.Sort
set_option maxRecDepth 100000
theorem format_bound (m t p f : Nat) (ch : UInt8) (hm : m ≤ 1000) (ht : t ≤ 1000) (hp : p ≤ 1000) (s : List UInt8) (hs : s.length ≤ 3000) : (formatO (cfgOf m t p f ch) s).length ≤ 200000000000 := by
  have g : Good2 (cfgOf m t p f ch) (St.new []) 0 := Good2.new _ (by decide : (-1 : Int) < 0) hm ht hp
  have gs := g.steps s (by omega)
  have hc := gs.cost
  have hf := gs.toGood.flush
  have e1 : cellsOf (St.flush (cfgOf m t p f ch) (s.foldl (St.step (cfgOf m t p f ch)) (St.new []))).lines = 0 := rfl
  have e2 : (St.flush (cfgOf m t p f ch) (s.foldl (St.step (cfgOf m t p f ch)) (St.new []))).lines.length = 1 := rfl
  rw [e1, e2] at hf
  rw [← out_format]
  unfold outOf
  omega
end Go.Proofs.YteildpeogbenbaaDoor
