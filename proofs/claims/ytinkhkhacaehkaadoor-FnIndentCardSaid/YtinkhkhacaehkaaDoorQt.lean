/- Go's two tables of UTF-8, as the row lays them. -/
import Derived.Test.YtinkhkhacaehkaaDoorQb
import Derived.Test.YtinkhkhacaehkaaDoorRows
import Derived.Lib.LaidIn
import Derived.Lib.LaidU8T
namespace Go.Proofs.YtinkhkhacaehkaaDoor
open Go.RowKit Go.Tw Go.Shelf Go.Lib
set_option maxRecDepth 100000
def u8ren : Ren := ⟨fun n => n, fun | 5 => 5 | 119 => 88 | 138 => 90 | 139 => 91 | n => n, fun | 3 => 0 | 4 => 1 | n => n⟩
theorem u8types : U8Types Tryd.prog u8ren := ⟨by kernel_rfl, by kernel_rfl, by kernel_rfl, by kernel_rfl⟩
theorem u8extra : U8Extra Tryd.prog u8ren := ⟨by kernel_rfl, by kernel_rfl, by kernel_rfl, by kernel_rfl, by kernel_rfl, by kernel_rfl, by kernel_rfl⟩
theorem first_eq : Rows.laid_unicode_utf8_first = firstData := by kernel_rfl
theorem accept_eq : (Rows.laid_unicode_utf8_acceptRanges : DataW Unit) = acceptData := by kernel_rfl
theorem tabs_of {W : World} (h : laidMetH Tryd.prog [("unicode/utf8.acceptRanges", Rows.laid_unicode_utf8_acceptRanges), ("io.ErrShortWrite", Rows.laid_io_ErrShortWrite), ("unicode/utf8.first", Rows.laid_unicode_utf8_first)] W) : Lib.Utf8Tabs 0 1 W := by
  rw [first_eq, accept_eq] at h
  exact utf8Tabs_of_readsT u8types u8extra (Lib.laidMet.reads h (.tail _ (.tail _ (.head _)))) (Lib.laidMet.reads h (.head _))

/-- A world for the witness: the tables, and the one error. -/
noncomputable def low : Nat := (World.holding Tryd.prog default ⟨#[], #[], []⟩).heap.size
noncomputable def laidWorld (os : Os) : World :=
  let w0 := World.holding Tryd.prog os ⟨#[.cells #[.string ⟨#[115, 104, 111, 114, 116, 32, 119, 114, 105, 116, 101]⟩] 120], #[], []⟩
  let put (h : Array Obj) (g : Nat) (cs : Array Value) : Array Obj := h.modify g fun
    | .cells _ t frozen => .cells cs t frozen
    | o => o
  let h1 := put w0.heap 0 (Lib.firstTab.map fun z => Value.int .u8 z).toArray
  let h2 := put h1 1 ((List.range 16).flatMap fun i => [Value.int .u8 (Lib.accLo i), Value.int .u8 (Lib.accHi i)]).toArray
  let h3 := put h2 2 #[.iface 102 (.pointer (some ⟨low, 0, none⟩))]
  { w0 with heap := h3 }
def conf0 : Value := .agg #[.int .i64 0, .int .i64 0, .int .i64 0, .int .u8 0, .int .i64 0]
end Go.Proofs.YtinkhkhacaehkaaDoor
