/- Walks: NewWriter, begin. -/
import Derived.Test.YtbagbfmklpklmaaDoorWt
namespace Go.Proofs.YtbagbfmklpklmaaDoor
open Go.RowKit Go.Tw Go.Sort
set_option maxRecDepth 100000
section
variable {F : Nat → Prop} {w : World} {B S : Nat} {c : Cfg}

def zeroW : List Value := preB .nilIface 0 0 0 ++ List.replicate 8 (.int .u8 0) ++ postB 0 (.slice none 0 0) 0 0 0 false 0 (.slice none 0 0) (.slice none 0 0)

theorem zeroW_eq : zeroW.toArray = #[.nilIface, .int .i64 0, .int .i64 0, .int .i64 0, .int .u8 0, .int .u8 0, .int .u8 0, .int .u8 0, .int .u8 0, .int .u8 0, .int .u8 0, .int .u8 0, .int .u64 0, .slice none 0 0, .int .i64 0, .int .i64 0, .int .i64 0, .bool false, .int .u8 0, .slice none 0 0, .slice none 0 0] := rfl

theorem newParts (room : Int) (hFS : F S) (hS : w.heap[S]? = some (.cells #[.slice none 0 0, .int .i64 room] 43 (0, 0))) : Parts F w S room [] [] [] [] (.slice none 0 0) (.slice none 0 0) (.slice none 0 0) (.slice none 0 0) [] :=
  ⟨Own.nil F w _ _, ⟨.inl ⟨rfl, rfl⟩, Nat.le_refl _, fun i v hv => by simp at hv, fun i j v v' _ h => by simp at h⟩, Own.nil F w _ _, hS, hFS, Own.nil F w _ _, .inl rfl⟩

theorem NewWriter_calls (hF : ∀ k, w.heap.size ≤ k → F k) (room : Int) (hFS : F S) (hS : w.heap[S]? = some (.cells #[.slice none 0 0, .int .i64 room] 43 (0, 0))) (mn tb pd fl : Nat) (ch : UInt8) (hmn : mn ≤ 1000) (htb : tb ≤ 1000) (hpd : pd ≤ 1000) (hfl : fl < 64) :
    Calls Tryd.prog 32 #[.iface 41 (.pointer (some ⟨S, 0, none⟩)), .int .i64 mn, .int .i64 tb, .int .i64 pd, .int .u8 ch.toNat, .int .u64 fl] w fun ed w' => ed = .returned (.pointer (some ⟨w.heap.size, 0, none⟩)) ∧ Rep F w' w.heap.size S ⟨mn, tb, pd, ch, keepFl ch fl, room⟩ (St.new []) ∧ Tch F w w' := by
  have hT : Tch (fun _ => False) w (w.alloc (.cells zeroW.toArray 70)) := Tch.alloc _ _ _
  have hN := (Init_calls (F := F) (w := w.alloc (.cells zeroW.toArray 70)) (B := w.heap.size) (S := S) (fun k hk => hF k (by simp at hk; omega)) (hF _ (Nat.le_refl _)) (ps0 := List.replicate 8 (.int .u8 0)) (iv := .nilIface) (by simp) (by simp [Value.oneCell']) rfl (heap_alloc_new w _) (newParts room hFS (hT.heap hS id)) mn tb pd fl ch hmn htb hpd hfl)
  rw [zeroW_eq] at hN
  have HN := Lib.hid hN
  clear hT hN
  go_enter Tryd.func32, Tryd.ntmps32
  go_wp2_with (go_at_call 52; (with_reducible refine HN.out.mono ?_); rintro ed w5 ⟨rfl, hr, t⟩; have HR := Lib.hid hr; have T := Lib.hid t; clear hr t)
  go_ret
  exact ⟨rfl, HR.out, (Tch.alloc F w _).trans T.out⟩

theorem begin_calls (hF : ∀ k, w.heap.size ≤ k → F k) (room : Int) (hFS : F S) (hS : w.heap[S]? = some (.cells #[.slice none 0 0, .int .i64 room] 43 (0, 0))) (mn tb pd fl : Nat) (ch : UInt8) (hmn : mn ≤ 1000) (htb : tb ≤ 1000) (hpd : pd ≤ 1000) (hfl : fl < 64) :
    Calls Tryd.prog 24 #[.agg #[.int .i64 mn, .int .i64 tb, .int .i64 pd, .int .u8 ch.toNat, .int .i64 fl], .pointer (some ⟨S, 0, none⟩)] w fun ed w' => ed = .returned (.pointer (some ⟨w.heap.size + 1, 0, none⟩)) ∧ Rep F w' (w.heap.size + 1) S ⟨mn, tb, pd, ch, keepFl ch fl, room⟩ (St.new []) ∧ Tch F w w' := by
  have hN := NewWriter_calls (F := F) (w := w.alloc (.cells #[.int .i64 mn, .int .i64 tb, .int .i64 pd, .int .u8 ch.toNat, .int .i64 fl] 23)) (fun k hk => hF k (by simp at hk; omega)) room hFS ((Tch.alloc (fun _ => False) w _).heap hS id) mn tb pd fl ch hmn htb hpd hfl
  have e : (w.alloc (.cells #[.int .i64 mn, .int .i64 tb, .int .i64 pd, .int .u8 ch.toNat, .int .i64 fl] 23)).heap.size = w.heap.size + 1 := by simp
  rw [e] at hN
  have HN := Lib.hid hN
  have hcv : IntKind.u64.wrap (fl : Int) = fl := by unfold IntKind.wrap; simp [IntKind.bits]; omega
  clear hN e
  go_enter Tryd.func24, Tryd.ntmps24
  go_wp2_with (go_at_call 32; (with_reducible refine HN.out.mono ?_); rintro ed w5 ⟨rfl, hr, t⟩; have HR := Lib.hid hr; have T := Lib.hid t; clear hr t)
  go_ret
  exact ⟨rfl, HR.out, (Tch.alloc F w _).trans T.out⟩
end
end Go.Proofs.YtbagbfmklpklmaaDoor
