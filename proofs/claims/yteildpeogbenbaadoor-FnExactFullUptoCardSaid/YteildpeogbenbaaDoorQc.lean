/- Writes that came in, opened under the bound; zzFits1. -/
import Derived.Test.YteildpeogbenbaaDoorQb
import Derived.Test.YteildpeogbenbaaDoorWw
import Derived.Test.YteildpeogbenbaaDoorRows
import Derived.Deep.Matrix
namespace Go.Proofs.YteildpeogbenbaaDoor
open Go.RowKit Go.Tw Go.ChangeShapes Go.WideShapes Go.Joins Go.Deep Go.Sort
set_option maxRecDepth 100000

section
variable {H : Type} {enc : TypeId × Value → H} {W W' : World}
theorem bulk_one {H : Type} (d : DataW H) : 1 ≤ Rows.uptoBulk d := by
  cases d with
  | lit l => cases l <;> simp [Rows.uptoBulk]
  | nil => simp [Rows.uptoBulk]
  | ptr d => simp [Rows.uptoBulk]
  | slice elems spare => simp [Rows.uptoBulk]
  | agg parts => simp [Rows.uptoBulk]
  | iface t d => simp [Rows.uptoBulk]
  | map entries => simp [Rows.uptoBulk]
  | held h => simp [Rows.uptoBulk]
theorem bulk_len {H : Type} (l : List (DataW H)) : l.length ≤ Rows.uptoBulkAll l := by
  induction l with
  | nil => simp [Rows.uptoBulkAll]
  | cons x r ih => have := bulk_one x; simp only [Rows.uptoBulkAll, List.length_cons]; omega
theorem bulk_map {H : Type} {α : Type} (f : Nat → DataW H) (g : Nat → List α) : ∀ l : List Nat, (∀ r ∈ l, (g r).length + 1 ≤ Rows.uptoBulk (f r)) → ((l.map g).flatten).length + l.length ≤ Rows.uptoBulkAll (l.map f) := by
  intro l
  induction l with
  | nil => intro _; simp [Rows.uptoBulkAll]
  | cons x r ih =>
    intro h
    have h1 := h x (by simp)
    have h2 := ih (fun y hy => h y (by simp [hy]))
    simp only [List.map_cons, List.flatten_cons, List.length_append, List.length_cons, Rows.uptoBulkAll]
    omega

def bytesOf (zs : List Int) : List UInt8 := zs.map fun n => UInt8.ofNat n.toNat
theorem bytesOf_get {zs : List Int} (h : ∀ n ∈ zs, (Lit.int .u8 n).wf = true) (j : Nat) (hj : j < zs.length) : ∃ hj' : j < (bytesOf zs).length, zs.getD j 0 = ((bytesOf zs)[j].toNat : Int) := by
  refine ⟨by simpa [bytesOf] using hj, ?_⟩
  have hr : 0 ≤ zs[j] ∧ zs[j] ≤ 255 := bounds_u8 (h zs[j] (List.getElem_mem hj))
  simp only [bytesOf, List.getElem_map, List.getD_eq_getElem?_getD, List.getElem?_eq_getElem hj, Option.getD_some]
  rw [UInt8.toNat_ofNat_of_lt' (by show zs[j].toNat < 256; omega)]
  omega
theorem okWide_spot2 {r : Reach} {b0 : Nat} {a : Addr} {len cap : Nat} (hv : Value.okWide Tryd.prog W r b0 24 (.slice (some a) len cap)) : a.spot = none := by
  unfold Value.okWide at hv
  rw [Tryd.underlying24] at hv
  simp only [Cell.okWide, Tryd.underlying24, Cell.ok] at hv
  exact hv.2.2.2.1
theorem addr_add (k o j : Nat) : (⟨k, o, none⟩ : Addr).add j = ⟨k, o + j, none⟩ := by unfold Addr.add; split <;> simp_all

/-- A slice of slices of bytes that came in. -/
theorem open_wrs {r : Reach} {b0 : Nat} {v : Value} {d : DataW H} {p : List MemPlace} (hv : Value.okWide Tryd.prog W r b0 24 v) (h : DataW.Trod enc Tryd.prog W 0 (fun _ => true) true 24 v d p) : ∃ bss, Wrs W v bss ∧ bss.flatten.length + bss.length + 1 ≤ Rows.uptoBulk d := by
  obtain ⟨ao, len, cap, rfl⟩ := okWide_slice Tryd.underlying24 hv
  obtain ⟨fuel, hf⟩ := h
  rcases open_int_rows Tryd.underlying24 Tryd.underlying26 Tryd.underlying5 (by kernel_rfl) (by kernel_rfl) hf with ⟨e, e2⟩ | ⟨a, len', cap', A, L, C, Z, e, _, hl, hm, hx, hr⟩
  · simp [Value.cells] at e
    obtain ⟨rfl, rfl, rfl⟩ := e
    refine ⟨[], ⟨⟨none, 0, rfl, by simp, fun j h => by simp at h⟩⟩, ?_⟩
    simp only [Prod.mk.injEq] at e2
    rw [e2.1]
    simp [Rows.uptoBulk]
  · simp [Value.cells] at e
    obtain ⟨rfl, rfl, rfl⟩ := e
    simp only [Prod.mk.injEq] at hx
    have hsp := okWide_spot2 hv
    obtain ⟨k, o, sp⟩ := a
    simp only at hsp
    subst hsp
    have hlen : ∀ r, r < len → (bytesOf ((Z r).take (L r))).length = L r := fun r hlt => by
      obtain ⟨_, h2, _, h4, _⟩ := hr r (by omega)
      simp [bytesOf]; omega
    refine ⟨(List.range len).map fun r => bytesOf ((Z r).take (L r)), ⟨⟨some ⟨k, o, none⟩, cap, by simp, by simp; unfold maxLen at hm; omega, fun j hj => ?_⟩⟩, ?_⟩
    · have hj2 : j < len := by simpa using hj
      obtain ⟨h1, h2, h3, h4, h5, h6, h7⟩ := hr j (by omega)
      rw [addr_add] at h1
      refine ⟨_, _, rfl, rfl, h1, ?_⟩
      rw [List.getElem_map, List.getElem_range]
      have hLj := hlen j hj2
      by_cases hC : C j = 0
      · have hL : L j = 0 := by omega
        have hnil : bytesOf ((Z j).take (L j)) = [] := List.length_eq_zero_iff.1 (by omega)
        rw [hnil, hL, hC]
        cases hA : A j with
        | none => exact .inl (Rd.nil W)
        | some ad => exact .inr ⟨rfl, ad, 0, rfl, Nat.zero_le _⟩
      · left
        cases hA : A j with
        | none => exact absurd (h6 hA) hC
        | some ad =>
          obtain ⟨_, hc⟩ := h7 ad hA
          have hs0 : ad.spot = none := by
            have := World.cell?_spot (hc 0 (by omega))
            simpa [Addr.add] using this
          obtain ⟨k1, o1, sp1⟩ := ad
          simp only at hs0
          subst hs0
          have := Rd.mk' (w := W) (k := k1) (o := o1) (bs := bytesOf ((Z j).take (L j))) (cp := C j) (by omega) h3 (fun i hi => by
            rw [hLj] at hi
            have g1 := hc i (by omega)
            rw [addr_add] at g1
            rw [g1]
            obtain ⟨_, g2⟩ := bytesOf_get (zs := Z j) h5 i (by omega)
            rw [g2]
            simp [bv, bytesOf])
          rw [hLj] at this
          exact this
    · rw [hx.1]
      have hb := bulk_map (H := H) (fun r => intRow .u8 (A r) (L r) (Z r)) (fun r => bytesOf ((Z r).take (L r))) (List.range len) (fun r hr0 => by
        have hlt : r < len := List.mem_range.1 hr0
        rw [hlen r hlt]
        obtain ⟨h1, h2, h3, h4, h5, h6, h7⟩ := hr r (by omega)
        cases hA : A r with
        | none => have := h6 hA; have := bulk_one (intRow (H := H) .u8 none (L r) (Z r)); omega
        | some ad =>
          have := bulk_len (lits (H := H) .u8 ((Z r).take (L r)))
          simp only [intRow, Rows.uptoBulk]
          simp only [lits, List.length_map, List.length_take] at this ⊢
          omega)
      simp only [Rows.uptoBulk, List.length_map, List.length_range] at hb ⊢
      omega
end

theorem Wrs.below {w w' : World} {v : Value} {bss : List (List UInt8)} (h : Wrs w v bss) (t : Below w.heap.size w w') : Wrs w' v bss := by
  obtain ⟨ao, cp, rfl, h1, h2⟩ := h.val
  refine ⟨ao, cp, rfl, h1, fun j hj => ?_⟩
  obtain ⟨ad, u, e, hs, hc, hr⟩ := h2 j hj
  exact ⟨ad, u, e, hs, (t.cell (p := ⟨ad.block, ad.off + j, none⟩) (block_lt_of_cell hc)).trans hc, hr.below t⟩

theorem mem_flatten_le {bss : List (List UInt8)} {b : List UInt8} (h : b ∈ bss) : b.length ≤ bss.flatten.length := by
  induction bss with
  | nil => cases h
  | cons x r ih =>
    rw [List.flatten_cons, List.length_append]
    rcases List.mem_cons.1 h with rfl | h
    · omega
    · have := ih h; omega

set_option maxHeartbeats 1000000 in
theorem fits_calls (w : World) {v : Value} {bss : List (List UInt8)} (h : Wrs w v bss) (hb : bss.flatten.length + bss.length ≤ 2147483647) :
    Calls Tryd.prog 4 #[v] w fun e w' => e = .returned (.bool true) ∧ w = w' := by
  obtain ⟨ao, cp, rfl, hbl, hcells⟩ := h.val
  have HC := Lib.hid hcells
  have hl : bss.length ≤ 2147483647 := by omega
  have HFL := Lib.hid (fun b (hb : b ∈ bss) => mem_flatten_le hb)
  clear hcells h
  go_enter Tryd.func4, Tryd.ntmps4
  go_wp2_with fail
  go_loopw [10] (fun t10 wr => ∃ j : Nat, j ≤ bss.length ∧ t10 = .int .i64 j ∧ wr = w) (fun t10 _ => bss.length - (intOf t10).toNat)
  case atStart => exact ⟨0, Nat.zero_le _, rfl, rfl⟩
  case round =>
    obtain ⟨j, hj, rfl, rfl⟩ := hrel
    by_cases hlt : j < bss.length
    · obtain ⟨ad, u, rfl, hsp, hcu, hru⟩ := HC.out j hlt
      obtain ⟨k0, o0, sp0⟩ := ad
      simp only at hsp hcu
      subst hsp
      have hl2 : bss[j].length ≤ 2147483647 := by have := HFL.out bss[j] (List.getElem_mem hlt); omega
      obtain ⟨au, cu, rfl⟩ : ∃ au cu, u = .slice au bss[j].length cu := hru.shape
      clear hru
      generalize bss[j].length = n at hl2 hcu
      go_wp2_with fail
      go_roundw
      case rel => exact ⟨j + 1, by omega, by go_num, by first | trivial | rfl⟩
      case measure => simp [intOf]; omega
    · obtain rfl : j = bss.length := by omega
      go_wp2_with fail
      go_ret
      exact ⟨rfl, rfl⟩
end Go.Proofs.YteildpeogbenbaaDoor
