/- How a law's statement closes: the arguments are opened, and read as they did where nothing old has turned. -/
import Derived.Test.YtbagbfmklpklmaaDoorRune
import Derived.ChangeStays
import Derived.ChangeSame
import Derived.OpenShut
import Derived.Lib.SmallJoins
import Derived.Deep.Slices
namespace Go.Proofs.YtbagbfmklpklmaaDoor
open Go.RowKit Go.Tw Go.ChangeShapes Go.WideShapes Go.Joins Go.Deep
set_option maxRecDepth 100000

theorem kidsB : laidOutB Tryd.prog = true := by kernel_rfl
theorem mapsB : mapsRowed Tryd.prog = true := by kernel_rfl
theorem sliceB : (List.range Tryd.prog.types.size).all (fun t => match Tryd.prog.underlying t with | some (.slice e) => decide (0 < Tryd.prog.cellsOf e) | _ => true) = true := by kernel_rfl
theorem slicePos {t e : TypeId} (ht : t < Tryd.prog.types.size) (h : Tryd.prog.underlying t = some (.slice e)) : 0 < Tryd.prog.cellsOf e := by
  have := List.all_eq_true.1 sliceB t (List.mem_range.2 ht)
  rw [h] at this
  simpa using this

section
variable {H : Type} {enc : TypeId × Value → H} {W W' : World}
theorem sameAt_below (hb : Below W.heap.size W W') {p : MemPlace} (hp : p.block < W.heap.size) : W.sameAt W' p := by
  cases p with
  | cell b off => exact hb.cell (p := ⟨b, off, none⟩) hp
  | map b => exact hb.block b hp
theorem trodAll_below (hb : Below W.heap.size W W') : ∀ {ts : List TypeId} {vs : List Value} {ds : List (DataW H)} {ps : List MemPlace}, (∀ t ∈ ts, t < Tryd.prog.types.size) → DataW.TrodAll enc Tryd.prog W 0 (fun _ => true) true ts vs ds ps → (∀ p ∈ ps, p.block < W.heap.size) → ∀ sp : Nat → Bool, (∀ p ∈ ps, sp p.block = true) → DataW.TrodAll enc Tryd.prog W' 0 sp true ts vs ds ps := by
  intro ts
  induction ts with
  | nil =>
    intro vs ds ps _ h _ sp _
    obtain ⟨rfl, rfl, rfl⟩ := trodAll_nil h
    exact trodAll_mk0
  | cons t ts ih =>
    intro vs ds ps ht h hlt sp hsp
    obtain ⟨v, vs', d, ds', p, q, rfl, rfl, rfl, hd, hr⟩ := trodAll_cons h
    refine trodAll_cons_mk ?_ (ih (fun x hx => ht x (by simp [hx])) hr (fun x hx => hlt x (by simp [hx])) sp (fun x hx => hsp x (by simp [hx])))
    obtain ⟨fuel, hf⟩ := hd
    exact ⟨fuel, DataW.trod_stays (kids_rows kidsB mapsB) (fun h1 h2 => slicePos h1 h2) (fun h => by cases h) (ht t (by simp)) hf (fun x hx => sameAt_below hb (hlt x (by simp [hx]))) (fun x hx => hsp x (by simp [hx]))⟩

theorem okWide_spot {r : Reach} {b0 : Nat} {a : Addr} {len cap : Nat} (hv : Value.okWide Tryd.prog W r b0 26 (.slice (some a) len cap)) : a.spot = none := by
  unfold Value.okWide at hv
  rw [Tryd.underlying26] at hv
  simp only [Cell.okWide, Tryd.underlying26, Cell.ok] at hv
  exact hv.2.2.2.1
theorem bytes_of_ints {zs : List Int} (h : ∀ n ∈ zs, (Lit.int .u8 n).wf = true) : ∃ bs : List UInt8, bs.length = zs.length ∧ ∀ i, i < zs.length → zs.getD i 0 = ((bs.getD i 0).toNat : Int) := by
  refine ⟨zs.map fun n => UInt8.ofNat n.toNat, by simp, fun i hi => ?_⟩
  have hw := h zs[i] (List.getElem_mem hi)
  have hr : 0 ≤ zs[i] ∧ zs[i] ≤ 255 := bounds_u8 hw
  simp only [List.getD_eq_getElem?_getD, List.getElem?_map, List.getElem?_eq_getElem hi, Option.map_some, Option.getD_some]
  rw [UInt8.toNat_ofNat_of_lt' (by show zs[i].toNat < 256; omega)]
  omega
/-- A slice of bytes that came in. -/
theorem open_rd {r : Reach} {b0 : Nat} {v : Value} {d : DataW H} {p : List MemPlace} (hv : Value.okWide Tryd.prog W r b0 26 v) (h : DataW.Trod enc Tryd.prog W 0 (fun _ => true) true 26 v d p) : ∃ bs, Rd W v bs := by
  obtain ⟨ao, len, cap, rfl⟩ := okWide_slice Tryd.underlying26 hv
  obtain ⟨fuel, hf⟩ := h
  rcases open_ints Tryd.underlying26 Tryd.underlying5 (by kernel_rfl) hf with ⟨e, _⟩ | ⟨a, len', cap', zs, e, _, hl, hm, hz, _, hc, hw⟩
  · simp [Value.cells] at e
    obtain ⟨rfl, rfl, rfl⟩ := e
    exact ⟨[], Rd.nil W⟩
  · simp [Value.cells] at e
    obtain ⟨rfl, rfl, rfl⟩ := e
    have hsp := okWide_spot hv
    obtain ⟨k, o, sp⟩ := a
    simp only at hsp
    subst hsp
    simp only [if_true] at hz
    obtain ⟨bs, hbl, hb⟩ := bytes_of_ints hw
    refine ⟨bs.take len, ?_⟩
    have hlen : (bs.take len).length = len := by simp; omega
    have := Rd.mk' (w := W) (k := k) (o := o) (bs := bs.take len) (cp := cap) (by omega) hm (fun j hj => by
      have hj2 : j < zs.length := by omega
      have h1 := hc j hj2
      have h2 : (⟨k, o, none⟩ : Addr).add j = ⟨k, o + j, none⟩ := by unfold Addr.add; split <;> simp_all
      rw [h2, hb j hj2] at h1
      rw [h1]
      have h3 : j < bs.length := by omega
      simp [bv, List.getD_eq_getElem?_getD, h3])
    rw [hlen] at this
    exact this
end
end Go.Proofs.YtbagbfmklpklmaaDoor
