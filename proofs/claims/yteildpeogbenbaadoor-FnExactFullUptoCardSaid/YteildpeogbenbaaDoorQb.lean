/- How a law closes: the arguments opened, the post. -/
import Derived.Test.YteildpeogbenbaaDoorRc
import Derived.ChangeStays
import Derived.ChangeSame
import Derived.OpenShut
import Derived.Lib.SmallJoins
import Derived.Deep.Slices
namespace Go.Proofs.YteildpeogbenbaaDoor
open Go.RowKit Go.Tw Go.ChangeShapes Go.WideShapes Go.Joins Go.Deep
set_option maxRecDepth 100000

theorem kidsB : laidOutB Tryd.prog = true := by kernel_rfl
theorem mapsB : mapsRowed Tryd.prog = true := by kernel_rfl
theorem sliceB : (List.range Tryd.prog.types.size).all (fun t => match Tryd.prog.underlying t with | some (.slice e) => decide (0 < Tryd.prog.cellsOf e) | _ => true) = true := by kernel_rfl
theorem slicePos {t e : TypeId} (ht : t < Tryd.prog.types.size) (h : Tryd.prog.underlying t = some (.slice e)) : 0 < Tryd.prog.cellsOf e := by
  have := List.all_eq_true.1 sliceB t (List.mem_range.2 ht)
  rw [h] at this
  simpa using this

section
variable {H : Type} {enc : TypeId × Value → H} {W W' : World}
theorem sameAt_below (hb : Below W.heap.size W W') {p : MemPlace} (hp : p.block < W.heap.size) : W.sameAt W' p := by
  cases p with
  | cell b off => exact hb.cell (p := ⟨b, off, none⟩) hp
  | map b => exact hb.block b hp
theorem trodAll_below (hb : Below W.heap.size W W') : ∀ {ts : List TypeId} {vs : List Value} {ds : List (DataW H)} {ps : List MemPlace}, (∀ t ∈ ts, t < Tryd.prog.types.size) → DataW.TrodAll enc Tryd.prog W 0 (fun _ => true) true ts vs ds ps → (∀ p ∈ ps, p.block < W.heap.size) → ∀ sp : Nat → Bool, (∀ p ∈ ps, sp p.block = true) → DataW.TrodAll enc Tryd.prog W' 0 sp true ts vs ds ps := by
  intro ts
  induction ts with
  | nil =>
    intro vs ds ps _ h _ sp _
    obtain ⟨rfl, rfl, rfl⟩ := trodAll_nil h
    exact trodAll_mk0
  | cons t ts ih =>
    intro vs ds ps ht h hlt sp hsp
    obtain ⟨v, vs', d, ds', p, q, rfl, rfl, rfl, hd, hr⟩ := trodAll_cons h
    refine trodAll_cons_mk ?_ (ih (fun x hx => ht x (by simp [hx])) hr (fun x hx => hlt x (by simp [hx])) sp (fun x hx => hsp x (by simp [hx])))
    obtain ⟨fuel, hf⟩ := hd
    exact ⟨fuel, DataW.trod_stays (kids_rows kidsB mapsB) (fun h1 h2 => slicePos h1 h2) (fun h => by cases h) (ht t (by simp)) hf (fun x hx => sameAt_below hb (hlt x (by simp [hx]))) (fun x hx => hsp x (by simp [hx]))⟩

theorem okWide_spot {r : Reach} {b0 : Nat} {a : Addr} {len cap : Nat} (hv : Value.okWide Tryd.prog W r b0 26 (.slice (some a) len cap)) : a.spot = none := by
  unfold Value.okWide at hv
  rw [Tryd.underlying26] at hv
  simp only [Cell.okWide, Tryd.underlying26, Cell.ok] at hv
  exact hv.2.2.2.1
theorem bytes_of_ints {zs : List Int} (h : ∀ n ∈ zs, (Lit.int .u8 n).wf = true) : ∃ bs : List UInt8, bs.length = zs.length ∧ ∀ i, i < zs.length → zs.getD i 0 = ((bs.getD i 0).toNat : Int) := by
  refine ⟨zs.map fun n => UInt8.ofNat n.toNat, by simp, fun i hi => ?_⟩
  have hw := h zs[i] (List.getElem_mem hi)
  have hr : 0 ≤ zs[i] ∧ zs[i] ≤ 255 := bounds_u8 hw
  simp only [List.getD_eq_getElem?_getD, List.getElem?_map, List.getElem?_eq_getElem hi, Option.map_some, Option.getD_some]
  rw [UInt8.toNat_ofNat_of_lt' (by show zs[i].toNat < 256; omega)]
  omega
/-- A slice of bytes that came in. -/
theorem open_rd {r : Reach} {b0 : Nat} {v : Value} {d : DataW H} {p : List MemPlace} (hv : Value.okWide Tryd.prog W r b0 26 v) (h : DataW.Trod enc Tryd.prog W 0 (fun _ => true) true 26 v d p) : ∃ bs, Rd W v bs := by
  obtain ⟨ao, len, cap, rfl⟩ := okWide_slice Tryd.underlying26 hv
  obtain ⟨fuel, hf⟩ := h
  rcases open_ints Tryd.underlying26 Tryd.underlying5 (by kernel_rfl) hf with ⟨e, _⟩ | ⟨a, len', cap', zs, e, _, hl, hm, hz, _, hc, hw⟩
  · simp [Value.cells] at e
    obtain ⟨rfl, rfl, rfl⟩ := e
    exact ⟨[], Rd.nil W⟩
  · simp [Value.cells] at e
    obtain ⟨rfl, rfl, rfl⟩ := e
    have hsp := okWide_spot hv
    obtain ⟨k, o, sp⟩ := a
    simp only at hsp
    subst hsp
    simp only [if_true] at hz
    obtain ⟨bs, hbl, hb⟩ := bytes_of_ints hw
    refine ⟨bs.take len, ?_⟩
    have hlen : (bs.take len).length = len := by simp; omega
    have := Rd.mk' (w := W) (k := k) (o := o) (bs := bs.take len) (cp := cap) (by omega) hm (fun j hj => by
      have hj2 : j < zs.length := by omega
      have h1 := hc j hj2
      have h2 : (⟨k, o, none⟩ : Addr).add j = ⟨k, o + j, none⟩ := by unfold Addr.add; split <;> simp_all
      rw [h2, hb j hj2] at h1
      rw [h1]
      have h3 : j < bs.length := by omega
      simp [bv, List.getD_eq_getElem?_getD, h3])
    rw [hlen] at this
    exact this
end
end Go.Proofs.YteildpeogbenbaaDoor

namespace Go.Proofs.YteildpeogbenbaaDoor
open Go.RowKit Go.Tw Go.ChangeShapes Go.WideShapes Go.Joins Go.Deep
set_option maxRecDepth 100000
section
variable {H : Type} {enc : TypeId × Value → H} {W W' : World}

theorem conf_cellTypes : Tryd.prog.cellTypes Tryd.prog.depth 23 = some [3, 3, 3, 5, 3] := by kernel_rfl
theorem conf_cells5 : Tryd.prog.cellsOf 23 = 5 := by kernel_rfl

theorem cell_int {r : Reach} {b0 : Nat} {v : Value} (h : Cell.okWide Tryd.prog W r b0 3 v) : ∃ n, v = .int .i64 n :=
  okWide_int (t := 3) Tryd.underlying3 (by unfold Value.okWide; rw [Tryd.underlying3]; exact h)
theorem cell_u8 {r : Reach} {b0 : Nat} {v : Value} (h : Cell.okWide Tryd.prog W r b0 5 v) : ∃ c : UInt8, v = .int .u8 c.toNat := by
  obtain ⟨n, rfl⟩ := okWide_int (t := 5) Tryd.underlying5 (by unfold Value.okWide; rw [Tryd.underlying5]; exact h)
  unfold Cell.okWide at h
  rw [Tryd.underlying5] at h
  simp only [Cell.ok, Tryd.underlying5] at h
  have hb : 0 ≤ n ∧ n ≤ 255 := h.2
  refine ⟨UInt8.ofNat n.toNat, ?_⟩
  rw [UInt8.toNat_ofNat_of_lt' (by show n.toNat < 256; omega)]
  congr 1
  omega

theorem open_conf {r : Reach} {b0 : Nat} {v : Value} (hv : Value.okWide Tryd.prog W r b0 23 v) : ∃ (mn tb pd fl : Int) (ch : UInt8), v = .agg #[.int .i64 mn, .int .i64 tb, .int .i64 pd, .int .u8 ch.toNat, .int .i64 fl] := by
  unfold Value.okWide at hv
  rw [Tryd.underlying23] at hv
  simp only at hv
  obtain ⟨cs, rfl, hsz, ts, hts, _, hcell⟩ := hv
  rw [conf_cellTypes] at hts
  simp only [Option.some.injEq] at hts
  subst hts
  rw [conf_cells5] at hsz
  obtain ⟨l⟩ := cs
  match l, hsz with
  | [c0, c1, c2, c3, c4], _ =>
    obtain ⟨u0, e0, k0⟩ := hcell 0 c0 rfl
    obtain ⟨u1, e1, k1⟩ := hcell 1 c1 rfl
    obtain ⟨u2, e2, k2⟩ := hcell 2 c2 rfl
    obtain ⟨u3, e3, k3⟩ := hcell 3 c3 rfl
    obtain ⟨u4, e4, k4⟩ := hcell 4 c4 rfl
    simp at e0 e1 e2 e3 e4
    subst e0 e1 e2 e3 e4
    obtain ⟨m, rfl⟩ := cell_int k0
    obtain ⟨t, rfl⟩ := cell_int k1
    obtain ⟨p, rfl⟩ := cell_int k2
    obtain ⟨c, rfl⟩ := cell_u8 k3
    obtain ⟨f, rfl⟩ := cell_int k4
    exact ⟨m, t, p, f, c, rfl⟩

theorem conf_typed : 23 < Tryd.prog.types.size ∧ 26 < Tryd.prog.types.size := ⟨of_decide_eq_true (by kernel_rfl), of_decide_eq_true (by kernel_rfl)⟩

/-- The law's end: it returned true, and nothing old has turned. -/
theorem law_post {f : Func} {s : ChangeSpec} {apart fresh handsOn again : Bool} {args : Array Value} {ds gs : List (DataW H)} {before : List MemPlace}
    (hvars : s.vars = []) (hfn : ∀ ds : List (DataW H), ds.length = f.params.size → s.fn H ds = { results := [.lit (.bool true)], args := ds }) (hres : f.resultTypes = #[4]) (htys : ∀ t ∈ f.params.toList, t < Tryd.prog.types.size)
    (hW : DataW.Whole enc Tryd.prog f.params.toList s.vars apart W args.toList ds gs before) (hb : Below W.heap.size W W') :
    s.post enc Tryd.prog f apart fresh handsOn again W args (.bool true) W' := by
  have hlt : ∀ p ∈ before, p.block < W.heap.size := fun p hp => hW.lt p hp
  have hW0 := hW
  obtain ⟨p, q, hA, hV, rfl, hz, hn⟩ := hW0
  rw [hvars] at hV
  obtain ⟨rfl, rfl⟩ := trodVars_none hV
  rw [List.append_nil] at hW hlt hz hn
  have hlen : ∀ {ts : List TypeId} {vs : List Value} {ds : List (DataW H)} {ps : List MemPlace}, DataW.TrodAll enc Tryd.prog W 0 (fun _ => true) true ts vs ds ps → ds.length = ts.length := by
    intro ts
    induction ts with
    | nil => intro vs ds ps h; obtain ⟨_, rfl, _⟩ := trodAll_nil h; rfl
    | cons t ts ih => intro vs ds ps h; obtain ⟨_, _, _, _, _, _, _, rfl, _, _, h2⟩ := trodAll_cons h; simp [ih h2]
  have hdl : ds.length = f.params.size := by rw [hlen hA]; simp
  have hfd : s.fn H (ds ++ []) = { results := [.lit (.bool true)], args := ds } := by rw [List.append_nil]; exact hfn ds hdl
  have hargs : ∀ sp : Nat → Bool, (∀ x ∈ p, sp x.block = true) → DataW.TrodAll enc Tryd.prog W' 0 sp true f.params.toList args.toList ds p := fun sp hsp => trodAll_below hb htys hA hlt sp hsp
  have hold : ∀ x ∈ p, (fun b => decide (b < W.heap.size)) x.block = true := fun x hx => by simpa using hlt x hx
  have hresv : ∀ (b : Nat) (sp : Nat → Bool) (hd : Bool), DataW.TrodAll enc Tryd.prog W' b sp hd f.resultTypes.toList ((Value.bool true).resultList f.resultTypes.size) [.lit (.bool true)] [] := by
    intro b sp hd
    rw [hres]
    exact trodAll_cons_mk (shut_bool Tryd.underlying4 _) trodAll_mk0
  refine ⟨ds, [], p, [], p, [], hW, by rw [hfd]; exact hresv _ _ _, by rw [hfd]; exact hargs _ hold, by rw [hfd, hvars]; rfl, World.keptBut_mono (fun x hx => ⟨hx, ?_⟩) (hb.frame (· ∈ p)), fun _ => ?_⟩
  · exact Or.inr (by simpa using hx)
  · refine ⟨?_, _, [], ([] ++ p) ++ [], ⟨[] ++ p, [], trodAll_append (hargs _ (fun _ _ => rfl)) (hresv _ _ _), by rw [hvars]; rfl, rfl, ?_, ?_⟩, ?_⟩
    · exact ok_one hres rfl (okWide_bool_mk Tryd.underlying4 _)
    · intro b off hp
      have hin : MemPlace.cell b off ∈ p := by simpa using hp
      rw [hb.frozen (p := ⟨b, off, none⟩) (hlt _ hin)]
      exact hz b off hin
    · intro ha
      simpa using hn ha
    · intro x hx _
      simpa using hx
end
end Go.Proofs.YteildpeogbenbaaDoor
