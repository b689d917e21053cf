/- How a law's statement closes: the set-up is opened; the post. -/
import Derived.Test.YtbagbfmklpklmaaDoorQa
namespace Go.Proofs.YtbagbfmklpklmaaDoor
open Go.RowKit Go.Tw Go.ChangeShapes Go.WideShapes Go.Joins Go.Deep
set_option maxRecDepth 100000
section
variable {H : Type} {enc : TypeId × Value → H} {W W' : World}

theorem conf_cellTypes : Tryd.prog.cellTypes Tryd.prog.depth 23 = some [3, 3, 3, 5, 3] := by kernel_rfl
theorem conf_cells5 : Tryd.prog.cellsOf 23 = 5 := by kernel_rfl

theorem cell_int {r : Reach} {b0 : Nat} {v : Value} (h : Cell.okWide Tryd.prog W r b0 3 v) : ∃ n, v = .int .i64 n :=
  okWide_int (t := 3) Tryd.underlying3 (by unfold Value.okWide; rw [Tryd.underlying3]; exact h)
theorem cell_u8 {r : Reach} {b0 : Nat} {v : Value} (h : Cell.okWide Tryd.prog W r b0 5 v) : ∃ c : UInt8, v = .int .u8 c.toNat := by
  obtain ⟨n, rfl⟩ := okWide_int (t := 5) Tryd.underlying5 (by unfold Value.okWide; rw [Tryd.underlying5]; exact h)
  unfold Cell.okWide at h
  rw [Tryd.underlying5] at h
  simp only [Cell.ok, Tryd.underlying5] at h
  have hb : 0 ≤ n ∧ n ≤ 255 := h.2
  refine ⟨UInt8.ofNat n.toNat, ?_⟩
  rw [UInt8.toNat_ofNat_of_lt' (by show n.toNat < 256; omega)]
  congr 1
  omega

theorem open_conf {r : Reach} {b0 : Nat} {v : Value} (hv : Value.okWide Tryd.prog W r b0 23 v) : ∃ (mn tb pd fl : Int) (ch : UInt8), v = .agg #[.int .i64 mn, .int .i64 tb, .int .i64 pd, .int .u8 ch.toNat, .int .i64 fl] := by
  unfold Value.okWide at hv
  rw [Tryd.underlying23] at hv
  simp only at hv
  obtain ⟨cs, rfl, hsz, ts, hts, _, hcell⟩ := hv
  rw [conf_cellTypes] at hts
  simp only [Option.some.injEq] at hts
  subst hts
  rw [conf_cells5] at hsz
  obtain ⟨l⟩ := cs
  match l, hsz with
  | [c0, c1, c2, c3, c4], _ =>
    obtain ⟨u0, e0, k0⟩ := hcell 0 c0 rfl
    obtain ⟨u1, e1, k1⟩ := hcell 1 c1 rfl
    obtain ⟨u2, e2, k2⟩ := hcell 2 c2 rfl
    obtain ⟨u3, e3, k3⟩ := hcell 3 c3 rfl
    obtain ⟨u4, e4, k4⟩ := hcell 4 c4 rfl
    simp at e0 e1 e2 e3 e4
    subst e0 e1 e2 e3 e4
    obtain ⟨m, rfl⟩ := cell_int k0
    obtain ⟨t, rfl⟩ := cell_int k1
    obtain ⟨p, rfl⟩ := cell_int k2
    obtain ⟨c, rfl⟩ := cell_u8 k3
    obtain ⟨f, rfl⟩ := cell_int k4
    exact ⟨m, t, p, f, c, rfl⟩

theorem conf_typed : 23 < Tryd.prog.types.size ∧ 26 < Tryd.prog.types.size := ⟨of_decide_eq_true (by kernel_rfl), of_decide_eq_true (by kernel_rfl)⟩

/-- The law's end: it returned true, and nothing old has turned. -/
theorem law_post {f : Func} {s : ChangeSpec} {apart fresh handsOn again : Bool} {args : Array Value} {ds gs : List (DataW H)} {before : List MemPlace}
    (hvars : s.vars = []) (hfn : ∀ ds : List (DataW H), ds.length = f.params.size → s.fn H ds = { results := [.lit (.bool true)], args := ds }) (hres : f.resultTypes = #[4]) (htys : ∀ t ∈ f.params.toList, t < Tryd.prog.types.size)
    (hW : DataW.Whole enc Tryd.prog f.params.toList s.vars apart W args.toList ds gs before) (hb : Below W.heap.size W W') :
    s.post enc Tryd.prog f apart fresh handsOn again W args (.bool true) W' := by
  have hlt : ∀ p ∈ before, p.block < W.heap.size := fun p hp => hW.lt p hp
  have hW0 := hW
  obtain ⟨p, q, hA, hV, rfl, hz, hn⟩ := hW0
  rw [hvars] at hV
  obtain ⟨rfl, rfl⟩ := trodVars_none hV
  rw [List.append_nil] at hW hlt hz hn
  have hlen : ∀ {ts : List TypeId} {vs : List Value} {ds : List (DataW H)} {ps : List MemPlace}, DataW.TrodAll enc Tryd.prog W 0 (fun _ => true) true ts vs ds ps → ds.length = ts.length := by
    intro ts
    induction ts with
    | nil => intro vs ds ps h; obtain ⟨_, rfl, _⟩ := trodAll_nil h; rfl
    | cons t ts ih => intro vs ds ps h; obtain ⟨_, _, _, _, _, _, _, rfl, _, _, h2⟩ := trodAll_cons h; simp [ih h2]
  have hdl : ds.length = f.params.size := by rw [hlen hA]; simp
  have hfd : s.fn H (ds ++ []) = { results := [.lit (.bool true)], args := ds } := by rw [List.append_nil]; exact hfn ds hdl
  have hargs : ∀ sp : Nat → Bool, (∀ x ∈ p, sp x.block = true) → DataW.TrodAll enc Tryd.prog W' 0 sp true f.params.toList args.toList ds p := fun sp hsp => trodAll_below hb htys hA hlt sp hsp
  have hold : ∀ x ∈ p, (fun b => decide (b < W.heap.size)) x.block = true := fun x hx => by simpa using hlt x hx
  have hresv : ∀ (b : Nat) (sp : Nat → Bool) (hd : Bool), DataW.TrodAll enc Tryd.prog W' b sp hd f.resultTypes.toList ((Value.bool true).resultList f.resultTypes.size) [.lit (.bool true)] [] := by
    intro b sp hd
    rw [hres]
    exact trodAll_cons_mk (shut_bool Tryd.underlying4 _) trodAll_mk0
  refine ⟨ds, [], p, [], p, [], hW, by rw [hfd]; exact hresv _ _ _, by rw [hfd]; exact hargs _ hold, by rw [hfd, hvars]; rfl, World.keptBut_mono (fun x hx => ⟨hx, ?_⟩) (hb.frame (· ∈ p)), fun _ => ?_⟩
  · exact Or.inr (by simpa using hx)
  · refine ⟨?_, _, [], ([] ++ p) ++ [], ⟨[] ++ p, [], trodAll_append (hargs _ (fun _ _ => rfl)) (hresv _ _ _), by rw [hvars]; rfl, rfl, ?_, ?_⟩, ?_⟩
    · exact ok_one hres rfl (okWide_bool_mk Tryd.underlying4 _)
    · intro b off hp
      have hin : MemPlace.cell b off ∈ p := by simpa using hp
      rw [hb.frozen (p := ⟨b, off, none⟩) (hlt _ hin)]
      exact hz b off hin
    · intro ha
      simpa using hn ha
    · intro x hx _
      simpa using hx
end
end Go.Proofs.YtbagbfmklpklmaaDoor
