/- Walks: write0, writeN. -/
import Derived.Test.YtbagbfmklpklmaaDoorWf
namespace Go.Proofs.YtbagbfmklpklmaaDoor
open Go.RowKit Go.Tw Go.Sort
set_option maxRecDepth 100000
section
variable {F G : Nat → Prop} {w : World} {B S : Nat} {c : Cfg} {s : St} {ht : Bool} {bufv lv wv ov : Value} {vs : List Value}

theorem method_write (a : Addr) (w : World) : (method 217 41 (.pointer (some a)) "Write").run Tryd.prog w = .ok (77, .pointer (some a)) w := by kernel_rfl

set_option maxHeartbeats 400000 in
theorem write0_calls (hF : ∀ k, w.heap.size ≤ k → F k) (hrp : RepAt F w B S c s ht bufv lv wv ov vs) (hG : OutG G w S ov) (hroom : c.room < 0) {v : Value} {bs : List UInt8} (hrd : Rd w v bs) (hb : s.out.length + bs.length ≤ 140737488355328) :
    Calls Tryd.prog 39 #[.pointer (some ⟨B, 0, none⟩), v] w fun e w' => e = .returned (.tuple #[]) ∧ Wrote F G w B S c s ht bufv lv wv vs bs w' := by
  have HS := Lib.hid (sinkWrite_calls hF hrp hG hroom hrd hb)
  obtain ⟨ao, cp, rfl, h1, h2, h3, h4, h5⟩ := hrd.val
  have c0 : w.cell? ⟨B, 0, none⟩ = some (.iface 41 (.pointer (some ⟨S, 0, none⟩))) := cell_of_blk hrp.blk 0
  clear h3 h4 h5
  go_enter Tryd.func39, Tryd.ntmps39
  have hmw := method_write ⟨S, 0, none⟩
  have hbne : ((bs.length : Int) != (bs.length : Int)) = false := by simp
  go_wp2_with (go_at_call 77; refine HS.out.mono ?_; rintro e w1 ⟨rfl, hw⟩; have HW := Lib.hid hw; clear hw)
  go_end0
  exact ⟨rfl, HW.out⟩

/-- Two writes, one behind the other. -/
theorem Wrote.step {w1 w2 : World} {bs cs : List UInt8} (ov1 : Value) (_ : RepAt F w1 B S c { s with out := s.out ++ bs } ht bufv lv wv ov1 vs) (t1 : Tch G w w1) (h : Wrote F G w1 B S c { s with out := s.out ++ bs } ht bufv lv wv vs cs w2) : Wrote F G w B S c s ht bufv lv wv vs (bs ++ cs) w2 := by
  obtain ⟨ov2, hr2, t2, g2⟩ := h
  refine ⟨ov2, ?_, t1.trans t2, g2⟩
  simpa using hr2

def NRel (F G : Nat → Prop) (w : World) (B S : Nat) (c : Cfg) (s : St) (ht : Bool) (bufv lv wv : Value) (vs : List Value) (b : UInt8) (n : Nat) (t : Value) (wr : World) : Prop :=
  ∃ m : Nat, m ≤ n ∧ t = .int .i64 m ∧ Wrote F G w B S c s ht bufv lv wv vs (List.replicate (n - m) b) wr

set_option maxHeartbeats 1000000 in
theorem writeN_calls (hF : ∀ k, w.heap.size ≤ k → F k) (hrp : RepAt F w B S c s ht bufv lv wv ov vs) (hG : OutG G w S ov) (hroom : c.room < 0) {v : Value} {b : UInt8} (hrd : Rd w v (List.replicate 8 b)) (hgv : ∀ g, v.ownBlock = some g → ¬ G g) (n : Nat) (hb : s.out.length + n ≤ 140737488355328) :
    Calls Tryd.prog 60 #[.pointer (some ⟨B, 0, none⟩), v, .int .i64 n] w fun e w' => e = .returned (.tuple #[]) ∧ Wrote F G w B S c s ht bufv lv wv vs (List.replicate n b) w' := by
  obtain ⟨ao, cp, hv, h1, h2, h3, h4, h5⟩ := hrd.val
  simp only [List.length_replicate] at hv h1
  subst hv
  have HRD := Lib.hid hrd
  have H0 : NRel F G w B S c s ht bufv lv wv vs b n (.int .i64 n) w := ⟨n, Nat.le_refl _, rfl, ov, by simpa using hrp, Tch.refl _ _, hG⟩
  have HF := Lib.hid hF
  have HGV := Lib.hid hgv
  have x1 : (if cp = 0 then ao else Option.map (fun x => x.add 0) ao) = ao := by cases ao <;> simp [Addr.add]
  unfold maxLen at h2
  clear h3 h4 h5 hrd hF hgv hrp hG
  go_enter Tryd.func60, Tryd.ntmps60
  go_wp2_with fail
  go_loopw [2] (fun t wr => NRel F G w B S c s ht bufv lv wv vs b n t wr) (fun t _ => (intOf t).toNat)
  case atStart => exact H0
  case round =>
    obtain ⟨m, hm, rfl, ov1, hr1, t1, g1⟩ := hrel
    have HR1 := Lib.hid hr1
    have T1 := Lib.hid t1
    have G1 := Lib.hid g1
    have HRD1 := Lib.hid (HRD.out.kept t1 (fun _ g hg => HGV.out g hg))
    have HF1 : Hid (∀ k, wr.heap.size ≤ k → F k) := fun k hk => HF.out k (Nat.le_trans t1.size hk)
    clear hr1 t1 g1
    by_cases hlt : 8 < m
    · go_wp2_with (go_at_call 39; refine (write0_calls HF1.out HR1.out G1.out hroom HRD1.out (by simp; omega)).mono ?_; rintro e w2 ⟨rfl, hw⟩; have HW := Lib.hid hw; clear hw)
      go_roundw
      case rel =>
        refine ⟨m - 8, by omega, by (have : ((m - 8 : Nat) : Int) = (m : Int) - 8 := by omega); rw [this], ?_⟩
        have := Wrote.step ov1 HR1.out T1.out HW.out
        rwa [List.replicate_append_replicate, show n - m + 8 = n - (m - 8) by omega] at this
      case measure => simp [intOf]; omega
    · have HT := Lib.hid (HRD1.out.taken (k := m) (by simp; omega))
      go_wp2_with (go_at_call 39; refine (write0_calls HF1.out HR1.out G1.out hroom HT.out (by simp; omega)).mono ?_; rintro e w2 ⟨rfl, hw⟩; have HW := Lib.hid hw; clear hw)
      go_end0
      refine ⟨rfl, ?_⟩
      have := Wrote.step ov1 HR1.out T1.out HW.out
      rwa [List.take_replicate, List.replicate_append_replicate, show n - m + min m 8 = n by omega] at this
end
end Go.Proofs.YtbagbfmklpklmaaDoor
