/- Walks: Init, NewWriter. -/
import Derived.Test.YteildpeogbenbaaDoorWs
namespace Go.Proofs.YteildpeogbenbaaDoor
open Go.RowKit Go.Tw Go.Sort
set_option maxRecDepth 100000

/-- The state of a new writer whose sink has got o. -/
def St.new (o : List UInt8) : St := ⟨[], 0, 0, 0, 0, [[]], [], o⟩

/-- The flags that a writer keeps. -/
def keepFl (ch : UInt8) (fl : Nat) : Nat := if ch = 9 then (bits BinOp.andNot IntKind.u64 (fl : Int) 4).toNat else fl
theorem andNot_nonneg : ∀ fl : Fin 64, 0 ≤ bits BinOp.andNot IntKind.u64 ((fl.val : Nat) : Int) 4 := by decide

section
variable {F : Nat → Prop} {w : World} {B S : Nat} {c : Cfg}

/-- The writer's block while it is set up: what stands ahead of the padding's bytes, these, and what follows. -/
def preB (iv : Value) (mn tb pd : Nat) : List Value := [iv, .int .i64 mn, .int .i64 tb, .int .i64 pd]
def postB (fl : Nat) (bufv : Value) (pos csize : Nat) (cw : Int) (ht : Bool) (en : UInt8) (lv wv : Value) : List Value := [.int .u64 fl, bufv, .int .i64 pos, .int .i64 csize, .int .i64 cw, .bool ht, bv en, lv, wv]

/-- The loop that lays the padding's bytes. -/
def PRel (w : World) (B : Nat) (ch : UInt8) (pre post : List Value) (t43 : Value) (wr : World) : Prop :=
  ∃ (i : Nat) (ps : List Value), i ≤ 8 ∧ t43 = .int .i64 i ∧ ps.length = 8 ∧ (∀ j, j < i → ps[j]? = some (bv ch)) ∧ (∀ v ∈ ps, v.oneCell' = true) ∧ wr.heap[B]? = some (.cells (pre ++ ps ++ post).toArray 77 (0, 0)) ∧ Tch (· = B) w wr

set_option maxHeartbeats 2000000 in
theorem Init_calls (hF : ∀ k, w.heap.size ≤ k → F k) (hFB : F B) {iv : Value} {mn0 tb0 pd0 fl0 : Nat} {ps0 : List Value} {bufv lv wv : Value} {pos csize : Nat} {cw : Int} {en : UInt8} {bf : List UInt8} {ls : List (List PC)} {ws : List Nat} {ot : List UInt8} {ov : Value} {vs : List Value} {room : Int}
    (hps : ps0.length = 8) (hp1 : ∀ v ∈ ps0, v.oneCell' = true) (_ : iv.oneCell' = true)
    (hB : w.heap[B]? = some (.cells (preB iv mn0 tb0 pd0 ++ ps0 ++ postB fl0 bufv pos csize cw false en lv wv).toArray 77 (0, 0)))
    (hP : Parts F w S room bf ls ws ot bufv lv wv ov vs) (mn tb pd fl : Nat) (ch : UInt8) (hmn : mn ≤ 1000) (htb : tb ≤ 1000) (hpd : pd ≤ 1000) (hfl : fl < 64) :
    Calls Tryd.prog 49 #[.pointer (some ⟨B, 0, none⟩), .iface 42 (.pointer (some ⟨S, 0, none⟩)), .int .i64 mn, .int .i64 tb, .int .i64 pd, .int .u8 ch.toNat, .int .u64 fl] w fun ed w' => ed = .returned (.pointer (some ⟨B, 0, none⟩)) ∧ Rep F w' B S ⟨mn, tb, pd, ch, keepFl ch fl, room⟩ (St.new ot) ∧ Tch F w w' := by
  have hcell : ∀ k, w.cell? ⟨B, k, none⟩ = (preB iv mn0 tb0 pd0 ++ ps0 ++ postB fl0 bufv pos csize cw false en lv wv)[k]? := fun k => by rw [cell_of_blk hB]; simp
  have c0 : w.cell? ⟨B, 0, none⟩ = some iv := hcell 0
  have c1 : w.cell? ⟨B, 1, none⟩ = some (.int .i64 mn0) := hcell 1
  have c2 : w.cell? ⟨B, 2, none⟩ = some (.int .i64 tb0) := hcell 2
  have c3 : w.cell? ⟨B, 3, none⟩ = some (.int .i64 pd0) := hcell 3
  have f0 := frozen_of_blk hB 0
  have f1 := frozen_of_blk hB 1
  have f2 := frozen_of_blk hB 2
  have f3 := frozen_of_blk hB 3
  have HB := Lib.hid hB
  have HPS := Lib.hid hps
  have HP1 := Lib.hid hp1
  have HP := Lib.hid hP
  clear hcell hB hps hp1 hP
  go_enter Tryd.func49, Tryd.ntmps49
  go_wp2_with fail
  have b1 := blk_set HB.out 0 (.iface 42 (.pointer (some ⟨S, 0, none⟩)))
  have b2 := blk_set b1 1 (.int .i64 mn)
  have b3 := blk_set b2 2 (.int .i64 tb)
  have b4 := blk_set b3 3 (.int .i64 pd)
  have hR0 : PRel w B ch (preB (.iface 42 (.pointer (some ⟨S, 0, none⟩))) mn tb pd) (postB fl0 bufv pos csize cw false en lv wv) (.int .i64 0) ((((w.setCell ⟨B, 0, none⟩ (.iface 42 (.pointer (some ⟨S, 0, none⟩)))).setCell ⟨B, 1, none⟩ (.int .i64 mn)).setCell ⟨B, 2, none⟩ (.int .i64 tb)).setCell ⟨B, 3, none⟩ (.int .i64 pd)) := by
    refine ⟨0, ps0, Nat.zero_le _, rfl, HPS.out, fun j hj => absurd hj (Nat.not_lt_zero _), HP1.out, ?_, ?_⟩
    · rw [b4]; simp [preB]
    · exact (((Tch.setCell (F := (· = B)) (a := ⟨B, 0, none⟩) w rfl _).trans (Tch.setCell (F := (· = B)) (a := ⟨B, 1, none⟩) _ rfl _)).trans (Tch.setCell (F := (· = B)) (a := ⟨B, 2, none⟩) _ rfl _)).trans (Tch.setCell (F := (· = B)) (a := ⟨B, 3, none⟩) _ rfl _)
  have HR0 := Lib.hid hR0
  clear b1 b2 b3 b4 hR0 c0 c1 c2 c3 f0 f1 f2 f3
  revert HR0
  generalize (((w.setCell ⟨B, 0, none⟩ (.iface 42 (.pointer (some ⟨S, 0, none⟩)))).setCell ⟨B, 1, none⟩ (.int .i64 mn)).setCell ⟨B, 2, none⟩ (.int .i64 tb)).setCell ⟨B, 3, none⟩ (.int .i64 pd) = w4
  intro HR0
  go_loopw [43] (fun t43 wr => PRel w B ch (preB (.iface 42 (.pointer (some ⟨S, 0, none⟩))) mn tb pd) (postB fl0 bufv pos csize cw false en lv wv) t43 wr) (fun t43 _ => 8 - (intOf t43).toNat)
  case atStart => exact HR0.out
  case round =>
    clear HR0
    obtain ⟨i, ps, hi, rfl, hpl, hpi, hp1, hb, ht⟩ := hrel
    by_cases hlt : i < 8
    · have hcell : wr.cell? ⟨B, 4 + i, none⟩ = some (ps[i]'(by omega)) := by
        rw [cell_of_blk hb]
        simp only [preB, List.getElem?_toArray]
        rw [List.append_assoc, List.getElem?_append_right (by simp), List.getElem?_append_left (by simp; omega)]
        simp
      have hone := hp1 _ (List.getElem_mem (by omega : i < ps.length))
      have hfz := frozen_of_blk hb (4 + i)
      have hfin : PRel w B ch (preB (.iface 42 (.pointer (some ⟨S, 0, none⟩))) mn tb pd) (postB fl0 bufv pos csize cw false en lv wv) (.int .i64 (i + 1 : Nat)) (wr.setCell ⟨B, 4 + i, none⟩ (.int .u8 ch.toNat)) := by
        refine ⟨i + 1, ps.set i (bv ch), by omega, rfl, by simp [hpl], ?_, ?_, ?_, ht.trans (Tch.setCell (F := (· = B)) (a := ⟨B, 4 + i, none⟩) _ rfl _)⟩
        · intro j hj
          rw [List.getElem?_set]
          by_cases h : i = j
          · subst h; simp [hpl, hlt]
          · rw [if_neg h]; exact hpi j (by omega)
        · intro v hv
          rcases List.mem_or_eq_of_mem_set hv with h | h
          · exact hp1 v h
          · subst h; rfl
        · have := blk_set hb (4 + i) (.int .u8 ch.toNat)
          rw [this]
          congr 2
          apply Array.ext'
          simp only [Array.toList_setIfInBounds]
          rw [List.append_assoc, List.set_append_right _ _ (by simp [preB]), List.set_append_left _ _ (by simp [preB]; omega)]
          simp [preB, bv]
      have HFIN := Lib.hid hfin
      obtain ⟨cv, hcv⟩ : ∃ cv, cv = ps[i]'(by omega) := ⟨_, rfl⟩
      rw [← hcv] at hcell hone
      clear hfin hb ht hpi hp1 hpl hcv
      go_wp2_with fail
      go_roundw
      case rel => exact HFIN.out
      case measure => simp [intOf]; omega
    · obtain rfl : i = 8 := by omega
      have hpse : ps = [bv ch, bv ch, bv ch, bv ch, bv ch, bv ch, bv ch, bv ch] := by
        apply List.ext_getElem?
        intro j
        rcases Nat.lt_or_ge j 8 with h | h
        · rw [hpi j h]
          have : j = 0 ∨ j = 1 ∨ j = 2 ∨ j = 3 ∨ j = 4 ∨ j = 5 ∨ j = 6 ∨ j = 7 := by omega
          rcases this with rfl | rfl | rfl | rfl | rfl | rfl | rfl | rfl <;> rfl
        · rw [List.getElem?_eq_none (by omega), List.getElem?_eq_none (by simpa using h)]
      subst hpse
      have c12 : wr.cell? ⟨B, 12, none⟩ = some (.int .u64 fl0) := by rw [cell_of_blk hb]; rfl
      have f12 := frozen_of_blk hb 12
      have hpart : Parts F wr S room bf ls ws ot bufv lv wv ov vs := HP.out.keptOther ht (fun k e => by subst e; exact .inr ⟨_, _, _, HB.out, by simp [Other]⟩)
      have hF1 : ∀ k, wr.heap.size ≤ k → F k := fun k hk => hF k (Nat.le_trans ht.size hk)
      have T0 : Tch F w wr := ht.mono (fun k e => by subst e; exact hFB)
      have key : ∀ (f2 : Nat), f2 = keepFl ch fl → Calls Tryd.prog 50 #[.pointer (some ⟨B, 0, none⟩)] (wr.setCell ⟨B, 12, none⟩ (.int .u64 f2)) fun ed w' => ed = .returned (.tuple #[]) ∧ Rep F w' B S ⟨mn, tb, pd, ch, keepFl ch fl, room⟩ (St.new ot) ∧ Tch F w w' := by
        intro f2 hf2
        have e1 := blk_set hb 12 (.int .u64 f2)
        have hr : Rep F (wr.setCell ⟨B, 12, none⟩ (.int .u64 f2)) B S ⟨mn, tb, pd, ch, keepFl ch fl, room⟩ ⟨bf, pos, csize, cw, en, ls, ws, ot⟩ :=
          ⟨bufv, lv, wv, ov, vs, by rw [e1, hf2]; simp [wcells, preB, postB], hFB, hpart.setB hb 12 _⟩
        refine (reset_calls (fun k hk => hF1 k (by simpa [World.setCell] using hk)) hr).mono ?_
        rintro e w' ⟨a1, a2, a3⟩
        exact ⟨a1, a2, (T0.trans (Tch.setCell _ hFB _)).trans a3⟩
      have KEY := Lib.hid key
      clear key hb ht hpi hp1 hpl hpart hF1 T0
      by_cases h9 : ch = 9
      · have hnn := andNot_nonneg ⟨fl, hfl⟩
        obtain ⟨f2, hf2⟩ : ∃ f2 : Nat, bits BinOp.andNot IntKind.u64 (fl : Int) 4 = f2 := ⟨(bits BinOp.andNot IntKind.u64 (fl : Int) 4).toNat, by simp only at hnn; omega⟩
        have HK := Lib.hid (KEY.out f2 (by unfold keepFl; rw [if_pos h9, hf2]; rfl))
        have n9 : ((ch.toNat : Int) == 9) = true := by rw [h9]; rfl
        clear h9 KEY hnn
        go_wp2_with (go_at_call 50; (with_reducible refine HK.out.mono ?_); rintro ed w5 ⟨rfl, hr, t⟩; have HR := Lib.hid hr; have T := Lib.hid t; clear hr t)
        go_ret
        exact ⟨rfl, HR.out, T.out⟩
      · have HK := Lib.hid (KEY.out fl (by unfold keepFl; rw [if_neg h9]))
        have n9 : ((ch.toNat : Int) == 9) = false := by rw [beq_eq_false_iff_ne]; intro h; exact h9 (UInt8.toNat_inj.1 (by simp; omega))
        clear h9 KEY
        go_wp2_with (go_at_call 50; (with_reducible refine HK.out.mono ?_); rintro ed w5 ⟨rfl, hr, t⟩; have HR := Lib.hid hr; have T := Lib.hid t; clear hr t)
        go_ret
        exact ⟨rfl, HR.out, T.out⟩
end
end Go.Proofs.YteildpeogbenbaaDoor
