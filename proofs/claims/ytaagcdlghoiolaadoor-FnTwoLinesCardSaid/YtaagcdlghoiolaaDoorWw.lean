/- Walks: impl.Write. -/
import Derived.Test.YtaagcdlghoiolaaDoorWv
namespace Go.Proofs.YtaagcdlghoiolaaDoor
open Go.RowKit Go.Tw Go.Sort
set_option maxRecDepth 100000

/-- A slice that reads as texts. -/
structure Wrs (w : World) (v : Value) (bss : List (List UInt8)) : Prop where
  val : ∃ ao cp, v = .slice ao bss.length cp ∧ bss.length ≤ 9223372036854775807 ∧ ∀ j (h : j < bss.length), ∃ ad u, ao = some ad ∧ ad.spot = none ∧ w.cell? ⟨ad.block, ad.off + j, none⟩ = some u ∧ Rw w u bss[j]

theorem Wrs.one (w : World) {u : Value} {bs : List UInt8} (h : Rd w u bs) : Wrs (w.alloc (.cells #[u] 24)) (.slice (some ⟨w.heap.size, 0, none⟩) 1 1) [bs] := by
  refine ⟨_, _, rfl, by simp, fun j hj => ?_⟩
  have : j = 0 := by simp at hj; omega
  subst this
  exact ⟨_, u, rfl, rfl, cell_of_blk (heap_alloc_new w _) 0, .inl (h.below ((Below.refl _ w).alloc (Nat.le_refl _) _))⟩

theorem Good2.new (c : Cfg) (hr : c.room < 0) (h1 : c.mn ≤ 1000) (h2 : c.tb ≤ 1000) (h3 : c.pd ≤ 1000) : Good2 c (St.new []) 0 := by
  have e1 : cellsOf [[]] = 0 := rfl
  refine ⟨⟨hr, h1, h2, h3, by omega, .inl rfl, rfl, by simp [St.new], Nat.le_refl _, rfl, ?_, ⟨Int.le_refl _, ?_⟩, ?_⟩, fun h => by simp [St.new] at h⟩
  · simp only [St.new, e1, List.length_nil, List.length_cons]; omega
  · simp only [St.new, List.length_nil]; omega
  · intro l hl p hp
    simp [St.new] at hl; subst hl; simp at hp

/-- What a writer gives of a text, flushed at the end. -/
def outOf (c : Cfg) (bs : List UInt8) : List UInt8 := ((bs.foldl (St.step c) (St.new [])).flush c).out

def RdPost (w : World) (bs : List UInt8) (e : Ending) (w' : World) : Prop := ∃ v, e = .returned v ∧ Rd w' v bs ∧ Below w.heap.size w w'

section
variable {F : Nat → Prop} {w : World} {B S : Nat} {c : Cfg}

/-- The loop over the writes. -/
def IWRel (F : Nat → Prop) (w : World) (B S : Nat) (c : Cfg) (bss : List (List UInt8)) (t16 : Value) (wr : World) : Prop :=
  ∃ j : Nat, j ≤ bss.length ∧ t16 = .int .i64 j ∧ Rep F wr B S c ((bss.take j).flatten.foldl (St.step c) (St.new [])) ∧ Tch F w wr

theorem take_flatten {bss : List (List UInt8)} {j : Nat} (h : j < bss.length) : (bss.take (j + 1)).flatten = (bss.take j).flatten ++ bss[j] := by
  rw [List.take_succ_eq_append_getElem h, List.flatten_append]; rw [List.flatten_cons, List.flatten_nil, List.append_nil]
theorem take_flatten_le {bss : List (List UInt8)} (j : Nat) : (bss.take j).flatten.length ≤ bss.flatten.length := by
  have h := congrArg List.length (congrArg List.flatten (List.take_append_drop j bss))
  rw [List.flatten_append, List.length_append] at h
  omega

set_option maxHeartbeats 2000000 in
theorem implWrite_calls (mn tb pd fl : Nat) (ch : UInt8) (hmn : mn ≤ 1000) (htb : tb ≤ 1000) (hpd : pd ≤ 1000) (hfl : fl < 64) {v : Value} {bss : List (List UInt8)} (hw : Wrs w v bss) (hb : bss.flatten.length ≤ 2400000) :
    Calls Tryd.prog 15 #[.agg #[.int .i64 mn, .int .i64 tb, .int .i64 pd, .int .u8 ch.toNat, .int .i64 fl], v] w (RdPost w (outOf ⟨mn, tb, pd, ch, keepFl ch fl, -1⟩ bss.flatten)) := by
  obtain ⟨ao, cp, rfl, hbl, hcells⟩ := hw.val
  have hB := begin_calls (F := fun k => w.heap.size ≤ k) (S := w.heap.size + 1) (w := (w.alloc (.cells #[.int .i64 mn, .int .i64 tb, .int .i64 pd, .int .u8 ch.toNat, .int .i64 fl] 23)).alloc (.cells #[.slice none 0 0, .int .i64 (-1)] 50)) (fun k hk => by simp at hk; omega) (-1) (by omega) (by have := heap_alloc_new (w.alloc (.cells #[.int .i64 mn, .int .i64 tb, .int .i64 pd, .int .u8 ch.toNat, .int .i64 fl] 23)) (.cells #[.slice none 0 0, .int .i64 (-1)] 50); simpa using this) mn tb pd fl ch hmn htb hpd hfl
  have e2 : ((w.alloc (.cells #[.int .i64 mn, .int .i64 tb, .int .i64 pd, .int .u8 ch.toNat, .int .i64 fl] 23)).alloc (.cells #[.slice none 0 0, .int .i64 (-1)] 50)).heap.size = w.heap.size + 2 := by simp
  rw [e2] at hB
  clear e2
  obtain ⟨c, hc⟩ : ∃ c : Cfg, c = ⟨mn, tb, pd, ch, keepFl ch fl, -1⟩ := ⟨_, rfl⟩
  have gnew : Good2 c (St.new []) 0 := Good2.new c (by rw [hc]; exact (by decide : (-1 : Int) < 0)) (by rw [hc]; exact hmn) (by rw [hc]; exact htb) (by rw [hc]; exact hpd)
  rw [← hc] at hB ⊢
  clear hc
  have HB := Lib.hid hB
  have HC := Lib.hid hcells
  clear hB hcells hw
  go_enter Tryd.func15, Tryd.ntmps15
  go_wp2_with (go_at_call 31; (with_reducible refine HB.out.mono ?_); rintro ed w2 ⟨rfl, hr, t⟩; have HR0 := Lib.hid hr; have T0 := Lib.hid (((Tch.alloc _ w _).trans (Tch.alloc _ _ _)).trans t); clear hr t HB)
  obtain ⟨F, hFe⟩ : ∃ F : Nat → Prop, F = fun k => w.heap.size ≤ k := ⟨_, rfl⟩
  rw [← hFe] at HR0 T0
  have hF : ∀ k, w.heap.size ≤ k → F k := fun k hk => by rw [hFe]; exact hk
  have hFn : ∀ k, k < w.heap.size → ¬ F k := fun k hk h => by rw [hFe] at h; exact absurd hk (Nat.not_lt.2 h)
  have HF := Lib.hid hF
  have HFN := Lib.hid hFn
  clear hF hFn hFe
  have hsp : w.heap.size + 1 + 2 = w.heap.size + 3 := rfl
  clear hsp
  generalize w.heap.size + 2 + 1 = B at HR0 ⊢
  have HW1 := Lib.hid (show w.heap.size ≤ w.heap.size + 1 by omega)
  generalize w.heap.size + 1 = S at HR0 HW1 ⊢
  have I0 : IWRel F w B S c bss (.int .i64 0) w2 := ⟨0, Nat.zero_le _, rfl, by simpa using HR0.out, T0.out⟩
  have HI0 := Lib.hid I0
  clear I0
  go_wp2_with fail
  go_loopw [16] (fun t16 wr => IWRel F w B S c bss t16 wr) (fun t16 _ => bss.length - (intOf t16).toNat)
  case atStart => exact HI0.out
  case round =>
    clear HI0 HR0 T0
    obtain ⟨j, hj, rfl, hr, t⟩ := hrel
    have HR := Lib.hid hr
    have T := Lib.hid t
    clear hr t
    have hfl2 := take_flatten_le (bss := bss) j
    have gj := gnew.steps (bss.take j).flatten (by omega)
    rw [Nat.zero_add] at gj
    by_cases hlt : j < bss.length
    · obtain ⟨ad, u, rfl, hsp, hcu, hru⟩ := HC.out j hlt
      obtain ⟨k0, o0, sp0⟩ := ad
      simp only at hsp hcu
      subst hsp
      have hcu2 : wr.cell? ⟨k0, o0 + j, none⟩ = some u := T.out.cell hcu (HFN.out _ (block_lt_of_cell hcu))
      have hru2 : Rw wr u bss[j] := hru.kept T.out (fun hne g hg => HFN.out _ ((hru.rd hne).lt hne hg))
      obtain ⟨au, cu, rfl⟩ : ∃ au cu, u = .slice au bss[j].length cu := hru.shape
      have hfl3 : (bss.take j).flatten.length + bss[j].length ≤ 2400000 := by
        have h1 := take_flatten_le (bss := bss) (j + 1)
        rw [take_flatten hlt, List.length_append] at h1
        omega
      obtain ⟨g, cap, w3, hrun, hg, hc1, hc2, hown, hbel⟩ := run_copy wr hru2 (by omega) 24
      have hF3 : ∀ k, w3.heap.size ≤ k → But F g k := by
        intro k hk
        have h1 := hown.lt (g := g) rfl
        have h2 := T.out.size
        exact ⟨HF.out k (by omega), by omega⟩
      have hR3 : Rep (But F g) w3 B S c ((bss.take j).flatten.foldl (St.step c) (St.new [])) := (HR.out.but g hg).below hbel
      have hcell3 : ∀ i (h : i < bss[j].length), w3.cell? ⟨g, 0 + i, none⟩ = some (bv bss[j][i]) := by
        intro i hi
        obtain ⟨ao, cp, e, _, _, _, _, h5⟩ := (Own.rd hown).val
        obtain ⟨ad, ea, hcc⟩ := h5 i hi
        simp only [Value.slice.injEq] at e
        rw [← e.1] at ea
        cases ea
        exact hcc
      have hN := Write_calls hF3 hR3 gj hcell3 (fun h => h.2 rfl) hc1 hc2 hfl3
      rw [← List.foldl_append, ← take_flatten hlt] at hN
      have HN := Lib.hid hN
      have T3 := Lib.hid (T.out.trans (Tch.of_below hbel))
      have HRUN := Lib.hid hrun
      clear hN hF3 hR3 hcell3 hown hbel hrun hru hru2 hcu
      go_wp2_with (first | (at_builtin; refine wpList_append_eq rfl (.tmp 21) (.tmp 22) 24 rfl rfl rfl HRUN.out ?_) | (go_at_call 32; (with_reducible refine HN.out.mono ?_); rintro ed w4 ⟨rfl, hr, t⟩; have HR4 := Lib.hid hr; have T4 := Lib.hid (T3.out.trans (t.mono (fun k h => h.1))); clear hr t))
      go_roundw
      case rel => exact ⟨j + 1, by omega, rfl, HR4.out.unbut, T4.out⟩
      case measure => simp [intOf]; omega
    · obtain rfl : j = bss.length := by omega
      rw [List.take_length] at HR gj
      have HN := Lib.hid (Flush_calls (fun k hk => HF.out k (Nat.le_trans T.out.size hk)) HR.out gj.toGood)
      go_wp2_with (go_at_call 33; (with_reducible refine HN.out.mono ?_); rintro ed w4 ⟨rfl, hr, t⟩; have HR4 := Lib.hid hr; have T4 := Lib.hid (T.out.trans t); clear hr t; obtain ⟨bufv, lv, wv, ov, vs, hrp⟩ := HR4.out; have cS : w4.cell? ⟨S, 0, none⟩ = some ov := cell_of_blk hrp.parts.sink 0; have HRP := Lib.hid hrp; clear hrp)
      go_ret
      exact ⟨ov, rfl, Own.rd HRP.out.parts.out, T4.out.below (Nat.le_refl _) HFN.out⟩
end
end Go.Proofs.YtaagcdlghoiolaaDoor
