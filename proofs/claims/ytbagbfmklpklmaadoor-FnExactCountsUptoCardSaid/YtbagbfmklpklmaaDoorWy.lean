/- Walks: impl.Counts. -/
import Derived.Test.YtbagbfmklpklmaaDoorSb
namespace Go.Proofs.YtbagbfmklpklmaaDoor
open Go.RowKit Go.Tw Go.Sort
set_option maxRecDepth 100000

/-- F, but for the block that a slice owns. -/
def Off (F : Nat → Prop) (v : Value) (k : Nat) : Prop := F k ∧ v.ownBlock ≠ some k

section
variable {F : Nat → Prop} {w : World} {B S : Nat} {c : Cfg} {s : St}

/-- One number is appended to an owned row. -/
theorem run_append_int {v : Value} {n : Nat} {xs : List Value} (hF : ∀ k, w.heap.size ≤ k → F k) (h : Own F w 3 1 v n xs) (b : Nat) (hn : n ≤ 1000000000000) (ty : TypeId) :
    ∃ v' w', (Builtin.append_ #[38, 38] ty #[v, .slice (some ⟨w.heap.size, 0, none⟩) 1 1]).run Tryd.prog (w.alloc (.cells #[.int .i64 b] 3)) = .ok v' w' ∧ Own F w' 3 1 v' (n + 1) (xs ++ [.int .i64 b]) ∧ Tch (fun k => v.ownBlock = some k) w w' ∧ (∀ g, v'.ownBlock = some g → v.ownBlock = some g ∨ w.heap.size < g) := by
  obtain ⟨i0, hi, hz0, hz1, hz2⟩ := info_parts Tryd.info_int
  have h0 := h.kept (Tch.alloc (fun _ => False) w (.cells #[.int .i64 b] 3)) (fun _ _ => id)
  obtain ⟨v', w', hr, ho, hg, hblk, _⟩ := run_append_Own (P := Tryd.prog) (w.alloc (.cells #[.int .i64 b] 3)) F 38 ty 3 i0 (.int .i64 0) 1 8 Tryd.underlying38 hi hz0 hz1 hz2 rfl (by decide) v n xs h0 ⟨w.heap.size, 0, none⟩ 1 1 [.int .i64 b] rfl (fun j u hj => by
      match j, hj with
      | 0, hj => simp at hj; subst hj; exact cell_of_blk (heap_alloc_new w _) 0) (by simp [Value.oneCell']) (by unfold maxLen; omega) (by omega) (fun k hk => hF k (by simp at hk; omega))
  refine ⟨v', w', hr, ho, (Tch.alloc _ w _).trans (Tch.grown hg (fun k e => e)), fun g hg => ?_⟩
  rcases hblk g hg with h | h
  · exact .inl h
  · right; simp at h; omega
theorem count_round {g : Nat} {t8 : Value} {n : Nat} {xs : List Value} (hr : Rep (But (Off F t8) g) w B S c s) (ho : Own F w 3 1 t8 n xs) (hF : ∀ k, w.heap.size ≤ k → F k) (b : Nat) (hn : n ≤ 1000000000000) :
    ∃ v' w', (Builtin.append_ #[38, 38] 38 #[t8, .slice (some ⟨w.heap.size, 0, none⟩) 1 1]).run Tryd.prog (w.alloc (.cells #[.int .i64 b] 3)) = .ok v' w' ∧ Rep (Off F v') w' B S c s ∧ Own F w' 3 1 v' (n + 1) (xs ++ [.int .i64 b]) ∧ Tch F w w' := by
  obtain ⟨v', w', h1, h2, h3, h4⟩ := run_append_int hF ho b hn 38
  refine ⟨v', w', h1, ?_, h2, h3.mono (fun k e => ho.mem k e)⟩
  have a1 : Rep (fun k => Off F t8 k ∧ Off F v' k) w B S c s := hr.mono (fun k hk h => ⟨h.1, h.1.1, fun e => by
    rcases h4 k e with h5 | h5
    · exact h.1.2 h5
    · omega⟩)
  exact (a1.kept h3 (fun k _ hk => hk.1.2)).mono (fun k _ h => h.2)

/-- The loop over the writes that are counted. -/
def ICRel (F : Nat → Prop) (w : World) (B S : Nat) (c : Cfg) (bss : List (List UInt8)) (t8 t9 t21 : Value) (wr : World) : Prop :=
  ∃ (j : Nat) (v8 : Value), v8 = t8 ∧ j ≤ bss.length ∧ t21 = .int .i64 j ∧ t9 = .int .i64 0 ∧ Rep (Off F v8) wr B S c ((bss.take j).flatten.foldl (St.step c) (St.new [])) ∧ Own F wr 3 1 v8 j (ivs ((bss.take j).map List.length)) ∧ Tch F w wr
def CtPost (w : World) (bss : List (List UInt8)) (e : Ending) (w' : World) : Prop :=
  ∃ v, e = .returned (.tuple #[v, .int .i64 0]) ∧ Own (New w) w' 3 1 v bss.length (ivs (bss.map List.length)) ∧ Below w.heap.size w w'

set_option maxHeartbeats 2000000 in
theorem implCounts_calls (mn tb pd fl : Nat) (ch : UInt8) (hmn : mn ≤ 1000) (htb : tb ≤ 1000) (hpd : pd ≤ 1000) (hfl : fl < 64) {v : Value} {bss : List (List UInt8)} (hw : Wrs w v bss) (hb : bss.flatten.length ≤ 1000000) (hbn : bss.length ≤ 1000000000) :
    Calls Tryd.prog 23 #[.agg #[.int .i64 mn, .int .i64 tb, .int .i64 pd, .int .u8 ch.toNat, .int .i64 fl], v] w (CtPost w bss) := by
  obtain ⟨ao, cp, rfl, hbl, hcells⟩ := hw.val
  have hB := begin_calls (F := fun k => w.heap.size ≤ k) (S := w.heap.size + 1) (w := (w.alloc (.cells #[.int .i64 mn, .int .i64 tb, .int .i64 pd, .int .u8 ch.toNat, .int .i64 fl] 23)).alloc (.cells #[.slice none 0 0, .int .i64 (-1)] 43)) (fun k hk => by simp at hk; omega) (-1) (by omega) (by have := heap_alloc_new (w.alloc (.cells #[.int .i64 mn, .int .i64 tb, .int .i64 pd, .int .u8 ch.toNat, .int .i64 fl] 23)) (.cells #[.slice none 0 0, .int .i64 (-1)] 43); simpa using this) mn tb pd fl ch hmn htb hpd hfl
  have e2 : ((w.alloc (.cells #[.int .i64 mn, .int .i64 tb, .int .i64 pd, .int .u8 ch.toNat, .int .i64 fl] 23)).alloc (.cells #[.slice none 0 0, .int .i64 (-1)] 43)).heap.size = w.heap.size + 2 := by simp
  rw [e2] at hB
  clear e2
  obtain ⟨c, hc⟩ : ∃ c : Cfg, c = ⟨mn, tb, pd, ch, keepFl ch fl, -1⟩ := ⟨_, rfl⟩
  have gnew : Good2 c (St.new []) 0 := Good2.new c (by rw [hc]; exact (by decide : (-1 : Int) < 0)) (by rw [hc]; exact hmn) (by rw [hc]; exact htb) (by rw [hc]; exact hpd)
  rw [← hc] at hB
  clear hc
  have HB := Lib.hid hB
  have HC := Lib.hid hcells
  clear hB hcells hw
  go_enter Tryd.func23, Tryd.ntmps23
  go_wp2_with (go_at_call 24; (with_reducible refine HB.out.mono ?_); rintro ed w2 ⟨rfl, hr, t⟩; have HR0 := Lib.hid hr; have T0 := Lib.hid (((Tch.alloc _ w _).trans (Tch.alloc _ _ _)).trans t); clear hr t HB)
  obtain ⟨F, hFe⟩ : ∃ F : Nat → Prop, F = fun k => w.heap.size ≤ k := ⟨_, rfl⟩
  rw [← hFe] at HR0 T0
  have hF : ∀ k, w.heap.size ≤ k → F k := fun k hk => by rw [hFe]; exact hk
  have HFG := Lib.hid (show ∀ k, F k → New w k by intro k h; rw [hFe] at h; exact h)
  have hFn : ∀ k, k < w.heap.size → ¬ F k := fun k hk h => by rw [hFe] at h; exact absurd hk (Nat.not_lt.2 h)
  have HF := Lib.hid hF
  have HFN := Lib.hid hFn
  clear hF hFn hFe
  have hsp : w.heap.size + 1 + 2 = w.heap.size + 3 := rfl
  clear hsp
  generalize w.heap.size + 2 + 1 = B at HR0 ⊢
  have HW1 := Lib.hid (show w.heap.size ≤ w.heap.size + 1 by omega)
  generalize w.heap.size + 1 = S at HR0 HW1 ⊢
  have I0 : ICRel F w B S c bss (.slice none 0 0) (.int .i64 0) (.int .i64 0) w2 := ⟨0, _, rfl, Nat.zero_le _, rfl, rfl, by simpa using HR0.out.mono (fun k _ h => ⟨h, by simp [Value.ownBlock]⟩), Own.nil _ _ _ _, T0.out⟩
  have HI0 := Lib.hid I0
  clear I0
  go_wp2_with fail
  go_loopw [8, 9, 21] (fun t8 t9 t21 wr => ICRel F w B S c bss t8 t9 t21 wr) (fun _ _ t21 _ => bss.length - (intOf t21).toNat)
  case atStart => exact HI0.out
  case round =>
    clear HI0 HR0 T0
    obtain ⟨j, v8, rfl, hj, rfl, rfl, hr, hown, t⟩ := hrel
    have HR := Lib.hid hr
    have T := Lib.hid t
    have HO := Lib.hid hown
    clear hr t hown
    have hfl2 := take_flatten_le (bss := bss) j
    have gj := gnew.steps (bss.take j).flatten (by omega)
    rw [Nat.zero_add] at gj
    by_cases hlt : j < bss.length
    · obtain ⟨ad, u, rfl, hsp, hcu, hru⟩ := HC.out j hlt
      obtain ⟨k0, o0, sp0⟩ := ad
      simp only at hsp hcu
      subst hsp
      have hcu2 : wr.cell? ⟨k0, o0 + j, none⟩ = some u := T.out.cell hcu (HFN.out _ (block_lt_of_cell hcu))
      have hru2 : Rw wr u bss[j] := hru.kept T.out (fun hne g hg => HFN.out _ ((hru.rd hne).lt hne hg))
      obtain ⟨au, cu, rfl⟩ : ∃ au cu, u = .slice au bss[j].length cu := hru.shape
      have hfl3 : (bss.take j).flatten.length + bss[j].length ≤ 1000000 := by
        have h1 := take_flatten_le (bss := bss) (j + 1)
        rw [take_flatten hlt, List.length_append] at h1
        omega
      obtain ⟨g, cap, w3, hrun, hg, hc1, hc2, hown, hbel⟩ := run_copy wr hru2 (by omega) 26
      have hF3 : ∀ k, w3.heap.size ≤ k → But (Off F v8) g k := by
        intro k hk
        have h1 := hown.lt (g := g) rfl
        have h2 := T.out.size
        have h3 := hbel.size
        refine ⟨⟨HF.out k (by omega), fun e => ?_⟩, by omega⟩
        have := HO.out.lt e
        omega
      have hR3 : Rep (But (Off F v8) g) w3 B S c ((bss.take j).flatten.foldl (St.step c) (St.new [])) := (HR.out.but g hg).below hbel
      have hcell3 : ∀ i (h : i < bss[j].length), w3.cell? ⟨g, 0 + i, none⟩ = some (bv bss[j][i]) := by
        intro i hi
        obtain ⟨ao, cp, e, _, _, _, _, h5⟩ := (Own.rd hown).val
        obtain ⟨ad, ea, hcc⟩ := h5 i hi
        simp only [Value.slice.injEq] at e
        rw [← e.1] at ea
        cases ea
        exact hcc
      have hO3 : Own F w3 3 1 v8 j (ivs ((bss.take j).map List.length)) := HO.out.kept (Tch.of_below (F := fun _ => False) hbel) (fun _ _ => id)
      have HO3 := Lib.hid hO3
      have hN := Write_calls hF3 hR3 gj hcell3 (fun h => h.2 rfl) hc1 hc2 hfl3
      rw [← List.foldl_append, ← take_flatten hlt] at hN
      have HN := Lib.hid hN
      have T3 := Lib.hid (T.out.trans (Tch.of_below hbel))
      have HRUN := Lib.hid hrun
      have HSZ3 := Lib.hid (show w.heap.size ≤ w3.heap.size from T3.out.size)
      clear hN hF3 hR3 hcell3 hown hbel hrun hru hru2 hcu hO3
      go_wp2_with (first | (at_builtin; refine wpList_append_eq rfl (.tmp 27) (.tmp 28) 26 rfl rfl rfl HRUN.out ?_) | (go_at_call 25; (with_reducible refine HN.out.mono ?_); rintro ed w4 ⟨rfl, hr, t⟩; have HR4 := Lib.hid hr; have HO4 := Lib.hid (HO3.out.kept t (fun g e h => h.1.2 e)); have T4 := Lib.hid (T3.out.trans (t.mono (fun k h => h.1.1))); clear hr t; have HA := Lib.hid (count_round HR4.out HO4.out (fun k hk => HF.out k (Nat.le_trans T4.out.size hk)) bss[j].length (by omega)); obtain ⟨v5, w5, hrun5, hr5, ho5, t5⟩ := HA.out; have HRUN5 := Lib.hid hrun5; have HR5 := Lib.hid hr5; have HO5 := Lib.hid ho5; have T5 := Lib.hid (T4.out.trans t5); clear hrun5 hr5 ho5 t5 HA HR4 HO4 T4 HN T3 HO3) | (at_builtin; refine wpList_append_eq rfl (.tmp 33) (.tmp 35) 38 rfl rfl rfl HRUN5.out ?_))
      go_roundw
      case rel =>
        have R : ICRel F w B S c bss v5 (.int .i64 0) (.int .i64 ((j : Int) + 1)) w5 := ⟨j + 1, _, rfl, by omega, by go_num, rfl, HR5.out, by rw [show ivs ((bss.take (j + 1)).map List.length) = ivs ((bss.take j).map List.length) ++ [.int .i64 bss[j].length] by rw [List.take_succ_eq_append_getElem hlt, List.map_append]; simp [ivs]]; exact HO5.out, T5.out⟩
        first | exact R | ((repeat apply Exists.intro); exact ⟨R, rfl⟩)
      case measure => simp [intOf]; omega
    · obtain rfl : j = bss.length := by omega
      rw [List.take_length] at HR gj HO
      have HN := Lib.hid (Flush_calls (fun k hk => (show Off F v8 k from ⟨HF.out k (Nat.le_trans T.out.size hk), fun e => by have := HO.out.lt e; omega⟩)) HR.out gj.toGood)
      go_wp2_with (go_at_call 26; (with_reducible refine HN.out.mono ?_); rintro ed w4 ⟨rfl, hr, t⟩; have HO4 := Lib.hid (HO.out.kept t (fun g e h => h.2 e)); have T4 := Lib.hid (T.out.trans (t.mono (fun k h => h.1))); clear hr t)
      refine bodyPost_ret (v := .tuple #[v8, .int .i64 0]) (by simp [results, Tryd.results23, go_sem]) rfl ?_
      exact ⟨_, rfl, HO4.out.mono (fun k _ h => HFG.out k h), T4.out.below (Nat.le_refl _) HFN.out⟩
end
end Go.Proofs.YtbagbfmklpklmaaDoor
