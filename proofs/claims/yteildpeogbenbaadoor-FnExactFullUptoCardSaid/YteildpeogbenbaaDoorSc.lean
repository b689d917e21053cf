/- Walks: the reference's special, passed, breaks. -/
import Derived.Test.YteildpeogbenbaaDoorSb
import Derived.Test.YteildpeogbenbaaDoorPf
namespace Go.Proofs.YteildpeogbenbaaDoor
open Go.RowKit Go.Tw Go.Sort
set_option maxRecDepth 100000

theorem conf_at {w : World} {k : Nat} {a b c d e : Value} {t : TypeId} (h : w.heap[k]? = some (.cells #[a, b, c, d, e] t (0, 0))) : w.cell? ⟨k, 0, none⟩ = some a ∧ w.cell? ⟨k, 1, none⟩ = some b ∧ w.cell? ⟨k, 2, none⟩ = some c ∧ w.cell? ⟨k, 3, none⟩ = some d ∧ w.cell? ⟨k, 4, none⟩ = some e :=
  ⟨cell_of_blk h 0, cell_of_blk h 1, cell_of_blk h 2, cell_of_blk h 3, cell_of_blk h 4⟩

/-- The writer's set-up that a Conf gives. -/
def cfgOf (m t p f : Nat) (ch : UInt8) : Cfg := ⟨m, t, p, ch, keepFl ch f, -1⟩

theorem flag_cfg (f : Fin 64) (m t p : Nat) (ch : UInt8) : ∀ k ∈ ([1, 2, 8, 16, 32] : List Int), (cfgOf m t p f.val ch).flag k = (bits BinOp.and IntKind.i64 ((f.val : Nat) : Int) k != 0) := by
  unfold Cfg.flag cfgOf keepFl
  by_cases h : ch = 9
  · simp only [h, if_true]
    revert f
    decide
  · simp only [h, if_false]
    revert f
    decide
theorem flag_right (f : Fin 64) (m t p : Nat) (ch : UInt8) : (cfgOf m t p f.val ch).flag 4 = ((bits BinOp.and IntKind.i64 ((f.val : Nat) : Int) 4 != 0) && (ch != 9)) := by
  unfold Cfg.flag cfgOf keepFl
  by_cases h : ch = 9
  · simp only [h, if_true]
    revert f
    decide
  · have h9 : (ch != 9) = true := by simpa using h
    simp only [h, if_false, h9, Bool.and_true]
    revert f
    decide

/-- The flags. -/
theorem has_flag (w : World) (m t p f : Nat) (hf : f < 64) (ch : UInt8) (k : Int) (hk : k ∈ ([1, 2, 8, 16, 32] : List Int)) : Calls Tryd.prog 12 #[.agg #[.int .i64 m, .int .i64 t, .int .i64 p, .int .u8 ch.toNat, .int .i64 f], .int .i64 k] w fun e w' => e = .returned (.bool ((cfgOf m t p f ch).flag k)) ∧ Below w.heap.size w w' := by
  rw [flag_cfg ⟨f, hf⟩ m t p ch k hk]
  exact has_calls w m t p f ch k

def spN (c : Cfg) : List UInt8 → Nat
  | [] => 0
  | b :: t => if endOf c b = 0 then 0 else if t.dropWhile (· != endOf c b) = [] then t.length + 1 else (t.takeWhile (· != endOf c b)).length + 2
def spI (c : Cfg) : List UInt8 → Bool
  | [] => false
  | b :: _ => endOf c b != 0
def spW (c : Cfg) : List UInt8 → Bool
  | [] => false
  | b :: t => endOf c b != 0 && !(t.dropWhile (· != endOf c b)).isEmpty

theorem tw_found {e : UInt8} {t : List UInt8} {i : Nat} (hi : i < t.length) (hb : ∀ j (h : j < i), t[j] ≠ e) (he : t[i] = e) : (t.takeWhile (· != e)).length = i ∧ t.dropWhile (· != e) ≠ [] := by
  induction t generalizing i with
  | nil => simp at hi
  | cons x t ih =>
    cases i with
    | zero =>
      simp only [List.getElem_cons_zero] at he
      subst he
      simp
    | succ i =>
      have h0 := hb 0 (by omega)
      simp only [List.getElem_cons_zero] at h0
      have h1 : (x != e) = true := by simpa using h0
      simp only [List.length_cons, List.getElem_cons_succ] at hi he
      obtain ⟨a, b⟩ := ih (i := i) (by omega) (fun j hj => by have := hb (j + 1) (by omega); simpa using this) he
      rw [List.takeWhile_cons, if_pos h1, List.dropWhile_cons, if_pos h1, List.length_cons, a]
      exact ⟨rfl, b⟩
theorem tw_none {e : UInt8} {t : List UInt8} (hb : ∀ j (h : j < t.length), t[j] ≠ e) : t.dropWhile (· != e) = [] := by
  induction t with
  | nil => rfl
  | cons x t ih =>
    have h0 := hb 0 (by simp)
    simp only [List.getElem_cons_zero] at h0
    rw [List.dropWhile_cons, if_pos (by simpa using h0)]
    exact ih (fun j hj => by have := hb (j + 1) (by simp; omega); simpa using this)

def SpPost (w : World) (c : Cfg) (bs : List UInt8) (e : Ending) (w' : World) : Prop := e = .returned (.tuple #[.int .i64 (spN c bs), .bool (spI c bs), .bool (spW c bs)]) ∧ Below w.heap.size w w'
def SpRel (e : UInt8) (L : List UInt8) (t8 : Value) : Prop := ∃ j : Nat, 1 ≤ j ∧ j ≤ L.length ∧ t8 = .int .i64 j ∧ ∀ k (h : k < L.length), 1 ≤ k → k < j → L[k] ≠ e

theorem SpPost.found {w w' : World} {c : Cfg} {b : UInt8} {t : List UInt8} {i : Nat} {e : UInt8} (hb : Below w.heap.size w w') (he : endOf c b = e) (he0 : e ≠ 0) (h1 : 1 ≤ i) (hi : i < (b :: t).length) (h : ∀ k (h : k < (b :: t).length), 1 ≤ k → k < i → (b :: t)[k] ≠ e) (hx : (b :: t)[i] = e) : SpPost w c (b :: t) (.returned (.tuple #[.int .i64 ((i : Int) + 1), .bool true, .bool true])) w' := by
  subst he
  obtain ⟨i, rfl⟩ : ∃ n, i = n + 1 := ⟨i - 1, by omega⟩
  simp only [List.length_cons, List.getElem_cons_succ] at hi hx h
  obtain ⟨a1, a2⟩ := tw_found (i := i) (by omega) (fun j hj => by have := h (j + 1) (by omega) (by omega) (by omega); simpa using this) hx
  refine ⟨?_, hb⟩
  have e1 : spN c (b :: t) = i + 2 := by simp only [spN]; rw [if_neg he0, if_neg a2, a1]
  have e2 : spI c (b :: t) = true := by simp only [spI]; simpa using he0
  have e3 : spW c (b :: t) = true := by
    simp only [spW]
    have h1 : (endOf c b != 0) = true := by simpa using he0
    have h2 : (t.dropWhile (· != endOf c b)).isEmpty = false := by simpa using a2
    rw [h1, h2]; rfl
  rw [e1, e2, e3]
  have e4 : ((i + 1 : Nat) : Int) + 1 = ((i + 2 : Nat) : Int) := by omega
  rw [e4]
theorem SpPost.none {w w' : World} {c : Cfg} {b : UInt8} {t : List UInt8} {e : UInt8} (hb : Below w.heap.size w w') (he : endOf c b = e) (he0 : e ≠ 0) (h : ∀ k (h : k < (b :: t).length), 1 ≤ k → k < (b :: t).length → (b :: t)[k] ≠ e) : SpPost w c (b :: t) (.returned (.tuple #[.int .i64 ((t.length : Int) + 1), .bool true, .bool false])) w' := by
  subst he
  have a2 := tw_none (t := t) (e := endOf c b) (fun j hj => by have := h (j + 1) (by simp; omega) (by omega) (by simp; omega); simpa using this)
  refine ⟨?_, hb⟩
  have e1 : spN c (b :: t) = t.length + 1 := by simp only [spN]; rw [if_neg he0, if_pos a2]
  have e2 : spI c (b :: t) = true := by simp only [spI]; simpa using he0
  have e3 : spW c (b :: t) = false := by simp only [spW]; rw [a2]; simp
  rw [e1, e2, e3]
  have e4 : (t.length : Int) + 1 = ((t.length + 1 : Nat) : Int) := by omega
  rw [e4]
theorem SpPost.no {w w' : World} {c : Cfg} {b : UInt8} {t : List UInt8} (hb : Below w.heap.size w w') (he : endOf c b = 0) : SpPost w c (b :: t) (.returned (.tuple #[.int .i64 0, .bool false, .bool false])) w' := by
  refine ⟨?_, hb⟩
  have e1 : spN c (b :: t) = 0 := by simp only [spN]; rw [if_pos he]
  have e2 : spI c (b :: t) = false := by simp only [spI]; rw [he]; rfl
  have e3 : spW c (b :: t) = false := by simp only [spW]; rw [he]; rfl
  rw [e1, e2, e3]; rfl

set_option maxHeartbeats 4000000 in
theorem special_calls (w : World) (m t p f : Nat) (hf : f < 64) (ch : UInt8) {v : Value} {b : UInt8} {bs : List UInt8} (h : Rd w v (b :: bs)) (hl : bs.length ≤ 1000000000000) :
    Calls Tryd.prog 25 #[.agg #[.int .i64 m, .int .i64 t, .int .i64 p, .int .u8 ch.toNat, .int .i64 f], v] w (SpPost w (cfgOf m t p f ch) (b :: bs)) := by
  obtain ⟨w1, hw1⟩ : ∃ w1, w1 = w.alloc (.cells #[.int .i64 m, .int .i64 t, .int .i64 p, .int .u8 ch.toNat, .int .i64 f] 23) := ⟨_, rfl⟩
  have hb0 : Below w.heap.size w w1 := hw1 ▸ (Below.refl _ w).alloc (Nat.le_refl _) _
  have hr0 := h.below hb0
  have hc0 : w1.heap[w.heap.size]? = some (.cells #[.int .i64 m, .int .i64 t, .int .i64 p, .int .u8 ch.toNat, .int .i64 f] 23 (0, 0)) := hw1 ▸ heap_alloc_new w _
  obtain ⟨d0, d1, d2, d3, d4⟩ := conf_at hc0
  obtain ⟨ao, cp, rfl, h1, h2, h3, h4, h5⟩ := hr0.val
  obtain ⟨ad, rfl, hcc⟩ := h5 0 (by simp)
  have hsp := h4 ad rfl
  obtain ⟨k0, o0, sp⟩ := ad
  simp only at hsp
  subst hsp
  simp only [List.getElem_cons_zero, Nat.add_zero] at hcc
  have hcb : w1.cell? ⟨k0, o0, none⟩ = some (.int .u8 b.toNat) := hcc
  have found : ∀ (w' : World), Below w.heap.size w w' → ∀ (i : Nat) (e : UInt8), endOf (cfgOf m t p f ch) b = e → e ≠ 0 → 1 ≤ i → ∀ hi : i < (b :: bs).length, (∀ k (h : k < (b :: bs).length), 1 ≤ k → k < i → (b :: bs)[k] ≠ e) → (b :: bs)[i] = e → SpPost w (cfgOf m t p f ch) (b :: bs) (.returned (.tuple #[.int .i64 ((i : Int) + 1), .bool true, .bool true])) w' :=
    fun w' hb i e h1 h2 h3 h4 h5 h6 => SpPost.found hb h1 h2 h3 h4 h5 h6
  have none' : ∀ (w' : World), Below w.heap.size w w' → ∀ (e : UInt8), endOf (cfgOf m t p f ch) b = e → e ≠ 0 → (∀ k (h : k < (b :: bs).length), 1 ≤ k → k < (b :: bs).length → (b :: bs)[k] ≠ e) → SpPost w (cfgOf m t p f ch) (b :: bs) (.returned (.tuple #[.int .i64 ((b :: bs).length : Nat), .bool true, .bool false])) w' :=
    fun w' hb e h1 h2 h3 => by have := SpPost.none hb h1 h2 h3; rw [show (((b :: bs).length : Nat) : Int) = (bs.length : Int) + 1 by simp]; exact this
  have no : ∀ (w' : World), Below w.heap.size w w' → endOf (cfgOf m t p f ch) b = 0 → SpPost w (cfgOf m t p f ch) (b :: bs) (.returned (.tuple #[.int .i64 0, .bool false, .bool false])) w' := fun w' hb h => SpPost.no hb h
  have hL1 : 1 ≤ (b :: bs).length := by simp
  have hLl : (b :: bs).length ≤ 1000000000001 := by simp; omega
  obtain ⟨L, hL⟩ : ∃ L, L = b :: bs := ⟨_, rfl⟩
  rw [← hL] at found none' no hL1 hLl h1 h
  rw [← hL]
  clear hL
  have hcells : ∀ w' : World, Below w.heap.size w w' → ∀ j (hj : j < L.length), w'.cell? ⟨k0, o0 + j, none⟩ = some (.int .u8 L[j].toNat) := by
    intro w' hb' j hj
    obtain ⟨ao', cp', e, _, _, _, _, k5⟩ := (h.below hb').val
    obtain ⟨ad, e2, hc⟩ := k5 j hj
    simp only [Value.slice.injEq] at e
    rw [← e.1] at e2
    cases e2
    exact hc
  have HB := Lib.hid hb0
  have HC := Lib.hid hcells
  have FOUND := Lib.hid found
  have NONE := Lib.hid none'
  have NO := Lib.hid no
  have HL1 := Lib.hid hL1
  have HF := Lib.hid (has_flag w1 m t p f hf ch 1 (by simp))
  have HEND := Lib.hid (show ∀ x, endOf (cfgOf m t p f ch) x = if x = 255 then 255 else if x = 60 ∧ (cfgOf m t p f ch).flag 1 = true then 62 else if x = 38 ∧ (cfgOf m t p f ch).flag 1 = true then 59 else 0 from fun _ => rfl)
  obtain ⟨c, hc⟩ : ∃ c, c = cfgOf m t p f ch := ⟨_, rfl⟩
  rw [← hc] at HF HEND NO NONE FOUND ⊢
  rw [hw1] at hcb d0 d1 d2 d3 d4 HF HB
  have hs1 : (w.alloc (.cells #[.int .i64 m, .int .i64 t, .int .i64 p, .int .u8 ch.toNat, .int .i64 f] 23)).heap.size = w.heap.size + 1 := by simp
  have HS1 := Lib.hid hs1
  clear hr0 hb0 hc0 hcells h h3 h4 h5 hcc hc hw1 found none' no hL1 hs1
  unfold maxLen at h2
  by_cases hb : b = 255
  · subst hb
    have HE := Lib.hid (show endOf c 255 = 255 by rw [HEND.out]; simp)
    go_enter Tryd.func25, Tryd.ntmps25
    go_wp2_with fail
    go_loop [8] (fun t8 => SpRel 255 L t8) (fun t8 => L.length - (intOf t8).toNat)
    case atStart => exact ⟨1, Nat.le_refl _, HL1.out, rfl, fun k hk h1 h2 => absurd h2 (Nat.not_lt.2 h1)⟩
    case round =>
      obtain ⟨j, hj1, hj, rfl, hn⟩ := hrel
      have HN := Lib.hid hn
      clear hn
      by_cases hlt : j < L.length
      · have hc1 := HC.out _ HB.out j hlt
        obtain ⟨x, hx⟩ : ∃ x, x = L[j] := ⟨_, rfl⟩
        rw [← hx] at hc1
        have HX := Lib.hid hx
        clear hx
        by_cases he : x = 255
        · subst he
          go_wp2_with fail
          refine bodyPost_ret (v := .tuple #[.int .i64 ((j : Int) + 1), .bool true, .bool true]) (by simp [results, Tryd.results25, go_sem]) rfl ?_
          exact FOUND.out _ HB.out j _ HE.out (by decide) hj1 hlt HN.out HX.out.symm
        · have hb1 : ((x.toNat : Int) == 255) = false := by rw [beq_eq_false_iff_ne]; intro h; exact he (UInt8.toNat_inj.1 (by have h2 : (255 : UInt8).toNat = 255 := rfl; omega))
          have HNE := Lib.hid he
          clear he
          go_wp2_with fail
          go_round
          case rel =>
            refine ⟨j + 1, by omega, by omega, by go_num, fun k hk h1 h2 => ?_⟩
            by_cases hkj : k < j
            · exact HN.out k hk h1 hkj
            · obtain rfl : k = j := by omega
              rw [← HX.out]; exact HNE.out
          case measure => simp [intOf]; omega
      · obtain rfl : j = L.length := by omega
        go_wp2_with fail
        refine bodyPost_ret (v := .tuple #[.int .i64 (L.length : Nat), .bool true, .bool false]) (by simp [results, Tryd.results25, go_sem]) rfl ?_
        exact NONE.out _ HB.out _ HE.out (by decide) HN.out
  · by_cases hb2 : b = 60
    · subst hb2
      obtain ⟨fl, hfl⟩ : ∃ fl, fl = c.flag 1 := ⟨_, rfl⟩
      rw [← hfl] at HF
      have HFL := Lib.hid hfl
      clear hfl
      cases fl
      · have HE := Lib.hid (show endOf c 60 = 0 by rw [HEND.out]; simp [← HFL.out])
        go_enter Tryd.func25, Tryd.ntmps25
        go_wp2_with fail
        refine HF.out.mono ?_
        rintro e w2 ⟨rfl, hb2⟩
        have HB2 := Lib.hid (HB.out.trans (hb2.mono (by rw [HS1.out]; omega)))
        have hc2 := (hb2.cell (p := ⟨k0, o0, none⟩) (block_lt_of_cell hcb)).trans hcb
        clear hb2 HF hcb
        go_wp2_with fail
        refine bodyPost_ret (v := .tuple #[.int .i64 0, .bool false, .bool false]) (by simp [results, Tryd.results25, go_sem]) rfl ?_
        exact NO.out _ HB2.out HE.out
      · have HE := Lib.hid (show endOf c 60 = 62 by rw [HEND.out]; simp [← HFL.out])
        go_enter Tryd.func25, Tryd.ntmps25
        go_wp2_with fail
        refine HF.out.mono ?_
        rintro e w2 ⟨rfl, hb2⟩
        have HB2 := Lib.hid (HB.out.trans (hb2.mono (by rw [HS1.out]; omega)))
        clear hb2 HF hcb
        go_wp2_with fail
        go_loop [8] (fun t8 => SpRel 62 L t8) (fun t8 => L.length - (intOf t8).toNat)
        case atStart => exact ⟨1, Nat.le_refl _, HL1.out, rfl, fun k hk h1 h2 => absurd h2 (Nat.not_lt.2 h1)⟩
        case round =>
          obtain ⟨j, hj1, hj, rfl, hn⟩ := hrel
          have HN := Lib.hid hn
          clear hn
          by_cases hlt : j < L.length
          · have hc1 := HC.out _ HB2.out j hlt
            obtain ⟨x, hx⟩ : ∃ x, x = L[j] := ⟨_, rfl⟩
            rw [← hx] at hc1
            have HX := Lib.hid hx
            clear hx
            by_cases he : x = 62
            · subst he
              go_wp2_with fail
              refine bodyPost_ret (v := .tuple #[.int .i64 ((j : Int) + 1), .bool true, .bool true]) (by simp [results, Tryd.results25, go_sem]) rfl ?_
              exact FOUND.out _ HB2.out j _ HE.out (by decide) hj1 hlt HN.out HX.out.symm
            · have hb1 : ((x.toNat : Int) == 62) = false := by rw [beq_eq_false_iff_ne]; intro h; exact he (UInt8.toNat_inj.1 (by have h2 : (62 : UInt8).toNat = 62 := rfl; omega))
              have HNE := Lib.hid he
              clear he
              go_wp2_with fail
              go_round
              case rel =>
                refine ⟨j + 1, by omega, by omega, by go_num, fun k hk h1 h2 => ?_⟩
                by_cases hkj : k < j
                · exact HN.out k hk h1 hkj
                · obtain rfl : k = j := by omega
                  rw [← HX.out]; exact HNE.out
              case measure => simp [intOf]; omega
          · obtain rfl : j = L.length := by omega
            go_wp2_with fail
            refine bodyPost_ret (v := .tuple #[.int .i64 (L.length : Nat), .bool true, .bool false]) (by simp [results, Tryd.results25, go_sem]) rfl ?_
            exact NONE.out _ HB2.out _ HE.out (by decide) HN.out
    · by_cases hb3 : b = 38
      · subst hb3
        obtain ⟨fl, hfl⟩ : ∃ fl, fl = c.flag 1 := ⟨_, rfl⟩
        rw [← hfl] at HF
        have HFL := Lib.hid hfl
        clear hfl
        cases fl
        · have HE := Lib.hid (show endOf c 38 = 0 by rw [HEND.out]; simp [← HFL.out])
          go_enter Tryd.func25, Tryd.ntmps25
          go_wp2_with fail
          refine HF.out.mono ?_
          rintro e w2 ⟨rfl, hb2⟩
          have HB2 := Lib.hid (HB.out.trans (hb2.mono (by rw [HS1.out]; omega)))
          clear hb2 HF hcb
          go_wp2_with fail
          refine bodyPost_ret (v := .tuple #[.int .i64 0, .bool false, .bool false]) (by simp [results, Tryd.results25, go_sem]) rfl ?_
          exact NO.out _ HB2.out HE.out
        · have HE := Lib.hid (show endOf c 38 = 59 by rw [HEND.out]; simp [← HFL.out])
          go_enter Tryd.func25, Tryd.ntmps25
          go_wp2_with fail
          refine HF.out.mono ?_
          rintro e w2 ⟨rfl, hb2⟩
          have HB2 := Lib.hid (HB.out.trans (hb2.mono (by rw [HS1.out]; omega)))
          clear hb2 HF hcb
          go_wp2_with fail
          go_loop [8] (fun t8 => SpRel 59 L t8) (fun t8 => L.length - (intOf t8).toNat)
          case atStart => exact ⟨1, Nat.le_refl _, HL1.out, rfl, fun k hk h1 h2 => absurd h2 (Nat.not_lt.2 h1)⟩
          case round =>
            obtain ⟨j, hj1, hj, rfl, hn⟩ := hrel
            have HN := Lib.hid hn
            clear hn
            by_cases hlt : j < L.length
            · have hc1 := HC.out _ HB2.out j hlt
              obtain ⟨x, hx⟩ : ∃ x, x = L[j] := ⟨_, rfl⟩
              rw [← hx] at hc1
              have HX := Lib.hid hx
              clear hx
              by_cases he : x = 59
              · subst he
                go_wp2_with fail
                refine bodyPost_ret (v := .tuple #[.int .i64 ((j : Int) + 1), .bool true, .bool true]) (by simp [results, Tryd.results25, go_sem]) rfl ?_
                exact FOUND.out _ HB2.out j _ HE.out (by decide) hj1 hlt HN.out HX.out.symm
              · have hb1 : ((x.toNat : Int) == 59) = false := by rw [beq_eq_false_iff_ne]; intro h; exact he (UInt8.toNat_inj.1 (by have h2 : (59 : UInt8).toNat = 59 := rfl; omega))
                have HNE := Lib.hid he
                clear he
                go_wp2_with fail
                go_round
                case rel =>
                  refine ⟨j + 1, by omega, by omega, by go_num, fun k hk h1 h2 => ?_⟩
                  by_cases hkj : k < j
                  · exact HN.out k hk h1 hkj
                  · obtain rfl : k = j := by omega
                    rw [← HX.out]; exact HNE.out
                case measure => simp [intOf]; omega
            · obtain rfl : j = L.length := by omega
              go_wp2_with fail
              refine bodyPost_ret (v := .tuple #[.int .i64 (L.length : Nat), .bool true, .bool false]) (by simp [results, Tryd.results25, go_sem]) rfl ?_
              exact NONE.out _ HB2.out _ HE.out (by decide) HN.out
      · have HE := Lib.hid (show endOf c b = 0 by rw [HEND.out, if_neg hb, if_neg (fun h => hb2 h.1), if_neg (fun h => hb3 h.1)])
        have n1 : ((b.toNat : Int) == 255) = false := by rw [beq_eq_false_iff_ne]; intro h; exact hb (UInt8.toNat_inj.1 (by have h2 : (255 : UInt8).toNat = 255 := rfl; omega))
        have n2 : ((b.toNat : Int) == 60) = false := by rw [beq_eq_false_iff_ne]; intro h; exact hb2 (UInt8.toNat_inj.1 (by have h2 : (60 : UInt8).toNat = 60 := rfl; omega))
        have n3 : ((b.toNat : Int) == 38) = false := by rw [beq_eq_false_iff_ne]; intro h; exact hb3 (UInt8.toNat_inj.1 (by have h2 : (38 : UInt8).toNat = 38 := rfl; omega))
        clear hb hb2 hb3
        go_enter Tryd.func25, Tryd.ntmps25
        go_wp2_with fail
        refine bodyPost_ret (v := .tuple #[.int .i64 0, .bool false, .bool false]) (by simp [results, Tryd.results25, go_sem]) rfl ?_
        exact NO.out _ HB.out HE.out
end Go.Proofs.YteildpeogbenbaaDoor
