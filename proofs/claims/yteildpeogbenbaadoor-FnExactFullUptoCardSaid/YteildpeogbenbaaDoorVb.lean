/- Walks: utf8.Valid of a slice of bytes: it returns a bool, and nothing old turns. -/
import Derived.Test.YteildpeogbenbaaDoorVa
import Derived.Shelf.Unicode.DecodeSlow
namespace Go.Proofs.YteildpeogbenbaaDoor
open Go.RowKit Go.Tw
set_option maxRecDepth 100000

def lenOf : Value → Nat
  | .slice _ n _ => n
  | _ => 0
/-- The loop of utf8.Valid. -/
def VRel (w : World) (t0 : Value) (wx : World) : Prop :=
  Below w.heap.size w wx ∧ ((∃ a, t0 = .slice a 0 0) ∨ ∃ k o n X, 0 < n ∧ n ≤ 1000000000000 ∧ t0 = .slice (some ⟨k, o, none⟩) n n ∧ At wx k o n X)
def VPost (w : World) (e : Ending) (w' : World) : Prop := (∃ b : Bool, e = .returned (.bool b)) ∧ Below w.heap.size w w'
theorem VRel.some {w wx : World} {k o n : Nat} {X : Nat → UInt8} (hb : Below w.heap.size w wx) (hn : n ≤ 1000000000000) (h : At wx k o n X) : VRel w (.slice (some ⟨k, o, none⟩) n n) wx := by
  refine ⟨hb, ?_⟩
  rcases Nat.eq_zero_or_pos n with rfl | h0
  · exact .inl ⟨_, rfl⟩
  · exact .inr ⟨k, o, n, X, h0, hn, rfl, h⟩

theorem and7b : ∀ X : Fin 256, bits .and .u8 ((X.val : Nat) : Int) 7 = ((X.val % 8 : Nat) : Int) := by decide

set_option maxHeartbeats 16000000 in
theorem utf8valid_calls (w : World) {v : Value} {bs : List UInt8} (h : Rd w v bs) (hT : Lib.Utf8Tabs 1 2 w) (hl : bs.length ≤ 1000000000000) :
    Calls Tryd.prog 27 #[v] w (VPost w) := by
  have mixed : Tryd.prog.follows Departure.mixedOrders = true := by kernel_rfl
  obtain ⟨ao, cp, rfl, h1, h2, h3, h4, h5⟩ := h.val
  have hst : VRel w (.slice ao bs.length bs.length) w := by
    cases bs with
    | nil => exact ⟨Below.refl _ _, .inl ⟨_, rfl⟩⟩
    | cons b t =>
      obtain ⟨ad, rfl, -⟩ := h5 0 (by simp)
      have hsp := h4 ad rfl
      obtain ⟨k, o, sp⟩ := ad
      simp only at hsp
      subst hsp
      refine VRel.some (X := fun j => (b :: t).getD j 0) (Below.refl _ _) hl (fun j hj => ?_)
      obtain ⟨ad, e, hc⟩ := h5 j hj
      cases e
      have hg : (b :: t).getD j 0 = (b :: t)[j] := by rw [List.getD_eq_getElem?_getD, List.getElem?_eq_getElem hj, Option.getD_some]
      rw [hc, ← hg]
      rfl
  have HST := Lib.hid hst
  have HT := Lib.hid hT
  clear hst hT h h3 h4 h5
  unfold maxLen at h2
  go_enter Tryd.func27, Tryd.ntmps27
  go_wp2_with fail
  go_loopw [0] (fun t0 wx => VRel w t0 wx) (fun t0 _ => lenOf t0)
  case atStart => exact HST.out
  case round =>
    clear HST h1 h2
    obtain ⟨hbw, ⟨a, rfl⟩ | ⟨k, o, n, X, h0, hnl, rfl, hat⟩⟩ := hrel
    · go_wp2_with fail
      go_ret
      exact ⟨⟨_, rfl⟩, hbw⟩
    have hTr : Lib.Utf8Tabs 1 2 wr := Utf8Tabs_below HT.out hbw
    have c0 : wr.cell? ⟨k, o, none⟩ = some (.int .u8 (X 0).toNat) := hat 0 h0
    have hnz : (0 : Int) < (n : Int) := by omega
    have HAT := Lib.hid hat
    have HBW := Lib.hid hbw
    clear hat hbw
    by_cases hasc : (X 0).toNat < 128
    · as_aux_lemma =>
        have hascz : ((X 0).toNat : Int) < 128 := by omega
        clear hTr
        by_cases n1 : n = 1
        · subst n1
          go_wp2_with fail
          go_roundw
          case rel => exact ⟨HBW.out, .inl ⟨_, rfl⟩⟩
          case measure => simp [lenOf]
        · have hA1 := HAT.out.drop 1
          by_cases c8 : 8 < n - 1
          · have c8z : (8 : Int) < (n : Int) - 1 := by omega
            have HW1 := Lib.hid (word_at hA1 (by omega))
            obtain ⟨A1, hA1z⟩ : ∃ A1, wz (fun j => X (1 + j)) = A1 := ⟨_, rfl⟩
            rw [hA1z] at HW1
            go_wp2_with fail
            refine HW1.out.mono ?_
            rintro e w1 ⟨rfl, q1, rfl⟩
            cases hz1 : (bits BinOp.and IntKind.u64 (A1 : Int) 9259542123273814144 == 0) with
            | false =>
              go_wp2_with fail
              go_roundw
              case rel => exact VRel.some (below_drewN HBW.out q1) (by omega) (hA1.below (below_drewN (Below.refl _ _) q1))
              case measure => simp [lenOf]; omega
            | true =>
              have hA2 := (hA1.drop 8).below (below_drewN (Below.refl wr.heap.size wr) q1)
              have hB2 := below_drewN HBW.out q1
              revert hA2 hB2
              generalize wr.drewN q1 = wq
              intro hA2 hB2
              have HA2 := Lib.hid hA2
              have HB2 := Lib.hid hB2
              clear hA2 hB2 hA1 HW1 hA1z
              go_wp2_with fail
              clear hz1
              have HM := Lib.hid (show n - 1 - 8 < n by omega)
              revert HA2 HM
              generalize hY : (fun j => X (1 + (8 + j))) = Y
              generalize n - 1 - 8 = m
              generalize o + 1 + 8 = o2
              intro HA2 HM
              clear hY
              by_cases c16 : 16 < m
              · have c16z : (16 : Int) < ((m : Nat) : Int) := by omega
                have s8z : (8 : Int) ≤ ((m : Nat) : Int) := by omega
                obtain ⟨A2, hA2z⟩ : ∃ A2, wz Y = A2 := ⟨_, rfl⟩
                obtain ⟨A3, hA3z⟩ : ∃ A3, wz (fun j => Y (8 + j)) = A3 := ⟨_, rfl⟩
                have cW2 : ∀ q, Calls Tryd.prog 48 #[.slice (some ⟨k, o2, none⟩) (m) (m)] (wq.drewN q) fun e w' => e = .returned (.int .u64 A2) ∧ ∃ m, w' = (wq.drewN q).drewN m := fun q => by
                  rw [← hA2z]; exact word_at (HA2.out.below (below_drewN (Below.refl _ _) q)) (by omega)
                have cW3 : ∀ q, Calls Tryd.prog 48 #[.slice (some ⟨k, o2 + 8, none⟩) (m - 8) (m - 8)] (wq.drewN q) fun e w' => e = .returned (.int .u64 A3) ∧ ∃ m, w' = (wq.drewN q).drewN m := fun q => by
                  rw [← hA3z]; exact word_at ((HA2.out.drop 8).below (below_drewN (Below.refl _ _) q)) (by omega)
                clear hA2z hA3z
                cases hz2 : (bits BinOp.and IntKind.u64 (bits BinOp.or IntKind.u64 (A2 : Int) (A3 : Int)) 9259542123273814144 == 0) with
                | false =>
                  go_big_quiet_o (first | (go_at_call 48; with_reducible refine Calls.quiet_of (cW2 _)) | (go_at_call 48; with_reducible refine Calls.quiet_of (cW3 _)))
                  go_wp2_with fail
                  go_roundw
                  case rel => exact VRel.some (below_drewN HB2.out nq) (by have := HM.out; omega) (HA2.out.below (below_drewN (Below.refl _ _) nq))
                  case measure => have := HM.out; simp [lenOf]; omega
                | true =>
                  go_big_quiet_o (first | (go_at_call 48; with_reducible refine Calls.quiet_of (cW2 _)) | (go_at_call 48; with_reducible refine Calls.quiet_of (cW3 _)))
                  have hA3 := (HA2.out.drop 16).below (below_drewN (Below.refl wq.heap.size wq) nq)
                  have hB3 := below_drewN HB2.out nq
                  revert hA3 hB3
                  generalize wq.drewN nq = wq3
                  intro hA3 hB3
                  have HS3 := Lib.hid (show VRel w (.slice (some ⟨k, o2 + 16, none⟩) (m - 16) (m - 16)) wq3 from VRel.some hB3 (by have := HM.out; omega) hA3)
                  clear hA3 hB3 cW2 cW3 hz2 HA2 HB2 HAT HBW
                  go_wp2_with fail
                  go_loopw [0] (fun t0 wx => VRel w t0 wx ∧ lenOf t0 ≤ m) (fun t0 _ => lenOf t0)
                  case atStart => exact ⟨HS3.out, by simp [lenOf]⟩
                  case round =>
                    clear HS3
                    obtain ⟨⟨hbu, ⟨a5, rfl⟩ | ⟨k5, o5, n5, X5, h05, hn5, rfl, hat5⟩⟩, hle⟩ := hrel
                    · have c32b : decide ((32 : Int) < 0) = false := rfl
                      go_wp2_with fail
                      go_big_quiet_o (fail)
                      go_wp2_with fail
                      go_roundw
                      case rel => exact ⟨below_drewN hbu nq, .inl ⟨_, rfl⟩⟩
                      case measure => simp [lenOf]; omega
                    · have hle5 : n5 ≤ m := hle
                      clear hle
                      by_cases c32 : 32 < n5
                      · have c32z : (32 : Int) < (n5 : Int) := by omega
                        have s8u : (8 : Int) ≤ (n5 : Int) := by omega
                        have s16u : (16 : Int) ≤ (n5 : Int) := by omega
                        have s24u : (24 : Int) ≤ (n5 : Int) := by omega
                        have HA5 := Lib.hid hat5
                        have HB5 := Lib.hid hbu
                        clear hat5 hbu
                        obtain ⟨B0, hB0⟩ : ∃ B0, wz X5 = B0 := ⟨_, rfl⟩
                        obtain ⟨B1, hB1⟩ : ∃ B1, wz (fun j => X5 (8 + j)) = B1 := ⟨_, rfl⟩
                        obtain ⟨B2, hB2⟩ : ∃ B2, wz (fun j => X5 (16 + j)) = B2 := ⟨_, rfl⟩
                        obtain ⟨B3, hB3⟩ : ∃ B3, wz (fun j => X5 (24 + j)) = B3 := ⟨_, rfl⟩
                        have cB0 : ∀ q, Calls Tryd.prog 48 #[.slice (some ⟨k5, o5, none⟩) n5 n5] (wr.drewN q) fun e w' => e = .returned (.int .u64 B0) ∧ ∃ m, w' = (wr.drewN q).drewN m := fun q => by
                          rw [← hB0]; exact word_at (HA5.out.below (below_drewN (Below.refl _ _) q)) (by omega)
                        have cB1 : ∀ q, Calls Tryd.prog 48 #[.slice (some ⟨k5, o5 + 8, none⟩) (n5 - 8) (n5 - 8)] (wr.drewN q) fun e w' => e = .returned (.int .u64 B1) ∧ ∃ m, w' = (wr.drewN q).drewN m := fun q => by
                          rw [← hB1]; exact word_at ((HA5.out.drop 8).below (below_drewN (Below.refl _ _) q)) (by omega)
                        have cB2 : ∀ q, Calls Tryd.prog 48 #[.slice (some ⟨k5, o5 + 16, none⟩) (n5 - 16) (n5 - 16)] (wr.drewN q) fun e w' => e = .returned (.int .u64 B2) ∧ ∃ m, w' = (wr.drewN q).drewN m := fun q => by
                          rw [← hB2]; exact word_at ((HA5.out.drop 16).below (below_drewN (Below.refl _ _) q)) (by omega)
                        have cB3 : ∀ q, Calls Tryd.prog 48 #[.slice (some ⟨k5, o5 + 24, none⟩) (n5 - 24) (n5 - 24)] (wr.drewN q) fun e w' => e = .returned (.int .u64 B3) ∧ ∃ m, w' = (wr.drewN q).drewN m := fun q => by
                          rw [← hB3]; exact word_at ((HA5.out.drop 24).below (below_drewN (Below.refl _ _) q)) (by omega)
                        clear hB0 hB1 hB2 hB3
                        cases hz3 : (bits BinOp.and IntKind.u64 (bits BinOp.or IntKind.u64 (bits BinOp.or IntKind.u64 (B0 : Int) (B1 : Int)) (bits BinOp.or IntKind.u64 (B2 : Int) (B3 : Int))) 9259542123273814144 == 0) with
                        | true =>
                          go_wp2_with fail
                          go_big_quiet_o (first | (go_at_call 48; with_reducible refine Calls.quiet_of (cB0 _)) | (go_at_call 48; with_reducible refine Calls.quiet_of (cB1 _)) | (go_at_call 48; with_reducible refine Calls.quiet_of (cB2 _)) | (go_at_call 48; with_reducible refine Calls.quiet_of (cB3 _)))
                          go_wp2_with fail
                          go_roundw
                          case rel => exact ⟨VRel.some (below_drewN HB5.out nq) (by omega) ((HA5.out.drop 32).below (below_drewN (Below.refl _ _) nq)), by simp [lenOf]; omega⟩
                          case measure => simp [lenOf]; omega
                        | false =>
                          go_wp2_with fail
                          go_big_quiet_o (first | (go_at_call 48; with_reducible refine Calls.quiet_of (cB0 _)) | (go_at_call 48; with_reducible refine Calls.quiet_of (cB1 _)) | (go_at_call 48; with_reducible refine Calls.quiet_of (cB2 _)) | (go_at_call 48; with_reducible refine Calls.quiet_of (cB3 _)))
                          go_wp2_with fail
                          go_roundw
                          case rel => exact VRel.some (below_drewN HB5.out nq) (by omega) (HA5.out.below (below_drewN (Below.refl _ _) nq))
                          case measure => have := HM.out; simp [lenOf]; omega
                      · have c32z : ¬ ((32 : Int) < (n5 : Int)) := by omega
                        have c32b : decide ((32 : Int) < (n5 : Int)) = false := decide_eq_false c32z
                        go_wp2_with fail
                        go_big_quiet_o (fail)
                        go_wp2_with fail
                        go_roundw
                        case rel => exact VRel.some (below_drewN hbu nq) (by omega) (hat5.below (below_drewN (Below.refl _ _) nq))
                        case measure => have := HM.out; simp [lenOf]; omega
              · have c16z : ¬ ((16 : Int) < ((m : Nat) : Int)) := by omega
                have c16b : decide ((16 : Int) < ((m : Nat) : Int)) = false := decide_eq_false c16z
                go_big_quiet_o (fail)
                go_wp2_with fail
                go_roundw
                case rel => exact VRel.some (below_drewN HB2.out nq) (by have := HM.out; omega) (HA2.out.below (below_drewN (Below.refl _ _) nq))
                case measure => have := HM.out; simp [lenOf]; omega
          · have c8z : ¬ ((8 : Int) < (n : Int) - 1) := by omega
            go_wp2_with fail
            go_roundw
            case rel => exact VRel.some HBW.out (by omega) hA1
            case measure => simp [lenOf]; omega
    · have hge : 128 ≤ (X 0).toNat := by omega
      have hascz : ¬ (((X 0).toNat : Int) < 128) := by omega
      have hx0lt := (X 0).toNat_lt
      have hc0 := hTr.1 (X 0).toNat hx0lt
      have hXlt : Lib.firstT (X 0).toNat < 256 := by rcases Lib.firstT_cases (X 0).toNat with h | h | h | h | h | h | h | h | h <;> omega
      obtain ⟨Z, hZ⟩ : ∃ Z, Lib.firstT (X 0).toNat = Z := ⟨_, rfl⟩
      rw [hZ] at hc0 hXlt
      have h7 := and7b ⟨Z, hXlt⟩
      simp only at h7
      have ha0 : wr.cell? ⟨2, Z / 16 * 2, none⟩ = some (.int .u8 (Lib.accLo (Z / 16))) := by rw [Nat.mul_comm]; exact (hTr.2 (Z / 16) (by omega)).1
      have ha1 : wr.cell? ⟨2, Z / 16 * 2 + 1, none⟩ = some (.int .u8 (Lib.accHi (Z / 16))) := by rw [Nat.mul_comm]; exact (hTr.2 (Z / 16) (by omega)).2
      obtain ⟨LO, hLO⟩ : ∃ LO, Lib.accLo (Z / 16) = LO := ⟨_, rfl⟩
      obtain ⟨HI, hHI⟩ : ∃ HI, Lib.accHi (Z / 16) = HI := ⟨_, rfl⟩
      rw [hLO] at ha0
      rw [hHI] at ha1
      obtain ⟨SZ, hSZ⟩ : ∃ SZ, Z % 8 = SZ := ⟨_, rfl⟩
      have HZZ := Lib.hid hXlt
      clear hTr hZ hLO hHI hasc
      by_cases s2 : SZ = 2
      · as_aux_lemma =>
          subst s2
          have hSZz : (Z : Int) % 8 = 2 := by omega
          go_upto_region 18 with fail
          have HA2 := Lib.hid (HAT.out.below ((Below.refl wr.heap.size wr).alloc (Nat.le_refl _) (.cells #[.int .u8 LO, .int .u8 HI] 94)))
          have HB2 := Lib.hid (HBW.out.alloc HBW.out.size (.cells #[.int .u8 LO, .int .u8 HI] 94))
          go_cut [103] from 85 to 103 (fun c wx => (c = .bool true ∨ c = .bool false ∧ 2 ≤ n) ∧ Below w.heap.size w wx ∧ At wx k o n X)
          case first =>
            by_cases q0 : n < 2
            · have q0z : (n : Int) < 2 := by omega
              go_big_quiet_o (fail)
              go_wp2_with fail
              go_meet
              exact ⟨.inl rfl, below_drewN HB2.out _, HA2.out.below (below_drewN (Below.refl _ _) _)⟩
            · have q0z : ¬ ((n : Int) < 2) := by omega
              have hz1 : (1 : Int) < (n : Int) := by omega
              have d1 := HA2.out 1 (by omega)
              by_cases q1 : (X 1).toNat < LO
              · have q1z : ((X 1).toNat : Int) < (LO : Int) := by omega
                go_big_quiet_o (fail)
                go_wp2_with fail
                go_meet
                exact ⟨.inl rfl, below_drewN HB2.out _, HA2.out.below (below_drewN (Below.refl _ _) _)⟩
              · have q1z : ¬ (((X 1).toNat : Int) < (LO : Int)) := by omega
                by_cases q2 : HI < (X 1).toNat
                · have q2z : (HI : Int) < ((X 1).toNat : Int) := by omega
                  go_big_quiet_o (fail)
                  go_wp2_with fail
                  go_meet
                  exact ⟨.inl rfl, below_drewN HB2.out _, HA2.out.below (below_drewN (Below.refl _ _) _)⟩
                · have q2z : ¬ ((HI : Int) < ((X 1).toNat : Int)) := by omega
                  go_big_quiet_o (fail)
                  go_wp2_with fail
                  go_meet
                  exact ⟨.inr ⟨rfl, by omega⟩, below_drewN HB2.out _, HA2.out.below (below_drewN (Below.refl _ _) _)⟩
          case rest =>
            obtain ⟨rfl | ⟨rfl, hn2⟩, hbc, hac⟩ := hcut
            · go_wp2_with fail
              go_ret
              exact ⟨⟨_, rfl⟩, hbc⟩
            · by_cases hnn : n = 2
              · subst hnn
                go_wp2_with fail
                go_roundw
                case rel => exact ⟨hbc, .inl ⟨_, rfl⟩⟩
                case measure => simp [lenOf]
              · have hnz2 : (2 : Int) < (n : Int) := by omega
                go_wp2_with fail
                go_roundw
                case rel => exact VRel.some hbc (by omega) (hac.drop 2)
                case measure => simp [lenOf]; omega
      by_cases s3 : SZ = 3
      · as_aux_lemma =>
          subst s3
          have hSZz : (Z : Int) % 8 = 3 := by omega
          go_upto_region 22 with fail
          have HA2 := Lib.hid (HAT.out.below ((Below.refl wr.heap.size wr).alloc (Nat.le_refl _) (.cells #[.int .u8 LO, .int .u8 HI] 94)))
          have HB2 := Lib.hid (HBW.out.alloc HBW.out.size (.cells #[.int .u8 LO, .int .u8 HI] 94))
          go_cut [138] from 108 to 138 (fun c wx => (c = .bool true ∨ c = .bool false ∧ 3 ≤ n) ∧ Below w.heap.size w wx ∧ At wx k o n X)
          case first =>
            by_cases q0 : n < 3
            · have q0z : (n : Int) < 3 := by omega
              go_big_quiet_o (fail)
              go_wp2_with fail
              go_meet
              exact ⟨.inl rfl, below_drewN HB2.out _, HA2.out.below (below_drewN (Below.refl _ _) _)⟩
            · have q0z : ¬ ((n : Int) < 3) := by omega
              have hz1 : (1 : Int) < (n : Int) := by omega
              have d1 := HA2.out 1 (by omega)
              have hz2 : (2 : Int) < (n : Int) := by omega
              have d2 := HA2.out 2 (by omega)
              by_cases q1 : (X 1).toNat < LO
              · have q1z : ((X 1).toNat : Int) < (LO : Int) := by omega
                go_big_quiet_o (fail)
                go_wp2_with fail
                go_meet
                exact ⟨.inl rfl, below_drewN HB2.out _, HA2.out.below (below_drewN (Below.refl _ _) _)⟩
              · have q1z : ¬ (((X 1).toNat : Int) < (LO : Int)) := by omega
                by_cases q2 : HI < (X 1).toNat
                · have q2z : (HI : Int) < ((X 1).toNat : Int) := by omega
                  go_big_quiet_o (fail)
                  go_wp2_with fail
                  go_meet
                  exact ⟨.inl rfl, below_drewN HB2.out _, HA2.out.below (below_drewN (Below.refl _ _) _)⟩
                · have q2z : ¬ ((HI : Int) < ((X 1).toNat : Int)) := by omega
                  by_cases q3 : (X 2).toNat < 128
                  · have q3z : ((X 2).toNat : Int) < 128 := by omega
                    go_big_quiet_o (fail)
                    go_wp2_with fail
                    go_meet
                    exact ⟨.inl rfl, below_drewN HB2.out _, HA2.out.below (below_drewN (Below.refl _ _) _)⟩
                  · have q3z : ¬ (((X 2).toNat : Int) < 128) := by omega
                    by_cases q4 : 191 < (X 2).toNat
                    · have q4z : (191 : Int) < ((X 2).toNat : Int) := by omega
                      go_big_quiet_o (fail)
                      go_wp2_with fail
                      go_meet
                      exact ⟨.inl rfl, below_drewN HB2.out _, HA2.out.below (below_drewN (Below.refl _ _) _)⟩
                    · have q4z : ¬ ((191 : Int) < ((X 2).toNat : Int)) := by omega
                      go_big_quiet_o (fail)
                      go_wp2_with fail
                      go_meet
                      exact ⟨.inr ⟨rfl, by omega⟩, below_drewN HB2.out _, HA2.out.below (below_drewN (Below.refl _ _) _)⟩
          case rest =>
            obtain ⟨rfl | ⟨rfl, hn2⟩, hbc, hac⟩ := hcut
            · go_wp2_with fail
              go_ret
              exact ⟨⟨_, rfl⟩, hbc⟩
            · by_cases hnn : n = 3
              · subst hnn
                go_wp2_with fail
                go_roundw
                case rel => exact ⟨hbc, .inl ⟨_, rfl⟩⟩
                case measure => simp [lenOf]
              · have hnz2 : (3 : Int) < (n : Int) := by omega
                go_wp2_with fail
                go_roundw
                case rel => exact VRel.some hbc (by omega) (hac.drop 3)
                case measure => simp [lenOf]; omega
      by_cases s4 : SZ = 4
      · as_aux_lemma =>
          subst s4
          have hSZz : (Z : Int) % 8 = 4 := by omega
          go_upto_region 26 with fail
          have HA2 := Lib.hid (HAT.out.below ((Below.refl wr.heap.size wr).alloc (Nat.le_refl _) (.cells #[.int .u8 LO, .int .u8 HI] 94)))
          have HB2 := Lib.hid (HBW.out.alloc HBW.out.size (.cells #[.int .u8 LO, .int .u8 HI] 94))
          go_cut [185] from 143 to 185 (fun c wx => (c = .bool true ∨ c = .bool false ∧ 4 ≤ n) ∧ Below w.heap.size w wx ∧ At wx k o n X)
          case first =>
            by_cases q0 : n < 4
            · have q0z : (n : Int) < 4 := by omega
              go_big_quiet_o (fail)
              go_wp2_with fail
              go_meet
              exact ⟨.inl rfl, below_drewN HB2.out _, HA2.out.below (below_drewN (Below.refl _ _) _)⟩
            · have q0z : ¬ ((n : Int) < 4) := by omega
              have hz1 : (1 : Int) < (n : Int) := by omega
              have d1 := HA2.out 1 (by omega)
              have hz2 : (2 : Int) < (n : Int) := by omega
              have d2 := HA2.out 2 (by omega)
              have hz3 : (3 : Int) < (n : Int) := by omega
              have d3 := HA2.out 3 (by omega)
              by_cases q1 : (X 1).toNat < LO
              · have q1z : ((X 1).toNat : Int) < (LO : Int) := by omega
                go_big_quiet_o (fail)
                go_wp2_with fail
                go_meet
                exact ⟨.inl rfl, below_drewN HB2.out _, HA2.out.below (below_drewN (Below.refl _ _) _)⟩
              · have q1z : ¬ (((X 1).toNat : Int) < (LO : Int)) := by omega
                by_cases q2 : HI < (X 1).toNat
                · have q2z : (HI : Int) < ((X 1).toNat : Int) := by omega
                  go_big_quiet_o (fail)
                  go_wp2_with fail
                  go_meet
                  exact ⟨.inl rfl, below_drewN HB2.out _, HA2.out.below (below_drewN (Below.refl _ _) _)⟩
                · have q2z : ¬ ((HI : Int) < ((X 1).toNat : Int)) := by omega
                  by_cases q3 : (X 2).toNat < 128
                  · have q3z : ((X 2).toNat : Int) < 128 := by omega
                    go_big_quiet_o (fail)
                    go_wp2_with fail
                    go_meet
                    exact ⟨.inl rfl, below_drewN HB2.out _, HA2.out.below (below_drewN (Below.refl _ _) _)⟩
                  · have q3z : ¬ (((X 2).toNat : Int) < 128) := by omega
                    by_cases q4 : 191 < (X 2).toNat
                    · have q4z : (191 : Int) < ((X 2).toNat : Int) := by omega
                      go_big_quiet_o (fail)
                      go_wp2_with fail
                      go_meet
                      exact ⟨.inl rfl, below_drewN HB2.out _, HA2.out.below (below_drewN (Below.refl _ _) _)⟩
                    · have q4z : ¬ ((191 : Int) < ((X 2).toNat : Int)) := by omega
                      by_cases q5 : (X 3).toNat < 128
                      · have q5z : ((X 3).toNat : Int) < 128 := by omega
                        go_big_quiet_o (fail)
                        go_wp2_with fail
                        go_meet
                        exact ⟨.inl rfl, below_drewN HB2.out _, HA2.out.below (below_drewN (Below.refl _ _) _)⟩
                      · have q5z : ¬ (((X 3).toNat : Int) < 128) := by omega
                        by_cases q6 : 191 < (X 3).toNat
                        · have q6z : (191 : Int) < ((X 3).toNat : Int) := by omega
                          go_big_quiet_o (fail)
                          go_wp2_with fail
                          go_meet
                          exact ⟨.inl rfl, below_drewN HB2.out _, HA2.out.below (below_drewN (Below.refl _ _) _)⟩
                        · have q6z : ¬ ((191 : Int) < ((X 3).toNat : Int)) := by omega
                          go_big_quiet_o (fail)
                          go_wp2_with fail
                          go_meet
                          exact ⟨.inr ⟨rfl, by omega⟩, below_drewN HB2.out _, HA2.out.below (below_drewN (Below.refl _ _) _)⟩
          case rest =>
            obtain ⟨rfl | ⟨rfl, hn2⟩, hbc, hac⟩ := hcut
            · go_wp2_with fail
              go_ret
              exact ⟨⟨_, rfl⟩, hbc⟩
            · by_cases hnn : n = 4
              · subst hnn
                go_wp2_with fail
                go_roundw
                case rel => exact ⟨hbc, .inl ⟨_, rfl⟩⟩
                case measure => simp [lenOf]
              · have hnz2 : (4 : Int) < (n : Int) := by omega
                go_wp2_with fail
                go_roundw
                case rel => exact VRel.some hbc (by omega) (hac.drop 4)
                case measure => simp [lenOf]; omega
      have e2 : ¬ ((Z : Int) % 8 = 2) := by omega
      have e3 : ¬ ((Z : Int) % 8 = 3) := by omega
      have e4 : ¬ ((Z : Int) % 8 = 4) := by omega
      have e2b : (((Z : Int) % 8) == 2) = false := by simp; omega
      have e3b : (((Z : Int) % 8) == 3) = false := by simp; omega
      have e4b : (((Z : Int) % 8) == 4) = false := by simp; omega
      go_wp2_with fail
      go_ret
      exact ⟨⟨_, rfl⟩, HBW.out.alloc HBW.out.size _⟩
end Go.Proofs.YteildpeogbenbaaDoor
