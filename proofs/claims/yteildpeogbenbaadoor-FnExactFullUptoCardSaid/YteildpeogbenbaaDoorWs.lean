/- Walks: Write. -/
import Derived.Test.YteildpeogbenbaaDoorWr
namespace Go.Proofs.YteildpeogbenbaaDoor
open Go.RowKit Go.Tw Go.Sort
set_option maxRecDepth 100000
section
variable {F : Nat → Prop} {w : World} {B S : Nat} {c : Cfg} {s : St} {k : Nat}

theorem door_cell {e : Nat} {x v : Value} {o : Obj} (he : w.heap[e]? = some (.cells #[x] 48 (0, 0))) : ((w.setCell ⟨e, 0, none⟩ v).alloc o).cell? ⟨e, 0, none⟩ = some v := by
  have h1 := blk_set he 0 v
  have h2 := (Tch.alloc (fun _ => False) (w.setCell ⟨e, 0, none⟩ v) o).heap h1 id
  rw [cell_of_blk h2]; simp
theorem FullAt.tch {G : Nat → Prop} {T : List UInt8} {ea : Addr} {w' : World} (h : FullAt F G w B S c T ea w') : Tch G w w' := by
  obtain ⟨_, _, _, _, _, _, _, _, _, _, _, t⟩ := h
  exact t
theorem FullAt.wide {G : Nat → Prop} {T T' : List UInt8} {ea : Addr} {w' : World} (h : FullAt F G w B S c T ea w') (hT : ∃ x, T ++ x = T') : FullAt F G w B S c T' ea w' := by
  obtain ⟨x, hx⟩ := hT
  exact h.up (Tch.refl _ _) (fun _ _ => id) x hx
theorem step_out (s : St) (b : UInt8) : ∃ x, s.out ++ x = (s.step c b).out := by
  have hn : ∀ t : St, ∃ x, t.out ++ x = (t.nl c).out := by
    intro t
    unfold St.nl
    split
    · exact ⟨_, rfl⟩
    · exact ⟨[], List.append_nil _⟩
  have hf : ∀ t : St, ∃ x, t.out ++ x = (t.ff c).out := by
    intro t
    unfold St.ff
    split
    · exact ⟨_, (List.append_assoc _ _ _).symm⟩
    · exact ⟨_, rfl⟩
  unfold St.step
  repeat' split
  all_goals first | exact hn (s.upd.term false) | exact hf (s.upd.term false) | exact ⟨[], List.append_nil _⟩
theorem steps_out (bs : List UInt8) : ∀ s : St, ∃ x, s.out ++ x = (bs.foldl (St.step c) s).out := by
  induction bs with
  | nil => intro s; exact ⟨[], List.append_nil _⟩
  | cons b bs ih =>
    intro s
    obtain ⟨x, hx⟩ := step_out (c := c) s b
    obtain ⟨y, hy⟩ := ih (s.step c b)
    exact ⟨x ++ y, by rw [List.foldl_cons, ← hy, ← hx, List.append_assoc]⟩
theorem rest_out (bs : List UInt8) (s : St) (i : Nat) : ∃ x, ((bs.take i).foldl (St.step c) s).out ++ x = (bs.foldl (St.step c) s).out := by
  have h := steps_out (c := c) (bs.drop i) ((bs.take i).foldl (St.step c) s)
  rwa [← List.foldl_append, List.take_append_drop] at h

set_option maxHeartbeats 8000000 in
theorem Write_calls (hF : Env F w) (hrep : Rep F w B S c s) (g : Good2 c s k) {bk o cp : Nat} {bs : List UInt8} (hrd : ∀ j (h : j < bs.length), w.cell? ⟨bk, o + j, none⟩ = some (bv bs[j])) (hbk : ¬ F bk) (hcp : bs.length ≤ cp) (hcm : cp ≤ 9223372036854775807) (hk : k + bs.length ≤ 2400000) :
    Calls Tryd.prog 20 #[.pointer (some ⟨B, 0, none⟩), .slice (some ⟨bk, o, none⟩) bs.length cp] w fun ed w' => (ed = .returned (.tuple #[.int .i64 bs.length, .nilIface]) ∧ Rep F w' B S c (bs.foldl (St.step c) s) ∧ Tch F w w') ∨ ∃ (n : Int) (ea : Addr), ed = .returned (.tuple #[.int .i64 n, .iface 116 (.pointer (some ea))]) ∧ FullAt F F w B S c (bs.foldl (St.step c) s).out ea w' := by
  have hlen : bs.length ≤ 2400000 := by omega
  have hBl := hrep.conf.2.2.2
  have hFe := hF.new w.heap.size (Nat.le_refl _)
  have HSHUT := Lib.hid (fun (T : List UInt8) (ea : Addr) (wz : World) (v : Value) (o : Obj) (h : FullAt (But F w.heap.size) (But F w.heap.size) (w.alloc (.cells #[.nilIface] 48)) B S c T ea wz) => h.shut (v := v) (o := o) (Tch.alloc F w (.cells #[.nilIface] 48)) hFe (by have := hF.lt; omega))
  have h1 : WRel (But F w.heap.size) (w.alloc (.cells #[.nilIface] 48)) B S c s bs (.int .i64 0) (.int .i64 0) (w.alloc (.cells #[.nilIface] 48)) :=
    ⟨0, 0, s, Nat.le_refl _, Nat.zero_le _, rfl, rfl, by simp [seg, St.puts], (hrep.but _ (Nat.le_refl _)).alloc _, Tch.refl _ _⟩
  have HE0 := Lib.hid (heap_alloc_new w (.cells #[.nilIface] 48))
  have hF1 : Env (But F w.heap.size) (w.alloc (.cells #[.nilIface] 48)) := hF.but _
  have hrd1 : ∀ j (h : j < bs.length), (w.alloc (.cells #[.nilIface] 48)).cell? ⟨bk, o + j, none⟩ = some (bv bs[j]) := fun j h => (Tch.alloc (fun _ => False) w _).cell (hrd j h) id
  have T0 := Lib.hid (Tch.alloc F w (.cells #[.nilIface] 48))
  have hbk1 : ¬ But F w.heap.size bk := fun h => hbk h.1
  have hnf : ¬ But F w.heap.size w.heap.size := fun h => h.2 rfl
  have hsub : ∀ k, But F w.heap.size k → F k := fun k h => h.1
  have hun : ∀ (w' : World) (t : St), Rep (But F w.heap.size) w' B S c t → Rep F w' B S c t := fun w' t h => h.unbut
  have HNF := Lib.hid hnf
  have HSUB := Lib.hid hsub
  have HUN := Lib.hid hun
  have HFE := Lib.hid hFe
  clear hnf hsub hun hFe
  have HREL := Lib.hid h1
  have HF1 := Lib.hid hF1
  have HRD := Lib.hid hrd1
  have HBK := Lib.hid hbk1
  clear hrep hF h1 hF1 hrd hrd1 hbk hbk1
  go_enter_defers Tryd.func20, Tryd.ntmps20
  go_wp2_with fail
  revert HE0 T0 HNF HSUB HUN HFE HREL HF1 HRD HBK HSHUT
  generalize w.alloc (.cells #[.nilIface] 48) = w1
  generalize But F w.heap.size = F'
  generalize w.heap.size = e at hBl ⊢
  intro HSHUT HE0 T0 HNF HSUB HUN HFE HREL HF1 HRD HBK
  go_loopw [4, 13] (fun t4 t13 wr => WRel F' w1 B S c s bs t4 t13 wr) (fun _ t13 _ => bs.length - (intOf t13).toNat)
  case atStart => exact HREL.out
  case round =>
    clear HREL
    obtain ⟨i, n, s', hni, hil, rfl, rfl, hs', hr, t⟩ := hrel
    have HS := Lib.hid hs'
    have HR := Lib.hid hr
    have T := Lib.hid t
    have hic : i ≤ cp := by omega
    clear hs' hr t
    obtain ⟨a2, ha2⟩ : ∃ a2 : Option Addr, (if cp = n then some (⟨bk, o, none⟩ : Addr) else some ⟨bk, o + n, none⟩) = a2 := ⟨_, rfl⟩
    have HA2 := Lib.hid ha2
    by_cases hlt : i < bs.length
    · clear ha2
      obtain ⟨st, hst⟩ : ∃ st, st = (bs.take i).foldl (St.step c) s := ⟨_, rfl⟩
      have hS2 := HS.out
      rw [← hst] at hS2
      have gst : Good2 c st (k + i) := by
        have h := g.steps (bs.take i) (by simp; omega)
        rw [← hst] at h
        have e1 : (bs.take i).length = i := by simp; omega
        rw [e1] at h
        exact h
      have hpl : (seg bs n i).length = i - n := seg_len hil
      have gs := gst.toGood.small
      have hsz : s'.buf.length + (i - n) ≤ 9600001 ∧ s'.csize + (i - n) ≤ 9600001 := by
        rw [← hS2] at gs
        simp only [St.puts, List.length_append, hpl] at gs
        omega
      have hen : s'.en = st.en := by rw [← hS2]; rfl
      have hfin : ∀ (n' : Nat) (s2 : St) (wz : World), n' ≤ i + 1 → s2.puts (seg bs n' (i + 1)) = st.step c bs[i] → Rep F' wz B S c s2 → Tch F' w1 wz → WRel F' w1 B S c s bs (.int .i64 n') (.int .i64 (i + 1 : Nat)) wz :=
        fun n' s2 wz h1 h2 h3 h4 => ⟨i + 1, n', s2, h1, by omega, rfl, rfl, by rw [take_step s hlt, ← hst]; exact h2, h3, h4⟩
      have hsn : seg bs n (i + 1) = seg bs n i ++ [bs[i]] := seg_snoc (by simp) hni
      have hs1 : seg bs i (i + 1) = [bs[i]] := seg_one (by simp)
      have hs0 : seg bs (i + 1) (i + 1) = [] := seg_self _ _
      have cb : wr.cell? ⟨bk, o + i, none⟩ = some (.int .u8 bs[i].toNat) := T.out.cell (HRD.out i hlt) HBK.out
      have hx : wr.cell? ⟨B, 18, none⟩ = some (.int .u8 s'.en.toNat) ∧ wr.cell? ⟨B, 12, none⟩ = some (.int .u64 c.fl) := by
        obtain ⟨bufv, lv, wv, ov, vs, h⟩ := HR.out
        exact ⟨cell_of_blk h.blk 18, cell_of_blk h.blk 12⟩
      obtain ⟨c18, c12⟩ := hx
      rw [hen] at c18
      have hb255 := UInt8.toNat_lt bs[i]
      have htot : ∃ x, (st.step c bs[i]).out ++ x = (bs.foldl (St.step c) s).out := by rw [hst, ← take_step s hlt]; exact rest_out bs s (i + 1)
      generalize bs[i] = b at hfin hsn hs1 cb hb255 htot
      have HTOT := Lib.hid htot
      clear htot
      have FIN := Lib.hid hfin
      have HSN := Lib.hid hsn
      have HS1 := Lib.hid hs1
      have HS0 := Lib.hid hs0
      have HS2 := Lib.hid hS2
      have HST := Lib.hid hst
      clear hfin hsn hs1 hs0 hS2 hst hen hpl gs
      have gu := gst.toGood.upd
      have hpu : st.upd.pos = st.upd.buf.length := rfl
      have hki : k + i + 1 ≤ 2400000 := by omega
      have HA := Lib.hid (does_append (s := s') (c := c) (B := B) (S := S) HF1.out.new HRD.out HBK.out hcp n i hni hil (by omega) (by omega) (some ⟨bk, o + n, none⟩) (if_neg (by omega)))
      rw [HS2.out] at HA
      have HU := Lib.hid (does_upd (F := F') (w := w1) (B := B) (S := S) HF1.out.new gst.toGood)
      have gT := gu.term hpu false hki
      by_cases h0 : st.en = 0
      · rw [h0] at c18
        have c18b : wr.cell? ⟨B, 18, none⟩ = some (.int .u8 0) := c18
        clear c18
        have hstep : st.step c b = (if b = 9 then st.upd.term true else if b = 11 then st.upd.term false else if b = 10 then (st.upd.term false).nl c else if b = 12 then (st.upd.term false).ff c else if b = 255 then (if c.flag 2 = true then st.upd else st.upd.put 255).esc 255 else if b = 60 ∧ c.flag 1 = true then (st.upd.put 60).esc 62 else if b = 38 ∧ c.flag 1 = true then (st.upd.put 38).esc 59 else st.put b) := by
          unfold St.step; rw [if_pos h0]
        have HSTEP := Lib.hid hstep
        clear hstep
        by_cases h9 : b = 9
        · have cb9 : wr.cell? ⟨bk, o + i, none⟩ = some (.int .u8 9) := by rw [cb, h9]; rfl
          have HT := Lib.hid (does_term (F := F') (w := w1) (B := B) (S := S) HF1.out.new gu true)
          have HB := Lib.hid h9
          clear cb h9
          go_wp2_with (first | (go_at_call 34; have HZ := HA.out _ HR.out T.out; (with_reducible refine HZ.mono ?_); clear HZ; rintro ed wz ⟨rfl, hr, t⟩; have HR := Lib.hid hr; have T := Lib.hid t; obtain ⟨-, -, c12, -⟩ := hr.conf; clear hr t) | (go_at_call 35; have HZ := HU.out _ HR.out T.out; (with_reducible refine HZ.mono ?_); clear HZ; rintro ed wz ⟨rfl, hr, t⟩; have HR := Lib.hid hr; have T := Lib.hid t; obtain ⟨-, -, c12, -⟩ := hr.conf; clear hr t) | (go_at_call 36; have HZ := HT.out _ HR.out T.out; (with_reducible refine HZ.mono ?_); clear HZ; rintro ed wz ⟨rfl, hr, t⟩; have HR := Lib.hid hr; have T := Lib.hid t; obtain ⟨-, -, c12, -⟩ := hr.conf; clear hr t))
          go_roundw
          case rel => exact FIN.out (i + 1) _ _ (by omega) (by rw [HS0.out, puts_nil, HSTEP.out, if_pos HB.out]) HR.out T.out
          case measure => simp [intOf]; omega
        · have HN9 := Lib.hid h9
          have n9 : ((b.toNat : Int) == 9) = false := by rw [beq_eq_false_iff_ne]; intro h; exact h9 (UInt8.toNat_inj.1 (by simp; omega))
          clear h9
          by_cases h11 : b = 11
          · have cb9 : wr.cell? ⟨bk, o + i, none⟩ = some (.int .u8 11) := by rw [cb, h11]; rfl
            have HT := Lib.hid (does_term (F := F') (w := w1) (B := B) (S := S) HF1.out.new gu false)
            have HB := Lib.hid h11
            clear cb h11 n9
            go_wp2_with (first | (go_at_call 34; have HZ := HA.out _ HR.out T.out; (with_reducible refine HZ.mono ?_); clear HZ; rintro ed wz ⟨rfl, hr, t⟩; have HR := Lib.hid hr; have T := Lib.hid t; obtain ⟨-, -, c12, -⟩ := hr.conf; clear hr t) | (go_at_call 35; have HZ := HU.out _ HR.out T.out; (with_reducible refine HZ.mono ?_); clear HZ; rintro ed wz ⟨rfl, hr, t⟩; have HR := Lib.hid hr; have T := Lib.hid t; obtain ⟨-, -, c12, -⟩ := hr.conf; clear hr t) | (go_at_call 36; have HZ := HT.out _ HR.out T.out; (with_reducible refine HZ.mono ?_); clear HZ; rintro ed wz ⟨rfl, hr, t⟩; have HR := Lib.hid hr; have T := Lib.hid t; obtain ⟨-, -, c12, -⟩ := hr.conf; clear hr t))
            go_roundw
            case rel => exact FIN.out (i + 1) _ _ (by omega) (by rw [HS0.out, puts_nil, HSTEP.out, if_neg HN9.out, if_pos HB.out]) HR.out T.out
            case measure => simp [intOf]; omega
          · have HN11 := Lib.hid h11
            have n11 : ((b.toNat : Int) == 11) = false := by rw [beq_eq_false_iff_ne]; intro h; exact h11 (UInt8.toNat_inj.1 (by simp; omega))
            clear h11
            have gl : Good c (st.upd.term false).line (k + i + 1) := gT.1.line (by have := gT.2; omega)
            have hlc : (st.upd.term false).line.out.length + 9600000 * (cellsOf (st.upd.term false).line.lines + (st.upd.term false).line.lines.length + (st.upd.term false).line.buf.length) ≤ 38400000 * (k + i) + 28800000 := by
              have e : (st.upd.term false).line.out.length + 9600000 * (cellsOf (st.upd.term false).line.lines + (st.upd.term false).line.lines.length + (st.upd.term false).line.buf.length) = (st.upd.term false).out.length + 9600000 * (cellsOf (st.upd.term false).lines + ((st.upd.term false).lines.length + 1) + (st.upd.term false).buf.length) := by
                simp only [St.line, cellsOf_append, cellsOf_cons, cellsOf_nil, List.length_append, List.length_cons, List.length_nil]
                omega
              rw [e]; have := gT.2; omega
            have gf : Good c ((st.upd.term false).line.flush c) (k + i + 1) := by
              have f0 := gl.flushed (n := 4) (by omega) [] (by simp)
              have e : ((st.upd.term false).line.flush c).more [] = (st.upd.term false).line.flush c := by simp [St.more, St.flush]
              rw [e] at f0
              exact f0.toGood
            clear hlc
            have hT := does_term (F := F') (w := w1) (B := B) (S := S) HF1.out.new gu false
            have hlast : ((st.upd.term false).lines.getLastD []).length = (st.upd.lines.getLastD []).length + 1 := by simp [St.term, List.getLastD_eq_getLast?]
            have hmb : (st.upd.lines.getLastD []).length ≤ 9600001 := by
              have h1 := gu.small
              have h2 := cellsOf_dropLast gu.ne
              omega
            generalize hm : (st.upd.lines.getLastD []).length = m at hT hlast hmb
            clear hm
            have HT := Lib.hid hT
            have HLAST := Lib.hid hlast
            clear hT hlast
            have HFL := Lib.hid (does_flush (F := F') (w := w1) (B := B) (S := S) HF1.out gl)
            by_cases h10 : b = 10
            · have cb9 : wr.cell? ⟨bk, o + i, none⟩ = some (.int .u8 10) := by rw [cb, h10]; rfl
              have HL := Lib.hid (does_line (F := F') (w := w1) (B := B) (S := S) HF1.out.new gT.1 false)
              have HB := Lib.hid h10
              clear cb h10 n9 n11
              by_cases hm0 : m = 0
              · have HM := Lib.hid hm0
                have HP1 : Hid (∃ x, ((st.upd.term false).line.flush c).out ++ x = (bs.foldl (St.step c) s).out) := by have h := HTOT.out; rw [HSTEP.out, if_neg HN9.out, if_neg HN11.out, if_pos HB.out, St.nl, if_pos (by rw [HLAST.out, HM.out])] at h; exact Lib.hid h
                have hm1 : ((m : Int) + 1 == 1) = true := by rw [beq_iff_eq]; omega
                clear hm0
                go_wp2_with (first | (go_at_call 34; have HZ := HA.out _ HR.out T.out; (with_reducible refine HZ.mono ?_); clear HZ; rintro ed wz ⟨rfl, hr, t⟩; have HR := Lib.hid hr; have T := Lib.hid t; obtain ⟨-, -, c12, -⟩ := hr.conf; clear hr t) | (go_at_call 35; have HZ := HU.out _ HR.out T.out; (with_reducible refine HZ.mono ?_); clear HZ; rintro ed wz ⟨rfl, hr, t⟩; have HR := Lib.hid hr; have T := Lib.hid t; obtain ⟨-, -, c12, -⟩ := hr.conf; clear hr t) | (go_at_call 36; have HZ := HT.out _ HR.out T.out; (with_reducible refine HZ.mono ?_); clear HZ; rintro ed wz ⟨rfl, hr, t⟩; have HR := Lib.hid hr; have T := Lib.hid t; obtain ⟨-, -, c12, -⟩ := hr.conf; clear hr t) | (go_at_call 37; have HZ := HL.out _ HR.out T.out; (with_reducible refine HZ.mono ?_); clear HZ; rintro ed wz ⟨rfl, hr, t⟩; have HR := Lib.hid hr; have T := Lib.hid t; obtain ⟨-, -, c12, -⟩ := hr.conf; clear hr t) | (go_at_call 38; have HZ := HFL.out _ HR.out T.out; (with_reducible refine HZ.mono ?_); clear HZ; rintro ed wz hE; rcases hE with ⟨rfl, hr, t⟩ | ⟨ea, rfl, hfull⟩; rotate_left; (refine leaves_cons (f := 33) (args := #[.pointer (some ⟨B, 0, none⟩), .pointer (some ⟨e, 0, none⟩), .string ⟨#[87, 114, 105, 116, 101]⟩]) (by simp) (by simp [go_sem]) ?_; refine (handlePanic_write _ e ea .nilIface _ (hfull.tch.heap HE0.out HNF.out)).mono ?_; rintro ed2 u' w'' ⟨rfl, rfl, rfl⟩; have hcc := door_cell (o := .cells #[.iface 116 (.pointer (some ea))] 97) (v := .iface 116 (.pointer (some ea))) (hfull.tch.heap HE0.out HNF.out); exact ⟨.tuple #[.int .i64 ((i : Int) + 1), .iface 116 (.pointer (some ea))], (by simp [results, Tryd.results20, go_sem, hcc]), .inr ⟨_, ea, rfl, (HSHUT.out _ _ _ _ _ hfull).wide HP1.out⟩⟩); have HR := Lib.hid hr; have T := Lib.hid t; obtain ⟨-, -, c12, -⟩ := hr.conf; clear hr t))
                go_roundw
                case rel => exact FIN.out (i + 1) _ _ (by omega) (by rw [HS0.out, puts_nil, HSTEP.out, if_neg HN9.out, if_neg HN11.out, if_pos HB.out, St.nl, if_pos (by rw [HLAST.out, HM.out])]) HR.out T.out
                case measure => simp [intOf]; omega
              · have HM := Lib.hid hm0
                have hm1 : ((m : Int) + 1 == 1) = false := by rw [beq_eq_false_iff_ne]; omega
                clear hm0
                go_wp2_with (first | (go_at_call 34; have HZ := HA.out _ HR.out T.out; (with_reducible refine HZ.mono ?_); clear HZ; rintro ed wz ⟨rfl, hr, t⟩; have HR := Lib.hid hr; have T := Lib.hid t; obtain ⟨-, -, c12, -⟩ := hr.conf; clear hr t) | (go_at_call 35; have HZ := HU.out _ HR.out T.out; (with_reducible refine HZ.mono ?_); clear HZ; rintro ed wz ⟨rfl, hr, t⟩; have HR := Lib.hid hr; have T := Lib.hid t; obtain ⟨-, -, c12, -⟩ := hr.conf; clear hr t) | (go_at_call 36; have HZ := HT.out _ HR.out T.out; (with_reducible refine HZ.mono ?_); clear HZ; rintro ed wz ⟨rfl, hr, t⟩; have HR := Lib.hid hr; have T := Lib.hid t; obtain ⟨-, -, c12, -⟩ := hr.conf; clear hr t) | (go_at_call 37; have HZ := HL.out _ HR.out T.out; (with_reducible refine HZ.mono ?_); clear HZ; rintro ed wz ⟨rfl, hr, t⟩; have HR := Lib.hid hr; have T := Lib.hid t; obtain ⟨-, -, c12, -⟩ := hr.conf; clear hr t))
                go_roundw
                case rel => exact FIN.out (i + 1) _ _ (by omega) (by rw [HS0.out, puts_nil, HSTEP.out, if_neg HN9.out, if_neg HN11.out, if_pos HB.out, St.nl, if_neg (by rw [HLAST.out]; have := HM.out; omega)]) HR.out T.out
                case measure => simp [intOf]; omega
            · have HN10 := Lib.hid h10
              have n10 : ((b.toNat : Int) == 10) = false := by rw [beq_eq_false_iff_ne]; intro h; exact h10 (UInt8.toNat_inj.1 (by simp; omega))
              clear h10
              by_cases h12 : b = 12
              · have cb9 : wr.cell? ⟨bk, o + i, none⟩ = some (.int .u8 12) := by rw [cb, h12]; rfl
                have HL := Lib.hid (does_line (F := F') (w := w1) (B := B) (S := S) HF1.out.new gT.1 true)
                have HB := Lib.hid h12
                clear cb h12 n9 n11 n10
                by_cases hd : c.flag 32 = true
                · have hd1 : (bits BinOp.and IntKind.u64 (c.fl : Int) 32 != 0) = true := hd
                  have HD := Lib.hid hd
                  have HP2 : Hid (∃ x, (((st.upd.term false).line.flush c).more hbarL).out ++ x = (bs.foldl (St.step c) s).out) := by have h := HTOT.out; rw [HSTEP.out, if_neg HN9.out, if_neg HN11.out, if_neg HN10.out, if_pos HB.out, St.ff, if_pos HD.out] at h; exact Lib.hid h
                  have HP1 : Hid (∃ x, ((st.upd.term false).line.flush c).out ++ x = (bs.foldl (St.step c) s).out) := Lib.hid (HP2.out.elim fun x hx => ⟨hbarL ++ x, (List.append_assoc _ _ _).symm.trans hx⟩)
                  clear hd
                  go_wp2_with (first | (go_at_call 34; have HZ := HA.out _ HR.out T.out; (with_reducible refine HZ.mono ?_); clear HZ; rintro ed wz ⟨rfl, hr, t⟩; have HR := Lib.hid hr; have T := Lib.hid t; obtain ⟨-, -, c12, -⟩ := hr.conf; clear hr t) | (go_at_call 35; have HZ := HU.out _ HR.out T.out; (with_reducible refine HZ.mono ?_); clear HZ; rintro ed wz ⟨rfl, hr, t⟩; have HR := Lib.hid hr; have T := Lib.hid t; obtain ⟨-, -, c12, -⟩ := hr.conf; clear hr t) | (go_at_call 36; have HZ := HT.out _ HR.out T.out; (with_reducible refine HZ.mono ?_); clear HZ; rintro ed wz ⟨rfl, hr, t⟩; have HR := Lib.hid hr; have T := Lib.hid t; obtain ⟨-, -, c12, -⟩ := hr.conf; clear hr t) | (go_at_call 37; have HZ := HL.out _ HR.out T.out; (with_reducible refine HZ.mono ?_); clear HZ; rintro ed wz ⟨rfl, hr, t⟩; have HR := Lib.hid hr; have T := Lib.hid t; obtain ⟨-, -, c12, -⟩ := hr.conf; clear hr t) | (go_at_call 38; have HZ := HFL.out _ HR.out T.out; (with_reducible refine HZ.mono ?_); clear HZ; rintro ed wz hE; rcases hE with ⟨rfl, hr, t⟩ | ⟨ea, rfl, hfull⟩; rotate_left; (refine leaves_cons (f := 33) (args := #[.pointer (some ⟨B, 0, none⟩), .pointer (some ⟨e, 0, none⟩), .string ⟨#[87, 114, 105, 116, 101]⟩]) (by simp) (by simp [go_sem]) ?_; refine (handlePanic_write _ e ea .nilIface _ (hfull.tch.heap HE0.out HNF.out)).mono ?_; rintro ed2 u' w'' ⟨rfl, rfl, rfl⟩; have hcc := door_cell (o := .cells #[.iface 116 (.pointer (some ea))] 97) (v := .iface 116 (.pointer (some ea))) (hfull.tch.heap HE0.out HNF.out); exact ⟨.tuple #[.int .i64 ((i : Int) + 1), .iface 116 (.pointer (some ea))], (by simp [results, Tryd.results20, go_sem, hcc]), .inr ⟨_, ea, rfl, (HSHUT.out _ _ _ _ _ hfull).wide HP1.out⟩⟩); have HR := Lib.hid hr; have T := Lib.hid t; obtain ⟨-, -, c12, -⟩ := hr.conf; clear hr t) | (go_at_call 40; refine (hbar_calls _).mono ?_; rintro ed wy ⟨rfl, rfl⟩) | (go_at_call 39; have HZ := write_hbar HF1.out gf HR.out T.out; (with_reducible refine HZ.mono ?_); clear HZ; rintro ed wz hE; rcases hE with ⟨rfl, hr, t⟩ | ⟨ea, rfl, hfull⟩; rotate_left; (refine leaves_cons (f := 33) (args := #[.pointer (some ⟨B, 0, none⟩), .pointer (some ⟨e, 0, none⟩), .string ⟨#[87, 114, 105, 116, 101]⟩]) (by simp) (by simp [go_sem]) ?_; refine (handlePanic_write _ e ea .nilIface _ (hfull.tch.heap HE0.out HNF.out)).mono ?_; rintro ed2 u' w'' ⟨rfl, rfl, rfl⟩; have hcc := door_cell (o := .cells #[.iface 116 (.pointer (some ea))] 97) (v := .iface 116 (.pointer (some ea))) (hfull.tch.heap HE0.out HNF.out); exact ⟨.tuple #[.int .i64 ((i : Int) + 1), .iface 116 (.pointer (some ea))], (by simp [results, Tryd.results20, go_sem, hcc]), .inr ⟨_, ea, rfl, (HSHUT.out _ _ _ _ _ hfull).wide HP2.out⟩⟩); have HR := Lib.hid hr; have T := Lib.hid t; clear hr t))
                  go_roundw
                  case rel => exact FIN.out (i + 1) _ _ (by omega) (by rw [HS0.out, puts_nil, HSTEP.out, if_neg HN9.out, if_neg HN11.out, if_neg HN10.out, if_pos HB.out, St.ff, if_pos HD.out]) HR.out T.out
                  case measure => simp [intOf]; omega
                · have hd1 : (bits BinOp.and IntKind.u64 (c.fl : Int) 32 != 0) = false := by unfold Cfg.flag at hd; simpa using hd
                  have HD := Lib.hid hd
                  have HP1 : Hid (∃ x, ((st.upd.term false).line.flush c).out ++ x = (bs.foldl (St.step c) s).out) := by have h := HTOT.out; rw [HSTEP.out, if_neg HN9.out, if_neg HN11.out, if_neg HN10.out, if_pos HB.out, St.ff, if_neg HD.out] at h; exact Lib.hid h
                  clear hd
                  go_wp2_with (first | (go_at_call 34; have HZ := HA.out _ HR.out T.out; (with_reducible refine HZ.mono ?_); clear HZ; rintro ed wz ⟨rfl, hr, t⟩; have HR := Lib.hid hr; have T := Lib.hid t; obtain ⟨-, -, c12, -⟩ := hr.conf; clear hr t) | (go_at_call 35; have HZ := HU.out _ HR.out T.out; (with_reducible refine HZ.mono ?_); clear HZ; rintro ed wz ⟨rfl, hr, t⟩; have HR := Lib.hid hr; have T := Lib.hid t; obtain ⟨-, -, c12, -⟩ := hr.conf; clear hr t) | (go_at_call 36; have HZ := HT.out _ HR.out T.out; (with_reducible refine HZ.mono ?_); clear HZ; rintro ed wz ⟨rfl, hr, t⟩; have HR := Lib.hid hr; have T := Lib.hid t; obtain ⟨-, -, c12, -⟩ := hr.conf; clear hr t) | (go_at_call 37; have HZ := HL.out _ HR.out T.out; (with_reducible refine HZ.mono ?_); clear HZ; rintro ed wz ⟨rfl, hr, t⟩; have HR := Lib.hid hr; have T := Lib.hid t; obtain ⟨-, -, c12, -⟩ := hr.conf; clear hr t) | (go_at_call 38; have HZ := HFL.out _ HR.out T.out; (with_reducible refine HZ.mono ?_); clear HZ; rintro ed wz hE; rcases hE with ⟨rfl, hr, t⟩ | ⟨ea, rfl, hfull⟩; rotate_left; (refine leaves_cons (f := 33) (args := #[.pointer (some ⟨B, 0, none⟩), .pointer (some ⟨e, 0, none⟩), .string ⟨#[87, 114, 105, 116, 101]⟩]) (by simp) (by simp [go_sem]) ?_; refine (handlePanic_write _ e ea .nilIface _ (hfull.tch.heap HE0.out HNF.out)).mono ?_; rintro ed2 u' w'' ⟨rfl, rfl, rfl⟩; have hcc := door_cell (o := .cells #[.iface 116 (.pointer (some ea))] 97) (v := .iface 116 (.pointer (some ea))) (hfull.tch.heap HE0.out HNF.out); exact ⟨.tuple #[.int .i64 ((i : Int) + 1), .iface 116 (.pointer (some ea))], (by simp [results, Tryd.results20, go_sem, hcc]), .inr ⟨_, ea, rfl, (HSHUT.out _ _ _ _ _ hfull).wide HP1.out⟩⟩); have HR := Lib.hid hr; have T := Lib.hid t; obtain ⟨-, -, c12, -⟩ := hr.conf; clear hr t))
                  go_roundw
                  case rel => exact FIN.out (i + 1) _ _ (by omega) (by rw [HS0.out, puts_nil, HSTEP.out, if_neg HN9.out, if_neg HN11.out, if_neg HN10.out, if_pos HB.out, St.ff, if_neg HD.out]) HR.out T.out
                  case measure => simp [intOf]; omega
              · have HN12 := Lib.hid h12
                have n12 : ((b.toNat : Int) == 12) = false := by rw [beq_eq_false_iff_ne]; intro h; exact h12 (UInt8.toNat_inj.1 (by simp; omega))
                clear h12 HT HFL HLAST gl gf
                by_cases h255 : b = 255
                · have cb9 : wr.cell? ⟨bk, o + i, none⟩ = some (.int .u8 255) := by rw [cb, h255]; rfl
                  have HB := Lib.hid h255
                  have HSE := Lib.hid (does_start (F := F') (w := w1) (B := B) (S := S) (c := c) (s := st.upd) HF1.out.new 255 255 (.inl ⟨rfl, rfl⟩))
                  clear cb h255 n9 n11 n10 n12
                  by_cases hd : c.flag 2 = true
                  · have hd1 : (bits BinOp.and IntKind.u64 (c.fl : Int) 2 != 0) = true := hd
                    have HD := Lib.hid hd
                    clear hd
                    go_wp2_with (first | (go_at_call 34; have HZ := HA.out _ HR.out T.out; (with_reducible refine HZ.mono ?_); clear HZ; rintro ed wz ⟨rfl, hr, t⟩; have HR := Lib.hid hr; have T := Lib.hid t; obtain ⟨-, -, c12, -⟩ := hr.conf; clear hr t) | (go_at_call 35; have HZ := HU.out _ HR.out T.out; (with_reducible refine HZ.mono ?_); clear HZ; rintro ed wz ⟨rfl, hr, t⟩; have HR := Lib.hid hr; have T := Lib.hid t; obtain ⟨-, -, c12, -⟩ := hr.conf; clear hr t) | (go_at_call 41; have HZ := HSE.out _ HR.out T.out; (with_reducible refine HZ.mono ?_); clear HZ; rintro ed wz ⟨rfl, hr, t⟩; have HR := Lib.hid hr; have T := Lib.hid t; obtain ⟨-, -, c12, -⟩ := hr.conf; clear hr t))
                    go_roundw
                    case rel => exact FIN.out (i + 1) _ _ (by omega) (by rw [HS0.out, puts_nil, HSTEP.out, if_neg HN9.out, if_neg HN11.out, if_neg HN10.out, if_neg HN12.out, if_pos HB.out, if_pos HD.out]) HR.out T.out
                    case measure => simp [intOf]; omega
                  · have hd1 : (bits BinOp.and IntKind.u64 (c.fl : Int) 2 != 0) = false := by unfold Cfg.flag at hd; simpa using hd
                    have HD := Lib.hid hd
                    clear hd
                    go_wp2_with (first | (go_at_call 34; have HZ := HA.out _ HR.out T.out; (with_reducible refine HZ.mono ?_); clear HZ; rintro ed wz ⟨rfl, hr, t⟩; have HR := Lib.hid hr; have T := Lib.hid t; obtain ⟨-, -, c12, -⟩ := hr.conf; clear hr t) | (go_at_call 35; have HZ := HU.out _ HR.out T.out; (with_reducible refine HZ.mono ?_); clear HZ; rintro ed wz ⟨rfl, hr, t⟩; have HR := Lib.hid hr; have T := Lib.hid t; obtain ⟨-, -, c12, -⟩ := hr.conf; clear hr t) | (go_at_call 41; have HZ := HSE.out _ HR.out T.out; (with_reducible refine HZ.mono ?_); clear HZ; rintro ed wz ⟨rfl, hr, t⟩; have HR := Lib.hid hr; have T := Lib.hid t; obtain ⟨-, -, c12, -⟩ := hr.conf; clear hr t))
                    go_roundw
                    case rel => exact FIN.out i _ _ (by omega) (by rw [HS1.out, HSTEP.out, if_neg HN9.out, if_neg HN11.out, if_neg HN10.out, if_neg HN12.out, if_pos HB.out, if_neg HD.out, HB.out]; rfl) HR.out T.out
                    case measure => simp [intOf]; omega
                · have HN255 := Lib.hid h255
                  have n255 : ((b.toNat : Int) == 255) = false := by rw [beq_eq_false_iff_ne]; intro h; exact h255 (UInt8.toNat_inj.1 (by simp; omega))
                  clear h255
                  have hput : s'.puts (seg bs n (i + 1)) = st.put b := by rw [HSN.out, ← puts_puts, HS2.out, ← put_puts]
                  have HPUT := Lib.hid hput
                  clear hput
                  by_cases hd : c.flag 1 = true
                  · have hd1 : (bits BinOp.and IntKind.u64 (c.fl : Int) 1 != 0) = true := hd
                    have HD := Lib.hid hd
                    clear hd
                    by_cases h60 : b = 60
                    · have cb9 : wr.cell? ⟨bk, o + i, none⟩ = some (.int .u8 60) := by rw [cb, h60]; rfl
                      have HB := Lib.hid h60
                      have HSE := Lib.hid (does_start (F := F') (w := w1) (B := B) (S := S) (c := c) (s := st.upd) HF1.out.new 60 62 (.inr (.inl ⟨rfl, rfl⟩)))
                      clear cb h60 n9 n11 n10 n12 n255
                      go_wp2_with (first | (go_at_call 34; have HZ := HA.out _ HR.out T.out; (with_reducible refine HZ.mono ?_); clear HZ; rintro ed wz ⟨rfl, hr, t⟩; have HR := Lib.hid hr; have T := Lib.hid t; obtain ⟨-, -, c12, -⟩ := hr.conf; clear hr t) | (go_at_call 35; have HZ := HU.out _ HR.out T.out; (with_reducible refine HZ.mono ?_); clear HZ; rintro ed wz ⟨rfl, hr, t⟩; have HR := Lib.hid hr; have T := Lib.hid t; obtain ⟨-, -, c12, -⟩ := hr.conf; clear hr t) | (go_at_call 41; have HZ := HSE.out _ HR.out T.out; (with_reducible refine HZ.mono ?_); clear HZ; rintro ed wz ⟨rfl, hr, t⟩; have HR := Lib.hid hr; have T := Lib.hid t; obtain ⟨-, -, c12, -⟩ := hr.conf; clear hr t))
                      go_roundw
                      case rel => exact FIN.out i _ _ (by omega) (by rw [HS1.out, HSTEP.out, if_neg HN9.out, if_neg HN11.out, if_neg HN10.out, if_neg HN12.out, if_neg HN255.out, if_pos ⟨HB.out, HD.out⟩, HB.out]; rfl) HR.out T.out
                      case measure => simp [intOf]; omega
                    · have HN60 := Lib.hid h60
                      have n60 : ((b.toNat : Int) == 60) = false := by rw [beq_eq_false_iff_ne]; intro h; exact h60 (UInt8.toNat_inj.1 (by simp; omega))
                      clear h60
                      by_cases h38 : b = 38
                      · have cb9 : wr.cell? ⟨bk, o + i, none⟩ = some (.int .u8 38) := by rw [cb, h38]; rfl
                        have HB := Lib.hid h38
                        have HSE := Lib.hid (does_start (F := F') (w := w1) (B := B) (S := S) (c := c) (s := st.upd) HF1.out.new 38 59 (.inr (.inr ⟨rfl, rfl⟩)))
                        clear cb h38 n9 n11 n10 n12 n255 n60
                        go_wp2_with (first | (go_at_call 34; have HZ := HA.out _ HR.out T.out; (with_reducible refine HZ.mono ?_); clear HZ; rintro ed wz ⟨rfl, hr, t⟩; have HR := Lib.hid hr; have T := Lib.hid t; obtain ⟨-, -, c12, -⟩ := hr.conf; clear hr t) | (go_at_call 35; have HZ := HU.out _ HR.out T.out; (with_reducible refine HZ.mono ?_); clear HZ; rintro ed wz ⟨rfl, hr, t⟩; have HR := Lib.hid hr; have T := Lib.hid t; obtain ⟨-, -, c12, -⟩ := hr.conf; clear hr t) | (go_at_call 41; have HZ := HSE.out _ HR.out T.out; (with_reducible refine HZ.mono ?_); clear HZ; rintro ed wz ⟨rfl, hr, t⟩; have HR := Lib.hid hr; have T := Lib.hid t; obtain ⟨-, -, c12, -⟩ := hr.conf; clear hr t))
                        go_roundw
                        case rel => exact FIN.out i _ _ (by omega) (by rw [HS1.out, HSTEP.out, if_neg HN9.out, if_neg HN11.out, if_neg HN10.out, if_neg HN12.out, if_neg HN255.out, if_neg (fun h => HN60.out h.1), if_pos ⟨HB.out, HD.out⟩, HB.out]; rfl) HR.out T.out
                        case measure => simp [intOf]; omega
                      · have HN38 := Lib.hid h38
                        have n38 : ((b.toNat : Int) == 38) = false := by rw [beq_eq_false_iff_ne]; intro h; exact h38 (UInt8.toNat_inj.1 (by simp; omega))
                        clear h38
                        go_wp2_with fail
                        go_roundw
                        case rel => exact FIN.out n _ _ (by omega) (by rw [HPUT.out, HSTEP.out, if_neg HN9.out, if_neg HN11.out, if_neg HN10.out, if_neg HN12.out, if_neg HN255.out, if_neg (fun h => HN60.out h.1), if_neg (fun h => HN38.out h.1)]) HR.out T.out
                        case measure => simp [intOf]; omega
                  · have hd1 : (bits BinOp.and IntKind.u64 (c.fl : Int) 1 != 0) = false := by unfold Cfg.flag at hd; simpa using hd
                    have HD := Lib.hid hd
                    clear hd
                    have HEQ := Lib.hid (show s'.puts (seg bs n (i + 1)) = st.step c b by rw [HPUT.out, HSTEP.out, if_neg HN9.out, if_neg HN11.out, if_neg HN10.out, if_neg HN12.out, if_neg HN255.out, if_neg (fun h => HD.out h.2), if_neg (fun h => HD.out h.2)])
                    by_cases h60 : b = 60
                    · have cb9 : wr.cell? ⟨bk, o + i, none⟩ = some (.int .u8 60) := by rw [cb, h60]; rfl
                      clear cb h60 n9 n11 n10 n12 n255
                      go_wp2_with fail
                      go_roundw
                      case rel => exact FIN.out n _ _ (by omega) (HEQ.out) HR.out T.out
                      case measure => simp [intOf]; omega
                    · have n60 : ((b.toNat : Int) == 60) = false := by rw [beq_eq_false_iff_ne]; intro h; exact h60 (UInt8.toNat_inj.1 (by simp; omega))
                      clear h60
                      by_cases h38 : b = 38
                      · have cb9 : wr.cell? ⟨bk, o + i, none⟩ = some (.int .u8 38) := by rw [cb, h38]; rfl
                        clear cb h38 n9 n11 n10 n12 n255 n60
                        go_wp2_with fail
                        go_roundw
                        case rel => exact FIN.out n _ _ (by omega) (HEQ.out) HR.out T.out
                        case measure => simp [intOf]; omega
                      · have n38 : ((b.toNat : Int) == 38) = false := by rw [beq_eq_false_iff_ne]; intro h; exact h38 (UInt8.toNat_inj.1 (by simp; omega))
                        clear h38
                        go_wp2_with fail
                        go_roundw
                        case rel => exact FIN.out n _ _ (by omega) (HEQ.out) HR.out T.out
                        case measure => simp [intOf]; omega
      · have n0 : ((st.en.toNat : Int) == 0) = false := by rw [beq_eq_false_iff_ne]; intro h; exact h0 (UInt8.toNat_inj.1 (by simpa using h))
        have hput : s'.puts (seg bs n (i + 1)) = st.put b := by rw [HSN.out, ← puts_puts, HS2.out, ← put_puts]
        have hHA1 := does_append (s := s') (c := c) (B := B) (S := S) HF1.out.new HRD.out HBK.out hcp n (i + 1) (by omega) hlt (by omega) (by omega) (some ⟨bk, o + n, none⟩) (if_neg (by omega))
        rw [hput] at hHA1
        have HA1 := Lib.hid hHA1
        have HPUT := Lib.hid hput
        clear hput hHA1
        have HN0 := Lib.hid h0
        clear h0
        by_cases he : b = st.en
        · have hstep : st.step c b = (if b = 255 ∧ c.flag 2 = true then st else st.put b).endEsc c := by
            unfold St.step; rw [if_neg HN0.out, if_pos he]
          have HSTEP := Lib.hid hstep
          have HE1 := Lib.hid (does_end (F := F') (w := w1) (B := B) (S := S) HF1.out.new (gst.toGood.put b hki) HN0.out)
          have HE0s := Lib.hid (does_end (F := F') (w := w1) (B := B) (S := S) HF1.out.new gst.toGood HN0.out)
          rw [← he] at c18 n0
          have HBE := Lib.hid he
          clear hstep he
          by_cases h255 : b = 255
          · have cb9 : wr.cell? ⟨bk, o + i, none⟩ = some (.int .u8 255) := by rw [cb, h255]; rfl
            have c189 : wr.cell? ⟨B, 18, none⟩ = some (.int .u8 255) := by rw [c18, h255]; rfl
            have HB := Lib.hid h255
            clear cb c18 h255 n0
            by_cases hd : c.flag 2 = true
            · have hd1 : (bits BinOp.and IntKind.u64 (c.fl : Int) 2 != 0) = true := hd
              have HD := Lib.hid hd
              clear hd
              go_wp2_with (first | (go_at_call 34; have HZ := HA.out _ HR.out T.out; (with_reducible refine HZ.mono ?_); clear HZ; rintro ed wz ⟨rfl, hr, t⟩; have HR := Lib.hid hr; have T := Lib.hid t; obtain ⟨-, -, c12, -⟩ := hr.conf; clear hr t) | (go_at_call 42; have HZ := HE0s.out _ HR.out T.out; (with_reducible refine HZ.mono ?_); clear HZ; rintro ed wz ⟨rfl, hr, t⟩; have HR := Lib.hid hr; have T := Lib.hid t; obtain ⟨-, -, c12, -⟩ := hr.conf; clear hr t))
              go_roundw
              case rel => exact FIN.out (i + 1) _ _ (by omega) (by rw [HS0.out, puts_nil, HSTEP.out, if_pos ⟨HB.out, HD.out⟩]) HR.out T.out
              case measure => simp [intOf]; omega
            · have hd1 : (bits BinOp.and IntKind.u64 (c.fl : Int) 2 != 0) = false := by unfold Cfg.flag at hd; simpa using hd
              have HD := Lib.hid hd
              clear hd
              go_wp2_with (first | (go_at_call 34; have HZ := HA1.out _ HR.out T.out; (with_reducible refine HZ.mono ?_); clear HZ; rintro ed wz ⟨rfl, hr, t⟩; have HR := Lib.hid hr; have T := Lib.hid t; obtain ⟨-, -, c12, -⟩ := hr.conf; clear hr t) | (go_at_call 42; have HZ := HE1.out _ HR.out T.out; (with_reducible refine HZ.mono ?_); clear HZ; rintro ed wz ⟨rfl, hr, t⟩; have HR := Lib.hid hr; have T := Lib.hid t; obtain ⟨-, -, c12, -⟩ := hr.conf; clear hr t))
              go_roundw
              case rel => exact FIN.out (i + 1) _ _ (by omega) (by rw [HS0.out, puts_nil, HSTEP.out, if_neg (fun h => HD.out h.2)]) HR.out T.out
              case measure => simp [intOf]; omega
          · have HN255 := Lib.hid h255
            have n255 : ((b.toNat : Int) == 255) = false := by rw [beq_eq_false_iff_ne]; intro h; exact h255 (UInt8.toNat_inj.1 (by simp; omega))
            clear h255
            go_wp2_with (first | (go_at_call 34; have HZ := HA1.out _ HR.out T.out; (with_reducible refine HZ.mono ?_); clear HZ; rintro ed wz ⟨rfl, hr, t⟩; have HR := Lib.hid hr; have T := Lib.hid t; obtain ⟨-, -, c12, -⟩ := hr.conf; clear hr t) | (go_at_call 42; have HZ := HE1.out _ HR.out T.out; (with_reducible refine HZ.mono ?_); clear HZ; rintro ed wz ⟨rfl, hr, t⟩; have HR := Lib.hid hr; have T := Lib.hid t; obtain ⟨-, -, c12, -⟩ := hr.conf; clear hr t))
            go_roundw
            case rel => exact FIN.out (i + 1) _ _ (by omega) (by rw [HS0.out, puts_nil, HSTEP.out, if_neg (fun h => HN255.out h.1)]) HR.out T.out
            case measure => simp [intOf]; omega
        · have nbe : ((b.toNat : Int) == (st.en.toNat : Int)) = false := by rw [beq_eq_false_iff_ne]; intro h; exact he (UInt8.toNat_inj.1 (by omega))
          have HEQ := Lib.hid (show s'.puts (seg bs n (i + 1)) = st.step c b by rw [HPUT.out]; unfold St.step; rw [if_neg HN0.out, if_neg he])
          clear he
          go_wp2_with fail
          go_roundw
          case rel => exact FIN.out n _ _ (by omega) (HEQ.out) HR.out T.out
          case measure => simp [intOf]; omega
    · obtain rfl : i = bs.length := by omega
      have hS2 := HS.out
      have gS := (g.steps bs hk).toGood.small
      rw [List.take_length] at hS2
      rw [← hS2] at gS
      have hpl : (seg bs n bs.length).length = bs.length - n := seg_len (Nat.le_refl _)
      simp only [St.puts, List.length_append, hpl] at gS
      have HA := Lib.hid (does_append (s := s') (c := c) (B := B) (S := S) HF1.out.new HRD.out HBK.out hcp n bs.length hni (Nat.le_refl _) (by omega) (by omega) a2 HA2.out)
      clear gS hS2 hpl
      go_wp2_with (go_at_call 34; have HZ := HA.out _ HR.out T.out; (with_reducible refine HZ.mono ?_); clear HZ; rintro ed w2 ⟨rfl, hr, t⟩; have HR2 := Lib.hid hr; have T2 := Lib.hid t; clear hr t)
      refine leaves_cons (f := 33) (args := #[.pointer (some ⟨B, 0, none⟩), .pointer (some ⟨e, 0, none⟩), .string ⟨#[87, 114, 105, 116, 101]⟩]) (by simp) (by simp [go_sem]) ?_
      refine (handlePanic_idle _ _ _ _).mono ?_
      rintro ed u' w'' ⟨rfl, rfl, rfl⟩
      have hc : w2.cell? ⟨e, 0, none⟩ = some .nilIface := by have := T2.out.heap HE0.out HNF.out; rw [cell_of_blk this]; rfl
      have hS2 := HS.out
      rw [List.take_length] at hS2
      have hR := HUN.out _ _ HR2.out
      rw [hS2] at hR
      have hT := T0.out.trans (T2.out.mono HSUB.out)
      exact ⟨.tuple #[.int .i64 bs.length, .nilIface], by simp [results, Tryd.results20, go_sem, hc], .inl ⟨rfl, hR, hT⟩⟩
end
end Go.Proofs.YteildpeogbenbaaDoor
