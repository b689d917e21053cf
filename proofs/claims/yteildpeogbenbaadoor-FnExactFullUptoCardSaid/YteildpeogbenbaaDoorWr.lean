/- Walks: flush, Flush; Write's parts. -/
import Derived.Test.YteildpeogbenbaaDoorWp
import Derived.Defers
import Derived.Recover
namespace Go.Proofs.YteildpeogbenbaaDoor
open Go.RowKit Go.Tw Go.Sort
set_option maxRecDepth 100000

theorem handlePanic_idle (p q : Value) (t : Value) (w : World) :
    CallsD Tryd.prog 33 #[p, q, t] .returning w fun e u' w' => u' = .returning ∧ e = .returned (.tuple #[]) ∧ w = w' := by
  refine callsD_of_wpS Tryd.func33 rfl fun c₀ cs hu => ?_
  apply wpS_seq
  apply wpS_region
  simp [wpOpsS, go_sem, recoverD, hu, Tryd.ntmps33, Exit.thenS]
  apply wpS_seq
  apply wpS_region
  simp [wpOpsS, go_sem, recoverD, hu, Exit.thenS]
  refine wpS_cond (t := false) (by simp [Act.eval, Array.replicate]) ?_
  simp only [Bool.false_eq_true, if_false]
  refine wpS_of_wp (wp_skip ?_)
  cases c₀
  simp_all [bodyPostS, results, Tryd.results33]

theorem assert_os (v : Value) (w : World) : (Instr.typeAssert (.iface 97 v) 20 97 true).run Tryd.prog w = .ok (.tuple #[v, .bool true]) w := by kernel_rfl
/-- The one entry that a full sink's panic leaves. -/
def osEntry (ea : Addr) (r : Bool) : PanicEntry := { v := .iface 97 (.agg #[.iface 116 (.pointer (some ea))]), recovered := r }
set_option maxHeartbeats 1000000 in
/-- Behind a panic in Write: the error is laid in its variable. -/
theorem handlePanic_write (p : Value) (e : Nat) (ea : Addr) (x : Value) (w : World) (he : w.heap[e]? = some (.cells #[x] 48 (0, 0))) :
    CallsD Tryd.prog 33 #[p, .pointer (some ⟨e, 0, none⟩), .string ⟨#[87, 114, 105, 116, 101]⟩] (.panicking [osEntry ea false]) w fun ed u' w' => ed = .returned (.tuple #[]) ∧ u' = .panicking [osEntry ea true] ∧ w' = (w.setCell ⟨e, 0, none⟩ (.iface 116 (.pointer (some ea)))).alloc (.cells #[.iface 116 (.pointer (some ea))] 97) := by
  have hlt : e < w.heap.size := lt_of_heap he
  have c0 : w.cell? ⟨e, 0, none⟩ = some x := by simp [World.cell?, he]
  have f0 : w.frozen? ⟨e, 0, none⟩ = false := by simp [World.frozen?, he]
  unfold osEntry
  refine callsD_of_wpS Tryd.func33 rfl fun c₀ cs hu => ?_
  apply wpS_seq
  apply wpS_region
  simp [wpOpsS, go_sem, recoverD, hu, Tryd.ntmps33, Exit.thenS]
  apply wpS_seq
  apply wpS_region
  simp [wpOpsS, go_sem, recoverD, Exit.thenS]
  refine wpS_cond (t := true) (by simp [Act.eval, Array.replicate]) ?_
  simp only [if_true]
  refine wpS_of_wp ?_
  simp only [List.size_toArray, List.length_cons, List.length_nil, Nat.reduceAdd, Nat.reduceSub, Array.replicate_succ, Array.replicate_zero, List.push_toArray, List.append_toArray, List.nil_append, List.cons_append, List.setIfInBounds_toArray, List.set_cons_succ, List.set_cons_zero]
  have hta := assert_os
  go_wp2
  cases c₀
  simp_all [bodyPostS, results, Tryd.results33]
set_option maxHeartbeats 1000000 in
/-- Behind a panic in Flush: the writer is reset, and the error is laid in its variable. -/
theorem handlePanic_flush (p : Value) (e : Nat) (ea : Addr) (x : Value) (w : World) {A : World → Prop} (hres : Calls Tryd.prog 50 #[p] w fun ed w1 => ed = .returned (.tuple #[]) ∧ A w1) (hA : ∀ w1, A w1 → w1.heap[e]? = some (.cells #[x] 48 (0, 0))) :
    CallsD Tryd.prog 33 #[p, .pointer (some ⟨e, 0, none⟩), .string ⟨#[70, 108, 117, 115, 104]⟩] (.panicking [osEntry ea false]) w fun ed u' w' => ed = .returned (.tuple #[]) ∧ u' = .panicking [osEntry ea true] ∧ ∃ w1, A w1 ∧ w' = (w1.setCell ⟨e, 0, none⟩ (.iface 116 (.pointer (some ea)))).alloc (.cells #[.iface 116 (.pointer (some ea))] 97) := by
  have HRES := Lib.hid hres
  clear hres
  unfold osEntry
  refine callsD_of_wpS Tryd.func33 rfl fun c₀ cs hu => ?_
  apply wpS_seq
  apply wpS_region
  simp [wpOpsS, go_sem, recoverD, hu, Tryd.ntmps33, Exit.thenS]
  apply wpS_seq
  apply wpS_region
  simp [wpOpsS, go_sem, recoverD, Exit.thenS]
  refine wpS_cond (t := true) (by simp [Act.eval, Array.replicate]) ?_
  simp only [if_true]
  refine wpS_of_wp ?_
  simp only [List.size_toArray, List.length_cons, List.length_nil, Nat.reduceAdd, Nat.reduceSub, Array.replicate_succ, Array.replicate_zero, List.push_toArray, List.append_toArray, List.nil_append, List.cons_append, List.setIfInBounds_toArray, List.set_cons_succ, List.set_cons_zero]
  have hta := assert_os
  go_wp2_with fail
  refine HRES.out.mono ?_
  rintro ed w1 ⟨rfl, ha⟩
  have he := hA w1 ha
  have hlt : e < w1.heap.size := lt_of_heap he
  have c0 : w1.cell? ⟨e, 0, none⟩ = some x := by simp [World.cell?, he]
  have f0 : w1.frozen? ⟨e, 0, none⟩ = false := by simp [World.frozen?, he]
  have HA := Lib.hid ha
  clear ha hA he
  go_wp2
  cases c₀
  simp [bodyPostS, results, Tryd.results33]
  exact ⟨w1, HA.out, rfl⟩

section
variable {F : Nat → Prop} {w : World} {B S : Nat} {c : Cfg} {s : St} {k : Nat}

theorem RepAt.mono {G : Nat → Prop} {ht : Bool} {bufv lv wv ov : Value} {vs : List Value} (h : RepAt F w B S c s ht bufv lv wv ov vs) (hG : ∀ k, k < w.heap.size → F k → G k) : RepAt G w B S c s ht bufv lv wv ov vs := by
  refine ⟨h.blk, hG _ (lt_of_heap h.blk) h.FB, h.parts.buf.mono hG, ⟨?_, h.parts.lines.le, fun i v hv => ?_, h.parts.lines.ne⟩, h.parts.wds.mono hG, h.parts.sink, hG _ (lt_of_heap h.parts.sink) h.parts.FS, h.parts.out.mono hG, h.parts.ne, h.parts.fits⟩
  · rcases h.parts.lines.val with h0 | ⟨L, e, hF, hh, hm⟩
    · exact .inl h0
    · exact .inr ⟨L, e, hG _ (lt_of_heap hh) hF, hh, hm⟩
  · obtain ⟨n, xs, ho, hl⟩ := h.parts.lines.row i v hv
    exact ⟨n, xs, ho.mono hG, hl⟩
theorem Rep.mono {G : Nat → Prop} (h : Rep F w B S c s) (hG : ∀ k, k < w.heap.size → F k → G k) : Rep G w B S c s := by
  obtain ⟨bufv, lv, wv, ov, vs, h⟩ := h
  exact ⟨bufv, lv, wv, ov, vs, h.mono hG⟩

/-- The frame of a call that has a variable of its own in the block e. -/
def But (F : Nat → Prop) (e : Nat) (k : Nat) : Prop := F k ∧ k ≠ e
theorem Rep.but (h : Rep F w B S c s) (e : Nat) (he : w.heap.size ≤ e) : Rep (But F e) w B S c s := h.mono fun k hk hF => ⟨hF, by omega⟩
theorem Rep.unbut {e : Nat} (h : Rep (But F e) w B S c s) : Rep F w B S c s := h.mono fun _ _ hF => hF.1

theorem Env.but (h : Env F w) (o : Obj) : Env (But F w.heap.size) (w.alloc o) :=
  ⟨fun k hk => ⟨h.new k (by simp at hk; omega), by simp at hk; omega⟩, fun h2 => h.out h2.1, h.err.elim fun ea e => ⟨ea, (Tch.alloc (fun _ => False) w o).cell e id⟩⟩
theorem Env.lt (h : Env F w) : 0 < w.heap.size := by
  obtain ⟨ea, e⟩ := h.err
  exact block_lt_of_cell e
/-- The frame of a call that had a variable of its own. -/
theorem FullAt.shut {w1 wz : World} {e : Nat} {T : List UInt8} {ea : Addr} {v : Value} {o : Obj} (h : FullAt (But F e) (But F e) w1 B S c T ea wz) (t0 : Tch F w w1) (hFe : F e) (hne : 0 ≠ e) : FullAt F F w B S c T ea ((wz.setCell ⟨e, 0, none⟩ v).alloc o) := by
  obtain ⟨hc, s', ht, bufv, lv, wv, ov, vs, hr, hl, hx, t⟩ := h
  have t2 : Tch (· = e) wz ((wz.setCell ⟨e, 0, none⟩ v).alloc o) := (Tch.setCell (F := (· = e)) (a := ⟨e, 0, none⟩) wz rfl v).trans (Tch.alloc _ _ _)
  exact ⟨t2.cell hc hne, s', ht, bufv, lv, wv, ov, vs, (hr.kept t2 (fun k _ hk => hk.2)).mono (fun k _ hk => hk.1), hl, hx, (t0.trans (t.mono (fun k hk => hk.1))).trans (t2.mono (fun k hk => hk ▸ hFe))⟩

set_option maxHeartbeats 1000000 in
theorem flush_calls (hF : Env F w) (hrep : Rep F w B S c s) (g : Good c s k) :
    Calls Tryd.prog 45 #[.pointer (some ⟨B, 0, none⟩)] w fun ed w' => (ed = .returned .nilIface ∧ Rep F w' B S c (s.flush c) ∧ Tch F w w') ∨ ∃ ea, ed = .returned (.iface 116 (.pointer (some ea))) ∧ FullAt F F w B S c (s.flush c).out ea w' := by
  have HN := Lib.hid (flushNoDefers_calls (F := But F w.heap.size) (w := w.alloc (.cells #[.nilIface] 48)) (hF.but _) ((hrep.but _ (Nat.le_refl _)).alloc _) g)
  have HEV := Lib.hid hF
  have hBl := hrep.conf.2.2.2
  have hFe := hF.new w.heap.size (Nat.le_refl _)
  clear hrep
  go_enter_defers Tryd.func45, Tryd.ntmps45
  go_wp2_with fail
  refine HN.out.mono ?_
  rintro e w1 (⟨rfl, hr, t⟩ | ⟨ea, rfl, hce, s', ht, bufv, lv, wv, ov, vs, hr, hl, hx, t⟩)
  rotate_left
  · have he := t.heap (k := w.heap.size) (heap_alloc_new w _) (fun h => h.2 rfl)
    have hres := reset_any (F := But F w.heap.size) (fun k hk => ⟨HEV.out.new k (by have := t.size; simp at this; omega), by have := t.size; simp at this; omega⟩) hr
    refine leaves_cons (f := 33) (args := #[.pointer (some ⟨B, 0, none⟩), .pointer (some ⟨w.heap.size, 0, none⟩), .string ⟨#[70, 108, 117, 115, 104]⟩]) (by simp) (by simp [go_sem]) ?_
    refine (handlePanic_flush _ w.heap.size ea .nilIface w1 hres (fun w2 h => h.2.heap he (fun h => h.2 rfl))).mono ?_
    rintro ed u' w'' ⟨rfl, rfl, w2, ⟨hr2, t2⟩, rfl⟩
    have he2 := t2.heap he (fun h => h.2 rfl)
    have hc : ((w2.setCell ⟨w.heap.size, 0, none⟩ (.iface 116 (.pointer (some ea)))).alloc (.cells #[.iface 116 (.pointer (some ea))] 97)).cell? ⟨w.heap.size, 0, none⟩ = some (.iface 116 (.pointer (some ea))) := by
      have h1 := blk_set he2 0 (.iface 116 (.pointer (some ea)))
      have h2 := (Tch.alloc (fun _ => False) (w2.setCell ⟨w.heap.size, 0, none⟩ (.iface 116 (.pointer (some ea)))) (.cells #[.iface 116 (.pointer (some ea))] 97)).heap h1 id
      rw [cell_of_blk h2]; simp
    obtain ⟨bufv2, lv2, wv2, ov2, vs2, hr3⟩ := hr2
    have hfull : FullAt (But F w.heap.size) (But F w.heap.size) (w.alloc (.cells #[.nilIface] 48)) B S c (s.flush c).out ea w2 :=
      ⟨t2.cell hce (fun h => HEV.out.out h.1), _, _, _, _, _, _, _, hr3, hl, hx, t.trans t2⟩
    exact ⟨.iface 116 (.pointer (some ea)), by simp [results, Tryd.results45, go_sem, hc], .inr ⟨ea, rfl, hfull.shut (Tch.alloc F w _) hFe (by have := HEV.out.lt; omega)⟩⟩
  have he := t.heap (k := w.heap.size) (heap_alloc_new w _) (fun h => h.2 rfl)
  have c0 : w1.cell? ⟨w.heap.size, 0, none⟩ = some .nilIface := cell_of_blk he 0
  have f0 := frozen_of_blk he 0
  have HR := Lib.hid hr
  have T := Lib.hid t
  have HE := Lib.hid he
  clear hr t he
  go_wp2_with fail
  refine leaves_cons (f := 33) (args := #[.pointer (some ⟨B, 0, none⟩), .pointer (some ⟨w.heap.size, 0, none⟩), .string ⟨#[70, 108, 117, 115, 104]⟩]) (by simp) (by simp [go_sem]) ?_
  refine (handlePanic_idle _ _ _ _).mono ?_
  rintro e u' w'' ⟨rfl, rfl, rfl⟩
  have hR : Rep F (w1.setCell ⟨w.heap.size, 0, none⟩ .nilIface) B S c (s.flush c) := Rep.unbut (HR.out.kept (Tch.setCell (F := (· = w.heap.size)) (a := ⟨w.heap.size, 0, none⟩) w1 rfl _) (fun k _ hk => hk.2))
  have hT : Tch F w (w1.setCell ⟨w.heap.size, 0, none⟩ .nilIface) := ((Tch.alloc F w _).trans (T.out.mono (fun k h => h.1))).trans (Tch.setCell _ hFe _)
  have hc : (w1.setCell ⟨w.heap.size, 0, none⟩ .nilIface).cell? ⟨w.heap.size, 0, none⟩ = some .nilIface := by have := blk_set HE.out 0 .nilIface; rw [cell_of_blk this]; simp
  exact ⟨.nilIface, by simp [results, Tryd.results45, go_sem, hc], .inl ⟨rfl, hR, hT⟩⟩
theorem Flush_calls (hF : Env F w) (hrep : Rep F w B S c s) (g : Good c s k) :
    Calls Tryd.prog 22 #[.pointer (some ⟨B, 0, none⟩)] w fun ed w' => (ed = .returned .nilIface ∧ Rep F w' B S c (s.flush c) ∧ Tch F w w') ∨ ∃ ea, ed = .returned (.iface 116 (.pointer (some ea))) ∧ FullAt F F w B S c (s.flush c).out ea w' := by
  have HN := Lib.hid (flush_calls hF hrep g)
  clear hrep
  go_enter Tryd.func22, Tryd.ntmps22
  go_wp2_with fail
  refine HN.out.mono ?_
  rintro e w1 (⟨rfl, hr, t⟩ | ⟨ea, rfl, hfull⟩)
  · have HR := Lib.hid hr
    have T := Lib.hid t
    clear hr t
    go_wp2_with fail
    go_ret
    exact .inl ⟨rfl, HR.out, T.out⟩
  · have HU := Lib.hid hfull
    clear hfull
    go_wp2_with fail
    go_ret
    exact .inr ⟨ea, rfl, HU.out⟩
end
end Go.Proofs.YteildpeogbenbaaDoor

namespace Go.Proofs.YteildpeogbenbaaDoor
open Go.RowKit Go.Tw Go.Sort
set_option maxRecDepth 100000

/-- A call of a method that takes the writer from s to s'. -/
def Does (F : Nat → Prop) (w : World) (B S : Nat) (c : Cfg) (f : Nat) (args : Array Value) (s s' : St) (ret : Value) : Prop :=
  ∀ w1, Rep F w1 B S c s → Tch F w w1 → Calls Tryd.prog f args w1 fun e w' => e = .returned ret ∧ Rep F w' B S c s' ∧ Tch F w w'

/-- The same, where the sink may be full. -/
def DoesF (F : Nat → Prop) (w : World) (B S : Nat) (c : Cfg) (f : Nat) (args : Array Value) (s s' : St) (ret : Value) : Prop :=
  ∀ w1, Rep F w1 B S c s → Tch F w w1 → Calls Tryd.prog f args w1 fun e w' => (e = .returned ret ∧ Rep F w' B S c s' ∧ Tch F w w') ∨ Stop F F w B S c s'.out e w'

section
variable {F : Nat → Prop} {w : World} {B S : Nat} {c : Cfg} {s : St} {k : Nat}

theorem Does.of {f : Nat} {args : Array Value} {s' : St} {ret : Value} (hF : ∀ k, w.heap.size ≤ k → F k) (h : ∀ w1, (∀ k, w1.heap.size ≤ k → F k) → Rep F w1 B S c s → Calls Tryd.prog f args w1 fun e w' => e = .returned ret ∧ Rep F w' B S c s' ∧ Tch F w1 w') : Does F w B S c f args s s' ret := by
  intro w1 h1 t1
  refine (h w1 (fun k hk => hF k (Nat.le_trans t1.size hk)) h1).mono ?_
  rintro e w' ⟨a1, a2, a3⟩
  exact ⟨a1, a2, t1.trans a3⟩

theorem Good.small (g : Good c s k) : s.buf.length ≤ 9600001 ∧ s.csize ≤ 9600001 ∧ s.cw ≤ 2400000 ∧ 0 ≤ s.cw ∧ cellsOf s.lines + s.lines.length ≤ 9600001 ∧ s.out.length ≤ 92160009600000 := by
  have h1 := g.cost
  have h2 := g.cw
  have h3 := g.kk
  have h4 := g.size
  omega

theorem does_upd (hF : ∀ k, w.heap.size ≤ k → F k) (g : Good c s k) : Does F w B S c 35 #[.pointer (some ⟨B, 0, none⟩)] s s.upd (.tuple #[]) :=
  Does.of hF fun w1 _ h1 => updateWidth_calls h1 g.pos (by have := g.small; omega) (by have := g.small; omega)
theorem does_term (hF : ∀ k, w.heap.size ≤ k → F k) (g : Good c s k) (b : Bool) : Does F w B S c 36 #[.pointer (some ⟨B, 0, none⟩), .bool b] s (s.term b) (.int .i64 (((s.lines.getLastD []).length : Int) + 1)) :=
  Does.of hF fun w1 hf h1 => terminateCell_any hf h1 g.ne (by have := g.small; omega) b
theorem does_line (hF : ∀ k, w.heap.size ≤ k → F k) (g : Good c s k) (b : Bool) : Does F w B S c 37 #[.pointer (some ⟨B, 0, none⟩), .bool b] s s.line (.tuple #[]) :=
  Does.of hF fun w1 hf h1 => addLine_calls hf h1 (by have := g.small; omega) (fun l hl => by have := g.small; have := le_cellsOf hl; omega) b
theorem does_flush (hF : Env F w) (g : Good c s k) : DoesF F w B S c 38 #[.pointer (some ⟨B, 0, none⟩)] s (s.flush c) (.tuple #[]) := by
  intro w1 h1 t1
  refine (stopUp (flushNoDefers_calls (hF.to t1) h1 g) t1 (fun _ _ => id) [] (List.append_nil _)).mono ?_
  rintro e w' (⟨a1, a2, a3⟩ | hE)
  · exact .inl ⟨a1, a2, t1.trans a3⟩
  · exact .inr hE
theorem does_start (hF : ∀ k, w.heap.size ≤ k → F k) (n : Int) (e : UInt8) (hn : n = 255 ∧ e = 255 ∨ n = 60 ∧ e = 62 ∨ n = 38 ∧ e = 59) : Does F w B S c 41 #[.pointer (some ⟨B, 0, none⟩), .int .u8 n] s (s.esc e) (.tuple #[]) :=
  Does.of hF fun _ _ h1 => startEscape_calls n e hn h1
theorem does_end (hF : ∀ k, w.heap.size ≤ k → F k) (g : Good c s k) (h0 : s.en ≠ 0) : Does F w B S c 42 #[.pointer (some ⟨B, 0, none⟩)] s (s.endEsc c) (.tuple #[]) :=
  Does.of hF fun w1 _ h1 => endEscape_any h1 (by rcases g.en with h | h; exact absurd h h0; exact h) g.pos (by have := g.small; omega) (by have := g.small; omega)
/-- The append of a piece of the bytes that are written. -/
theorem does_append (hF : ∀ k, w.heap.size ≤ k → F k) {bk o cp : Nat} {bs : List UInt8} (hrd : ∀ j (h : j < bs.length), w.cell? ⟨bk, o + j, none⟩ = some (bv bs[j])) (hbk : ¬ F bk) (hcp : bs.length ≤ cp) (n i : Nat) (hn : n ≤ i) (hi : i ≤ bs.length) (hb : s.buf.length + (i - n) ≤ 100000000) (hs : s.csize + (i - n) ≤ 100000000) (a2 : Option Addr) (ha2 : (if cp = n then some (⟨bk, o, none⟩ : Addr) else some ⟨bk, o + n, none⟩) = a2) :
    Does F w B S c 34 #[.pointer (some ⟨B, 0, none⟩), .slice a2 (i - n) (cp - n)] s (s.puts (seg bs n i)) (.tuple #[]) := by
  intro w1 h1 t1
  have hl : (seg bs n i).length = i - n := seg_len hi
  obtain ⟨o2, ho2, hc⟩ : ∃ o2, a2 = some ⟨bk, o2, none⟩ ∧ ∀ j (h : j < (seg bs n i).length), w1.cell? ⟨bk, o2 + j, none⟩ = some (bv (seg bs n i)[j]) := by
    by_cases h : cp = n
    · rw [if_pos h] at ha2
      exact ⟨o, ha2.symm, fun j hj => by omega⟩
    · rw [if_neg h] at ha2
      refine ⟨o + n, ha2.symm, fun j hj => ?_⟩
      have hj2 : n + j < bs.length := by omega
      have hx := t1.cell (hrd (n + j) hj2) hbk
      have he : (seg bs n i)[j]? = bs[n + j]? := seg_get (by omega)
      rw [List.getElem?_eq_getElem hj, List.getElem?_eq_getElem hj2] at he
      simp only [Option.some.injEq] at he
      rw [he, Nat.add_assoc]; exact hx
  subst ho2
  have := append_some (fun k hk => hF k (Nat.le_trans t1.size hk)) h1 (bs := seg bs n i) (cp := cp - n) hc (by omega) (by omega)
  rw [hl] at this
  refine this.mono ?_
  rintro e w' ⟨a1, a2, a3⟩
  refine ⟨a1, ?_, t1.trans a3⟩
  unfold St.puts
  rw [hl]
  exact a2
/-- The bar behind a formfeed. -/
theorem write_hbar {w0 : World} (hF : Env F w0) (g : Good c s k) {w1 : World} (h1 : Rep F w1 B S c s) (t1 : Tch F w0 w1) :
    Calls Tryd.prog 39 #[.pointer (some ⟨B, 0, none⟩), .slice (some ⟨w1.heap.size, 0, none⟩) 4 4] (w1.alloc (.cells #[.int .u8 45, .int .u8 45, .int .u8 45, .int .u8 10] 5 (4, 5))) fun e w' => (e = .returned (.tuple #[]) ∧ Rep F w' B S c (s.more hbarL) ∧ Tch F w0 w') ∨ Stop F F w0 B S c (s.more hbarL).out e w' := by
  obtain ⟨bufv, lv, wv, ov, vs, hrp⟩ := h1
  have hF1 : Env F w1 := hF.to t1
  have hrd := Rd.fresh w1 hbarL 4 (4, 5) rfl (by simp [hbarL, maxLen])
  have ta : Tch (fun _ => False) w1 (w1.alloc (.cells #[.int .u8 45, .int .u8 45, .int .u8 45, .int .u8 10] 5 (4, 5))) := Tch.alloc _ _ _
  have hr2 := hrp.kept ta (fun _ _ _ => id)
  refine (write0_calls (G := F) (hF1.step ta id) hr2 ⟨hrp.parts.FS, fun g hg => hrp.parts.out.mem g hg, fun k hk => hF1.new k (by simp at hk; omega), hF.out⟩ hrd (by have := g.small; simp [hbarL]; omega)).mono ?_
  rintro e w' (⟨he, ov', h1, h2, h3⟩ | hE)
  · exact .inl ⟨he, ⟨_, _, _, _, _, h1⟩, (t1.trans (ta.mono (fun _ h => h.elim))).trans h2⟩
  · exact .inr (hE.up (t1.trans (ta.mono (fun _ h => h.elim))) (fun _ _ => id) [] (List.append_nil _))

/-- Write's loop. -/
def WRel (F : Nat → Prop) (w : World) (B S : Nat) (c : Cfg) (s : St) (bs : List UInt8) (t4 t13 : Value) (wr : World) : Prop :=
  ∃ (i n : Nat) (s' : St), n ≤ i ∧ i ≤ bs.length ∧ t13 = .int .i64 i ∧ t4 = .int .i64 n ∧ s'.puts (seg bs n i) = (bs.take i).foldl (St.step c) s ∧ Rep F wr B S c s' ∧ Tch F w wr

theorem puts_puts (s : St) (a b : List UInt8) : (s.puts a).puts b = s.puts (a ++ b) := by simp [St.puts, Nat.add_assoc]
theorem puts_nil (s : St) : s.puts [] = s := by simp [St.puts]
theorem put_puts (s : St) (b : UInt8) : s.put b = s.puts [b] := by simp [St.puts, St.put]
theorem puts_en (s : St) (a : List UInt8) : (s.puts a).en = s.en := rfl

theorem take_step (s : St) {bs : List UInt8} {i : Nat} (h : i < bs.length) : (bs.take (i + 1)).foldl (St.step c) s = ((bs.take i).foldl (St.step c) s).step c bs[i] := by
  rw [List.take_succ_eq_append_getElem h, List.foldl_append]; rfl
end
end Go.Proofs.YteildpeogbenbaaDoor
