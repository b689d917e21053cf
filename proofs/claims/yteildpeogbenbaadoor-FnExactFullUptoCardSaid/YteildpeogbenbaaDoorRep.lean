/- How a tabwriter.Writer and its sink lie in memory. -/
import Derived.Test.YteildpeogbenbaaDoorProg
import Derived.Test.YteildpeogbenbaaDoorBase
namespace Go.Proofs.YteildpeogbenbaaDoor
open Go.RowKit Go.Tw

/-- How a writer is set up, and the room of its sink. -/
structure Cfg where
  mn : Nat
  tb : Nat
  pd : Nat
  ch : UInt8
  fl : Nat
  room : Int

/-- A cell of the writer's. -/
structure PC where
  size : Nat
  width : Int
  htab : Bool
  deriving Inhabited

def PC.vals (p : PC) : List Value := [.int .i64 p.size, .int .i64 p.width, .bool p.htab]
def pcs (l : List PC) : List Value := l.flatMap PC.vals
@[simp] theorem pcs_length (l : List PC) : (pcs l).length = l.length * 3 := by
  induction l with
  | nil => rfl
  | cons p l ih => simp only [pcs, List.flatMap_cons, List.length_append, List.length_cons] at ih ⊢; rw [ih]; simp [PC.vals]; omega
@[simp] theorem pcs_append (l m : List PC) : pcs (l ++ m) = pcs l ++ pcs m := by simp [pcs]

/-- The writer's state. -/
structure St where
  buf : List UInt8
  pos : Nat
  csize : Nat
  cw : Int
  en : UInt8
  lines : List (List PC)
  ws : List Nat
  out : List UInt8

def ivs (l : List Nat) : List Value := l.map fun (n : Nat) => Value.int .i64 n
@[simp] theorem ivs_length (l : List Nat) : (ivs l).length = l.length := by simp [ivs]
@[simp] theorem ivs_append (l m : List Nat) : ivs (l ++ m) = ivs l ++ ivs m := by simp [ivs]

/-- The writer's block. -/
def wcells (S : Nat) (c : Cfg) (bufv : Value) (pos csize : Nat) (cw : Int) (ht : Bool) (en : UInt8) (lv wv : Value) : Array Value :=
  #[.iface 42 (.pointer (some ⟨S, 0, none⟩)), .int .i64 c.mn, .int .i64 c.tb, .int .i64 c.pd,
    bv c.ch, bv c.ch, bv c.ch, bv c.ch, bv c.ch, bv c.ch, bv c.ch, bv c.ch,
    .int .u64 c.fl, bufv, .int .i64 pos, .int .i64 csize, .int .i64 cw, .bool ht, bv en, lv, wv]

/-- The lines: all slices up to the capacity are rows of their own; the first hold the lines' cells. -/
structure LinesOwn (F : Nat → Prop) (w : World) (lv : Value) (lines : List (List PC)) (vs : List Value) : Prop where
  val : (lv = .slice none 0 0 ∧ vs = []) ∨ ∃ L, lv = .slice (some ⟨L, 0, none⟩) lines.length vs.length ∧ F L ∧ w.heap[L]? = some (.cells vs.toArray 100 (0, 0)) ∧ vs.length ≤ maxLen
  le : lines.length ≤ vs.length
  row : ∀ (i : Nat) (v : Value), vs[i]? = some v → ∃ n xs, Own F w 73 3 v n xs ∧ ∀ l, lines[i]? = some l → n = l.length ∧ xs = pcs l
  ne : ∀ (i j : Nat) (v v' : Value), i < j → vs[i]? = some v → vs[j]? = some v' → v.ownBlock = none ∨ v.ownBlock ≠ v'.ownBlock

/-- What the writer's block leads to, and its sink, the parts named. -/
structure Parts (F : Nat → Prop) (w : World) (S : Nat) (room : Int) (bf : List UInt8) (ls : List (List PC)) (ws : List Nat) (ot : List UInt8) (bufv lv wv ov : Value) (vs : List Value) : Prop where
  buf : Own F w 5 1 bufv bf.length (bvs bf)
  lines : LinesOwn F w lv ls vs
  wds : Own F w 3 1 wv ws.length (ivs ws)
  sink : w.heap[S]? = some (.cells #[ov, .int .i64 room] 44 (0, 0))
  FS : F S
  out : Own F w 5 1 ov ot.length (bvs ot)
  ne : ov.ownBlock = none ∨ ov.ownBlock ≠ bufv.ownBlock
  fits : (ot.length : Int) ≤ room ∧ room ≤ 9223372036854775807

structure RepAt (F : Nat → Prop) (w : World) (B S : Nat) (c : Cfg) (s : St) (ht : Bool) (bufv lv wv ov : Value) (vs : List Value) : Prop where
  blk : w.heap[B]? = some (.cells (wcells S c bufv s.pos s.csize s.cw ht s.en lv wv) 77 (0, 0))
  FB : F B
  parts : Parts F w S c.room s.buf s.lines s.ws s.out bufv lv wv ov vs

def Rep (F : Nat → Prop) (w : World) (B S : Nat) (c : Cfg) (s : St) : Prop := ∃ bufv lv wv ov vs, RepAt F w B S c s false bufv lv wv ov vs

section
variable {F G : Nat → Prop} {w w' : World} {B S : Nat} {c : Cfg} {s : St} {ht : Bool} {bufv lv wv ov : Value} {vs : List Value} {room : Int} {bf ot : List UInt8} {ls : List (List PC)} {ws : List Nat}

theorem lt_of_heap {w : World} {k : Nat} {o : Obj} (hk : w.heap[k]? = some o) : k < w.heap.size := (Array.getElem?_eq_some_iff.1 hk).1

theorem LinesOwn.kept {lines : List (List PC)} (h : LinesOwn F w lv lines vs) (t : Tch G w w') (hL : ∀ L, lv.ownBlock = some L → ¬ G L) (hr : ∀ (i : Nat) v g, vs[i]? = some v → v.ownBlock = some g → ¬ G g) : LinesOwn F w' lv lines vs := by
  refine ⟨?_, h.le, fun i v hv => ?_, h.ne⟩
  · rcases h.val with h0 | ⟨L, rfl, hF, hh, hm⟩
    · exact .inl h0
    · exact .inr ⟨L, rfl, hF, t.heap hh (hL L rfl), hm⟩
  · obtain ⟨n, xs, ho, hl⟩ := h.row i v hv
    exact ⟨n, xs, ho.kept t (fun g hg => hr i v g hv hg), hl⟩

theorem LinesOwn.blockL {lines : List (List PC)} (h : LinesOwn F w lv lines vs) {L : Nat} (hL : lv.ownBlock = some L) : w.heap[L]? = some (.cells vs.toArray 100 (0, 0)) ∧ F L := by
  rcases h.val with ⟨rfl, _⟩ | ⟨L', rfl, hF, hh, _⟩
  · simp [Value.ownBlock] at hL
  · simp [Value.ownBlock] at hL; subst hL; exact ⟨hh, hF⟩

theorem LinesOwn.blockR {lines : List (List PC)} (h : LinesOwn F w lv lines vs) {i : Nat} {v : Value} {g : Nat} (hv : vs[i]? = some v) (hg : v.ownBlock = some g) : (∃ cur, w.heap[g]? = some (.cells cur 73 (0, 0))) ∧ F g := by
  obtain ⟨n, xs, ho, _⟩ := h.row i v hv
  exact ⟨ho.block hg, ho.mem g hg⟩

/-- Blocks that are none of the parts' may turn. -/
theorem Parts.kept (h : Parts F w S room bf ls ws ot bufv lv wv ov vs) (t : Tch G w w') (hG : ∀ k, k < w.heap.size → F k → ¬ G k) : Parts F w' S room bf ls ws ot bufv lv wv ov vs :=
  ⟨h.buf.kept t (fun g hg => hG g (h.buf.lt hg) (h.buf.mem g hg)),
   h.lines.kept t (fun L hL => hG L (lt_of_heap (h.lines.blockL hL).1) (h.lines.blockL hL).2) (fun _ _ g hv hg => hG g (lt_of_heap (h.lines.blockR hv hg).1.choose_spec) (h.lines.blockR hv hg).2),
   h.wds.kept t (fun g hg => hG g (h.wds.lt hg) (h.wds.mem g hg)), t.heap h.sink (hG _ (lt_of_heap h.sink) h.FS), h.FS, h.out.kept t (fun g hg => hG g (h.out.lt hg) (h.out.mem g hg)), h.ne, h.fits⟩

/-- Blocks of another kind may turn. -/
def Other (t : TypeId) : Prop := t ≠ 5 ∧ t ≠ 100 ∧ t ≠ 73 ∧ t ≠ 3 ∧ t ≠ 44
theorem Parts.keptOther (h : Parts F w S room bf ls ws ot bufv lv wv ov vs) (t : Tch G w w') (hG : ∀ k, G k → w.heap.size ≤ k ∨ ∃ cs T fr, w.heap[k]? = some (.cells cs T fr) ∧ Other T) : Parts F w' S room bf ls ws ot bufv lv wv ov vs := by
  have no : ∀ {k : Nat} {cs : Array Value} {T : TypeId} {fr : Nat × Nat}, w.heap[k]? = some (.cells cs T fr) → ¬ Other T → ¬ G k := by
    intro k cs T fr hk hT hg
    rcases hG k hg with h1 | ⟨cs', T', fr', h1, h2⟩
    · have := lt_of_heap hk; omega
    · rw [hk] at h1; simp at h1; exact hT (h1.2.1 ▸ h2)
  refine ⟨h.buf.kept t (fun g hg => no (h.buf.block hg).choose_spec (by simp [Other])), h.lines.kept t (fun L hL => no (h.lines.blockL hL).1 (by simp [Other])) (fun i v g hv hg => no (h.lines.blockR hv hg).1.choose_spec (by simp [Other])), h.wds.kept t (fun g hg => no (h.wds.block hg).choose_spec (by simp [Other])), t.heap h.sink (no h.sink (by simp [Other])), h.FS, h.out.kept t (fun g hg => no (h.out.block hg).choose_spec (by simp [Other])), h.ne, h.fits⟩

/-- A store into the writer's own block. -/
theorem Parts.setB (h : Parts F w S room bf ls ws ot bufv lv wv ov vs) {cs : Array Value} (hB : w.heap[B]? = some (.cells cs 77 (0, 0))) (k : Nat) (v : Value) : Parts F (w.setCell ⟨B, k, none⟩ v) S room bf ls ws ot bufv lv wv ov vs :=
  h.keptOther (G := (· = B)) (Tch.setCell (F := (· = B)) (a := ⟨B, k, none⟩) w rfl v) (fun k e => by subst e; exact .inr ⟨_, _, _, hB, by simp [Other]⟩)

theorem Parts.alloc (h : Parts F w S room bf ls ws ot bufv lv wv ov vs) (o : Obj) : Parts F (w.alloc o) S room bf ls ws ot bufv lv wv ov vs :=
  h.keptOther (Tch.alloc (fun _ => False) w o) (fun _ e => e.elim)
theorem Parts.drew (h : Parts F w S room bf ls ws ot bufv lv wv ov vs) : Parts F w.drew S room bf ls ws ot bufv lv wv ov vs :=
  h.keptOther (Tch.drew (fun _ => False) w) (fun _ e => e.elim)

theorem RepAt.kept (h : RepAt F w B S c s ht bufv lv wv ov vs) (t : Tch G w w') (hG : ∀ k, k < w.heap.size → F k → ¬ G k) : RepAt F w' B S c s ht bufv lv wv ov vs :=
  ⟨t.heap h.blk (hG _ (lt_of_heap h.blk) h.FB), h.FB, h.parts.kept t hG⟩

theorem Rep.kept (h : Rep F w B S c s) (t : Tch G w w') (hG : ∀ k, k < w.heap.size → F k → ¬ G k) : Rep F w' B S c s := by
  obtain ⟨bufv, lv, wv, ov, vs, h⟩ := h
  exact ⟨bufv, lv, wv, ov, vs, h.kept t hG⟩
theorem Rep.drew (h : Rep F w B S c s) : Rep F w.drew B S c s := h.kept (Tch.drew (fun _ => False) w) (fun _ _ _ => id)
theorem Rep.alloc (h : Rep F w B S c s) (o : Obj) : Rep F (w.alloc o) B S c s := h.kept (Tch.alloc (fun _ => False) w o) (fun _ _ _ => id)
theorem Rep.below (h : Rep F w B S c s) (b : Below w.heap.size w w') : Rep F w' B S c s := h.kept (Tch.of_below (F := fun _ => False) b) (fun _ _ _ => id)

/-- The buffer's row has grown. -/
theorem Parts.bufGrown (h : Parts F w S room bf ls ws ot bufv lv wv ov vs) {v' : Value} {bs : List UInt8} {n : Nat} {xs : List Value} (hown : Own F w' 5 1 v' n xs) (hn : n = bf.length + bs.length) (hx : xs = bvs bf ++ bvs bs) (hg : w.grownBy w' bufv.ownBlock) (hb : ∀ g, v'.ownBlock = some g → bufv.ownBlock = some g ∨ w.heap.size ≤ g) :
    Parts F w' S room (bf ++ bs) ls ws ot v' lv wv ov vs := by
  subst hn hx
  have t : Tch (fun k => bufv.ownBlock = some k) w w' := Tch.grown hg (fun k e => e)
  have no : ∀ {k : Nat} {cs : Array Value} {T : TypeId} {fr : Nat × Nat}, w.heap[k]? = some (.cells cs T fr) → T ≠ 5 → ¬ (bufv.ownBlock = some k) := fun hk hT => h.buf.ne hk hT
  refine ⟨by simpa using hown, h.lines.kept t (fun L hL => no (h.lines.blockL hL).1 (by decide)) (fun i v g hv hg => no (h.lines.blockR hv hg).1.choose_spec (by decide)), h.wds.kept t (fun g hg => no (h.wds.block hg).choose_spec (by decide)), t.heap h.sink (no h.sink (by decide)), h.FS, ?_, ?_, h.fits⟩
  · refine h.out.kept t (fun g hg e => ?_)
    rcases h.ne with h0 | h0
    · rw [h0] at hg; cases hg
    · exact h0 (hg.trans e.symm)
  · rcases hv : ov.ownBlock with _ | g
    · exact .inl rfl
    · refine .inr fun e => ?_
      rcases hb g e.symm with h1 | h1
      · rcases h.ne with h0 | h0
        · rw [h0] at hv; cases hv
        · exact h0 (hv.trans h1.symm)
      · have := h.out.lt hv; omega
end

theorem Tryd.info_u8 : (Tryd.prog.info? 5).map (fun i => (i.zero, i.size, i.bytes)) = some (some (.int .u8 0), 1, 1) := by kernel_rfl
theorem Tryd.info_int : (Tryd.prog.info? 3).map (fun i => (i.zero, i.size, i.bytes)) = some (some (.int .i64 0), 1, 8) := by kernel_rfl
theorem Tryd.info_pc : (Tryd.prog.info? 73).map (fun i => (i.zero, i.size, i.bytes)) = some (some (.agg #[.int .i64 0, .int .i64 0, .bool false]), 3, 24) := by kernel_rfl
theorem Tryd.info_pcl : (Tryd.prog.info? 100).map (fun i => (i.zero, i.size, i.bytes)) = some (some (.slice none 0 0), 1, 24) := by kernel_rfl

end Go.Proofs.YteildpeogbenbaaDoor
