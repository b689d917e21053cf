/- What writeLines writes, and what holds in the midst of a cell. -/
import Derived.Test.YteildpeogbenbaaDoorWh
import Derived.Deep.CutRange
import Derived.Deep.CutBlock
import Derived.Deep.DeepCutAuto
namespace Go.Proofs.YteildpeogbenbaaDoor
open Go.RowKit Go.Tw Go.Sort
set_option maxRecDepth 100000

/-- A flag of the writer. -/
def Cfg.flag (c : Cfg) (k : Int) : Bool := bits BinOp.and IntKind.u64 (c.fl : Int) k != 0

/-- One cell as it is written. -/
def cellOut (c : Cfg) (ws : List Nat) (buf : List UInt8) (j pos : Nat) (ut : Bool) (p : PC) : List UInt8 :=
  (if 0 < j ∧ c.flag 32 = true then [124] else []) ++
  (if p.size = 0 then (if j < ws.length then padB c p.width.toNat (ws.getD j 0) ut else [])
   else if c.flag 4 = true then (if j < ws.length then padB c p.width.toNat (ws.getD j 0) false else []) ++ (buf.drop pos).take p.size
   else (buf.drop pos).take p.size ++ (if j < ws.length then padB c p.width.toNat (ws.getD j 0) false else []))

/-- The cells of a line from the j-th on. -/
def cellsOut (c : Cfg) (ws : List Nat) (buf : List UInt8) : Nat → Nat → Bool → List PC → List UInt8
  | _, _, _, [] => []
  | j, pos, ut, p :: rest => cellOut c ws buf j pos ut p ++ cellsOut c ws buf (j + 1) (pos + p.size) (ut && p.size == 0) rest

/-- How many bytes of text a line has. -/
def sizeOfCells (l : List PC) : Nat := (l.map (·.size)).sum


theorem cellsOut_snoc (c : Cfg) (ws : List Nat) (buf : List UInt8) (l : List PC) (p : PC) : ∀ j pos ut, cellsOut c ws buf j pos ut (l ++ [p]) = cellsOut c ws buf j pos ut l ++ cellOut c ws buf (j + l.length) (pos + sizeOfCells l) (ut && l.all (·.size == 0)) p := by
  induction l with
  | nil => intro j pos ut; simp [cellsOut, sizeOfCells]
  | cons q l ih =>
    intro j pos ut
    simp only [List.cons_append, cellsOut, ih, List.append_assoc]
    congr 2
    simp only [sizeOfCells, List.map_cons, List.sum_cons, List.length_cons, List.all_cons]
    rw [show j + 1 + l.length = j + (l.length + 1) by omega, show pos + q.size + (l.map (·.size)).sum = pos + (q.size + (l.map (·.size)).sum) by omega, Bool.and_assoc]


/-- Lines as they are written: each with a newline, but the last of all n. -/
def linesOut (c : Cfg) (ws : List Nat) (buf : List UInt8) (n : Nat) : Nat → Nat → List (List PC) → List UInt8
  | _, _, [] => []
  | k, pos, l :: rest => cellsOut c ws buf 0 pos (c.flag 16) l ++ (if k + 1 = n then [] else [10]) ++ linesOut c ws buf n (k + 1) (pos + sizeOfCells l) rest

section
variable {F G : Nat → Prop} {w : World} {B S : Nat} {c : Cfg} {s : St} {ht : Bool} {bufv lv wv ov : Value} {vs : List Value}

/-- The outer loop's relation. -/
def LRel (F G : Nat → Prop) (w : World) (B S : Nat) (c : Cfg) (s : St) (ht : Bool) (bufv lv wv : Value) (vs : List Value) (p0 l0 l1 : Nat) (t8 t9 : Value) (wr : World) : Prop :=
  ∃ k : Nat, l0 ≤ k ∧ k ≤ l1 ∧ t9 = .int .i64 k ∧ t8 = .int .i64 (p0 + (((s.lines.take k).drop l0).map sizeOfCells).sum : Nat) ∧
    Wrote F G w B S c s ht bufv lv wv vs (linesOut c s.ws s.buf s.lines.length l0 p0 ((s.lines.take k).drop l0)) wr

theorem pcs_get {l : List PC} {j : Nat} {p : PC} (h : l[j]? = some p) (i : Nat) (hi : i < 3) : (pcs l)[j * 3 + i]? = (PC.vals p)[i]? := by
  induction l generalizing j with
  | nil => simp at h
  | cons q l ih =>
    cases j with
    | zero =>
      simp at h; subst h
      simp only [pcs, List.flatMap_cons, Nat.zero_mul, Nat.zero_add]
      rw [List.getElem?_append_left (by simp [PC.vals]; omega)]
    | succ j =>
      simp only [List.getElem?_cons_succ] at h
      have := ih h
      simp only [pcs, List.flatMap_cons] at this ⊢
      rw [List.getElem?_append_right (by simp [PC.vals]; omega)]
      rw [show (j + 1) * 3 + i - (PC.vals q).length = j * 3 + i by simp [PC.vals]; omega]
      exact this

theorem take_drop_succ {α : Type} {ls : List α} {k l0 : Nat} {l : α} (h : ls[k]? = some l) (h0 : l0 ≤ k) : (ls.take (k + 1)).drop l0 = (ls.take k).drop l0 ++ [l] := by
  rw [List.take_add_one, h, Option.toList_some, List.drop_append_of_le_length]
  have := (List.getElem?_eq_some_iff.1 h).1
  simp; omega
theorem linesOut_snoc (c : Cfg) (ws : List Nat) (buf : List UInt8) (n : Nat) (l : List PC) : ∀ (ls : List (List PC)) (k pos : Nat), linesOut c ws buf n k pos (ls ++ [l]) = linesOut c ws buf n k pos ls ++ (cellsOut c ws buf 0 (pos + (ls.map sizeOfCells).sum) (c.flag 16) l ++ (if k + ls.length + 1 = n then [] else [10])) := by
  intro ls
  induction ls with
  | nil => intro k pos; simp [linesOut]
  | cons x ls ih =>
    intro k pos
    simp only [List.cons_append, linesOut, ih, List.append_assoc, List.map_cons, List.sum_cons, List.length_cons]
    rw [show pos + sizeOfCells x + (ls.map sizeOfCells).sum = pos + (sizeOfCells x + (ls.map sizeOfCells).sum) by omega, show k + 1 + ls.length + 1 = k + (ls.length + 1) + 1 by omega]

theorem linesOut_append (c : Cfg) (ws : List Nat) (buf : List UInt8) (n : Nat) (bs : List (List PC)) : ∀ (ls : List (List PC)) (k pos : Nat), linesOut c ws buf n k pos (ls ++ bs) = linesOut c ws buf n k pos ls ++ linesOut c ws buf n (k + ls.length) (pos + (ls.map sizeOfCells).sum) bs := by
  intro ls
  induction ls with
  | nil => intro k pos; simp [linesOut]
  | cons x ls ih =>
    intro k pos
    simp only [List.cons_append, linesOut, ih, List.append_assoc, List.map_cons, List.sum_cons, List.length_cons]
    rw [show pos + sizeOfCells x + (ls.map sizeOfCells).sum = pos + (sizeOfCells x + (ls.map sizeOfCells).sum) by omega, show k + 1 + ls.length = k + (ls.length + 1) by omega]

/-- What is written up to the k-th line, with it, is part of all. -/
theorem linesOut_part (c : Cfg) (ws : List Nat) (buf : List UInt8) {ls : List (List PC)} {k l0 l1 p0 : Nat} {l : List PC} (h : ls[k]? = some l) (h0 : l0 ≤ k) (h1 : k < l1) :
    (linesOut c ws buf ls.length l0 p0 ((ls.take k).drop l0)).length + (cellsOut c ws buf 0 (p0 + (((ls.take k).drop l0).map sizeOfCells).sum) (c.flag 16) l).length + (if k + 1 = ls.length then 0 else 1) ≤ (linesOut c ws buf ls.length l0 p0 ((ls.take l1).drop l0)).length := by
  have hk := (List.getElem?_eq_some_iff.1 h).1
  have e : (ls.take l1).drop l0 = (ls.take (k + 1)).drop l0 ++ (ls.take l1).drop (k + 1) := by
    have e1 : ls.take l1 = ls.take (k + 1) ++ (ls.take l1).drop (k + 1) := by
      have := (List.take_append_drop (k + 1) (ls.take l1)).symm
      rwa [List.take_take, Nat.min_eq_left (by omega)] at this
    rw [e1, List.drop_append_of_le_length (by simp; omega)]
    congr 1
    rw [← e1]
  have e2 : l0 + ((ls.take k).drop l0).length = k := by simp; omega
  rw [e, linesOut_append, take_drop_succ h h0, linesOut_snoc, e2]
  simp only [List.length_append]
  split <;> simp <;> omega

theorem sizes_part {ls : List (List PC)} {k l0 l1 : Nat} {l : List PC} (h : ls[k]? = some l) (h0 : l0 ≤ k) (h1 : k < l1) (p0 : Nat) : p0 + (((ls.take k).drop l0).map sizeOfCells).sum + sizeOfCells l ≤ p0 + (((ls.take l1).drop l0).map sizeOfCells).sum := by
  have hk := (List.getElem?_eq_some_iff.1 h).1
  have e : (ls.take l1).drop l0 = (ls.take (k + 1)).drop l0 ++ (ls.take l1).drop (k + 1) := by
    have e1 : ls.take l1 = ls.take (k + 1) ++ (ls.take l1).drop (k + 1) := by
      have := (List.take_append_drop (k + 1) (ls.take l1)).symm
      rwa [List.take_take, Nat.min_eq_left (by omega)] at this
    rw [e1, List.drop_append_of_le_length (by simp; omega)]
    congr 1
    rw [← e1]
  rw [e, take_drop_succ h h0]
  simp only [List.map_append, List.sum_append, List.map_cons, List.map_nil, List.sum_cons, List.sum_nil]
  omega

/-- write0 of a new block of one byte. -/
theorem write0Fresh1 (hF : Env F w) (hrp : RepAt F w B S c s ht bufv lv wv ov vs) (hG : OutG G w S ov) (b : UInt8) (bi : Int) (hbi : bi = b.toNat) (hb : s.out.length + 1 ≤ 140737488355328) :
    Calls Tryd.prog 39 #[.pointer (some ⟨B, 0, none⟩), .slice (some ⟨w.heap.size, 0, none⟩) 1 1] (w.alloc (.cells #[.int .u8 bi] 5)) fun e w' => (e = .returned (.tuple #[]) ∧ Wrote F G w B S c s ht bufv lv wv vs [b] w') ∨ Stop F G w B S c (s.out ++ [b]) e w' := by
  subst hbi
  have hrd := Rd.fresh w [b] 1 (0, 0) rfl (by simp [maxLen])
  have ta : Tch (fun _ => False) w (w.alloc (.cells #[.int .u8 b.toNat] 5)) := Tch.alloc _ _ _
  have hr2 := hrp.kept ta (fun _ _ _ => id)
  refine (write0_calls (hF.step ta id) hr2 ⟨hG.sink, hG.row, fun k hk => hG.new k (by simp at hk; omega), hG.err⟩ hrd (by simpa using hb)).mono ?_
  rintro e w' (⟨he, ov', h1, h2, h3⟩ | hE)
  · exact .inl ⟨he, ov', h1, (ta.mono (fun _ h => h.elim)).trans h2, h3⟩
  · exact .inr (hE.up (ta.mono (fun _ h => h.elim)) (fun _ _ => id) [] (List.append_nil _))

theorem cellsOut_pre (c : Cfg) (ws : List Nat) (buf : List UInt8) (b : List PC) : ∀ (a : List PC) (j pos : Nat) (ut : Bool), (cellsOut c ws buf j pos ut a).length ≤ (cellsOut c ws buf j pos ut (a ++ b)).length := by
  intro a
  induction a with
  | nil => intro j pos ut; simp [cellsOut]
  | cons x a ih =>
    intro j pos ut
    simp only [List.cons_append, cellsOut, List.length_append]
    have := ih (j + 1) (pos + x.size) (ut && x.size == 0)
    omega
theorem cellsOut_part (c : Cfg) (ws : List Nat) (buf : List UInt8) {l : List PC} {j : Nat} {p : PC} (h : l[j]? = some p) (pos : Nat) (ut : Bool) :
    (cellsOut c ws buf 0 pos ut (l.take j)).length + (cellOut c ws buf j (pos + sizeOfCells (l.take j)) (ut && (l.take j).all (·.size == 0)) p).length ≤ (cellsOut c ws buf 0 pos ut l).length := by
  have hj := (List.getElem?_eq_some_iff.1 h).1
  have e : l.take (j + 1) = l.take j ++ [p] := by rw [List.take_add_one, h]; rfl
  have := cellsOut_pre c ws buf (l.drop (j + 1)) (l.take (j + 1)) 0 pos ut
  rw [List.take_append_drop, e, cellsOut_snoc] at this
  simp only [List.length_append, List.length_take, Nat.zero_add, Nat.min_eq_left (Nat.le_of_lt hj)] at this
  exact this
theorem sizes_cells {l : List PC} {j : Nat} {p : PC} (h : l[j]? = some p) : sizeOfCells (l.take (j + 1)) = sizeOfCells (l.take j) + p.size ∧ sizeOfCells (l.take (j + 1)) ≤ sizeOfCells l := by
  have e : l.take (j + 1) = l.take j ++ [p] := by rw [List.take_add_one, h]; rfl
  constructor
  · rw [e]; simp [sizeOfCells]
  · have := congrArg sizeOfCells (List.take_append_drop (j + 1) l)
    simp only [sizeOfCells, List.map_append, List.sum_append] at this ⊢
    omega

theorem linesOut_split (c : Cfg) (ws : List Nat) (buf : List UInt8) {ls : List (List PC)} {k l0 l1 p0 : Nat} {l : List PC} (h : ls[k]? = some l) (h0 : l0 ≤ k) (h1 : k < l1) :
    ∃ x, linesOut c ws buf ls.length l0 p0 ((ls.take k).drop l0) ++ (cellsOut c ws buf 0 (p0 + (((ls.take k).drop l0).map sizeOfCells).sum) (c.flag 16) l ++ (if k + 1 = ls.length then [] else [10])) ++ x = linesOut c ws buf ls.length l0 p0 ((ls.take l1).drop l0) := by
  have hk := (List.getElem?_eq_some_iff.1 h).1
  have e : (ls.take l1).drop l0 = (ls.take (k + 1)).drop l0 ++ (ls.take l1).drop (k + 1) := by
    have e1 : ls.take l1 = ls.take (k + 1) ++ (ls.take l1).drop (k + 1) := by
      have := (List.take_append_drop (k + 1) (ls.take l1)).symm
      rwa [List.take_take, Nat.min_eq_left (by omega)] at this
    rw [e1, List.drop_append_of_le_length (by simp; omega)]
    congr 1
    rw [← e1]
  have e2 : l0 + ((ls.take k).drop l0).length = k := by simp; omega
  rw [e, linesOut_append, take_drop_succ h h0, linesOut_snoc, e2]
  exact ⟨_, rfl⟩
theorem cellsOut_more (c : Cfg) (ws : List Nat) (buf : List UInt8) (b : List PC) : ∀ (a : List PC) (j pos : Nat) (ut : Bool), ∃ x, cellsOut c ws buf j pos ut a ++ x = cellsOut c ws buf j pos ut (a ++ b) := by
  intro a
  induction a with
  | nil => intro j pos ut; exact ⟨_, rfl⟩
  | cons y a ih =>
    intro j pos ut
    obtain ⟨x, hx⟩ := ih (j + 1) (pos + y.size) (ut && y.size == 0)
    exact ⟨x, by simp only [List.cons_append, cellsOut, List.append_assoc]; rw [hx]⟩
theorem cellsOut_split (c : Cfg) (ws : List Nat) (buf : List UInt8) {l : List PC} {j : Nat} {p : PC} (h : l[j]? = some p) (pos : Nat) (ut : Bool) :
    ∃ x, cellsOut c ws buf 0 pos ut (l.take j) ++ cellOut c ws buf j (pos + sizeOfCells (l.take j)) (ut && (l.take j).all (·.size == 0)) p ++ x = cellsOut c ws buf 0 pos ut l := by
  have hj := (List.getElem?_eq_some_iff.1 h).1
  have e : l.take (j + 1) = l.take j ++ [p] := by rw [List.take_add_one, h]; rfl
  obtain ⟨x, hx⟩ := cellsOut_more c ws buf (l.drop (j + 1)) (l.take (j + 1)) 0 pos ut
  have e2 : (l.take j).length = j := by simp; omega
  rw [List.take_append_drop, e, cellsOut_snoc, e2, Nat.zero_add] at hx
  exact ⟨x, hx⟩
theorem pre1 {T a cl b d : List UInt8} (h : ∃ x, a ++ cl ++ x = T) (hc : cl = b ++ d) : ∃ x, a ++ b ++ x = T := by
  obtain ⟨x, rfl⟩ := h
  exact ⟨d ++ x, by rw [hc]; simp only [List.append_assoc]⟩
theorem pre2 {T a cl b d : List UInt8} (h : ∃ x, a ++ cl ++ x = T) (hc : cl = b ++ d) : ∃ x, a ++ b ++ d ++ x = T := by
  obtain ⟨x, rfl⟩ := h
  exact ⟨x, by rw [hc]; simp only [List.append_assoc]⟩
theorem pre3 {T a cl b d e : List UInt8} (h : ∃ x, a ++ cl ++ x = T) (hc : cl = b ++ (d ++ e)) : ∃ x, a ++ b ++ d ++ x = T := by
  obtain ⟨x, rfl⟩ := h
  exact ⟨e ++ x, by rw [hc]; simp only [List.append_assoc]⟩
theorem pre4 {T a cl b d e : List UInt8} (h : ∃ x, a ++ cl ++ x = T) (hc : cl = b ++ (d ++ e)) : ∃ x, a ++ b ++ d ++ e ++ x = T := by
  obtain ⟨x, rfl⟩ := h
  exact ⟨x, by rw [hc]; simp only [List.append_assoc]⟩
theorem wideT {P : Program} {fn : FuncId} {args : Array Value} {wa : World} {A : Ending → World → Prop} {T T' : List UInt8} (h : Calls P fn args wa fun e w' => A e w' ∨ Stop F G w B S c T e w') (hT : ∃ x, T ++ x = T') : Calls P fn args wa fun e w' => A e w' ∨ Stop F G w B S c T' e w' := by
  obtain ⟨x, hx⟩ := hT
  exact stopUp h (Tch.refl _ _) (fun _ _ => id) x hx

/-- In the midst of a cell: so much has gone out, and the box of the cell is whole. -/
def Mid (F G : Nat → Prop) (w : World) (B S : Nat) (c : Cfg) (s : St) (ht : Bool) (bufv lv wv : Value) (vs : List Value) (bx : Nat) (p : PC) (out : List UInt8) (wx : World) : Prop :=
  ∃ ov, RepAt F wx B S c { s with out := out } ht bufv lv wv ov vs ∧ Tch G w wx ∧ OutG (fun k => G k ∧ k ≠ bx) wx S ov ∧
    wx.heap[bx]? = some (.cells #[.int .i64 p.size, .int .i64 p.width, .bool p.htab] 73 (0, 0)) ∧ Env F wx

section
variable {bx gw cw : Nat} {p : PC} {out : List UInt8} {wx : World}
theorem Mid.cells (h : Mid F G w B S c s ht bufv lv wv vs bx p out wx) : wx.cell? ⟨bx, 0, none⟩ = some (.int .i64 p.size) ∧ wx.cell? ⟨bx, 1, none⟩ = some (.int .i64 p.width) ∧ wx.cell? ⟨B, 12, none⟩ = some (.int .u64 c.fl) ∧ wx.cell? ⟨B, 13, none⟩ = some bufv ∧ wx.cell? ⟨B, 20, none⟩ = some wv := by
  obtain ⟨ov, hr, _, _, hb, _⟩ := h
  exact ⟨cell_of_blk hb 0, cell_of_blk hb 1, cell_of_blk hr.blk 12, cell_of_blk hr.blk 13, cell_of_blk hr.blk 20⟩
theorem Mid.drew (h : Mid F G w B S c s ht bufv lv wv vs bx p out wx) : Mid F G w B S c s ht bufv lv wv vs bx p out wx.drew := by
  obtain ⟨ov, hr, t, g, hb, hF⟩ := h
  exact ⟨ov, hr.kept (Tch.drew (fun _ => False) wx) (fun _ _ _ => id), t.trans (Tch.drew _ _), ⟨g.sink, g.row, g.new, g.err⟩, hb, hF.step (Tch.drew (fun _ => False) wx) id⟩
theorem Mid.step {w6 : World} {bs : List UInt8} (h : Mid F G w B S c s ht bufv lv wv vs bx p out wx) (hw : Wrote F (fun k => G k ∧ k ≠ bx) wx B S c { s with out := out } ht bufv lv wv vs bs w6) : Mid F G w B S c s ht bufv lv wv vs bx p (out ++ bs) w6 := by
  obtain ⟨ov, hr, t, g, hb, hF⟩ := h
  obtain ⟨ov', hr', t', g'⟩ := hw
  exact ⟨ov', hr', t.trans (t'.mono (fun k h => h.1)), g', t'.heap hb (fun h => h.2 rfl), hF.step t' g.err⟩
theorem Mid.write0 (h : Mid F G w B S c s ht bufv lv wv vs bx p out wx) {v : Value} {bs : List UInt8} (hrd : Rd wx v bs) (hb : out.length + bs.length ≤ 140737488355328) :
    Calls Tryd.prog 39 #[.pointer (some ⟨B, 0, none⟩), v] wx fun e w' => (e = .returned (.tuple #[]) ∧ Mid F G w B S c s ht bufv lv wv vs bx p (out ++ bs) w') ∨ Stop F G w B S c (out ++ bs) e w' := by
  have h0 := h
  obtain ⟨ov, hr, t, g, hbx, hF⟩ := h
  exact (write0_calls hF hr g hrd hb).mono fun e w' h => h.imp (fun ⟨he, hw⟩ => ⟨he, h0.step hw⟩) (fun hE => hE.up t (fun _ _ h => h.1) [] (List.append_nil _))
theorem Mid.fresh1 (h : Mid F G w B S c s ht bufv lv wv vs bx p out wx) (b : UInt8) (bi : Int) (hbi : bi = b.toNat) (hb : out.length + 1 ≤ 140737488355328) :
    Calls Tryd.prog 39 #[.pointer (some ⟨B, 0, none⟩), .slice (some ⟨wx.heap.size, 0, none⟩) 1 1] (wx.alloc (.cells #[.int .u8 bi] 5)) fun e w' => (e = .returned (.tuple #[]) ∧ Mid F G w B S c s ht bufv lv wv vs bx p (out ++ [b]) w') ∨ Stop F G w B S c (out ++ [b]) e w' := by
  have h0 := h
  obtain ⟨ov, hr, t, g, hbx, hF⟩ := h
  exact (write0Fresh1 hF hr g b bi hbi hb).mono fun e w' h => h.imp (fun ⟨he, hw⟩ => ⟨he, h0.step hw⟩) (fun hE => hE.up t (fun _ _ h => h.1) [] (List.append_nil _))
theorem Mid.pad (h : Mid F G w B S c s ht bufv lv wv vs bx p out wx) (hGB : ¬ G B) (n : Int) (cl : Nat) (ut : Bool) (hn : 0 ≤ n) (hle : n ≤ cl) (hcl : cl ≤ 1000000000000) (htb : c.tb ≤ 1000000) (hb : out.length ≤ 130000000000000) :
    Calls Tryd.prog 55 #[.pointer (some ⟨B, 0, none⟩), .int .i64 n, .int .i64 cl, .bool ut] wx fun e w' => (e = .returned (.tuple #[]) ∧ Mid F G w B S c s ht bufv lv wv vs bx p (out ++ padB c n.toNat cl ut) w') ∨ Stop F G w B S c (out ++ padB c n.toNat cl ut) e w' := by
  have h0 := h
  obtain ⟨ov, hr, t, g, hbx, hF⟩ := h
  obtain ⟨m, rfl⟩ : ∃ m : Nat, n = m := ⟨n.toNat, by omega⟩
  exact (writePadding_calls hF hr g (fun h => hGB h.1) m cl ut (by omega) hcl htb (by simp only; omega)).mono fun e w' h => h.imp (fun ⟨he, hw⟩ => ⟨he, h0.step hw⟩) (fun hE => hE.up t (fun _ _ h => h.1) [] (List.append_nil _))
theorem Mid.wsj (h : Mid F G w B S c s ht bufv lv wv vs bx p out wx) : ∃ aw cw, wv = .slice aw s.ws.length cw ∧ ∀ j, j < s.ws.length → ∃ gw, aw = some ⟨gw, 0, none⟩ := by
  obtain ⟨ov, hr, _⟩ := h
  have ho := hr.parts.wds
  rcases ho.row.2 with ⟨e, h0⟩ | ⟨g, cap, cur, e, _⟩
  · exact ⟨none, 0, by rw [e]; simp only at h0; rw [h0], fun j hj => by simp only at h0; omega⟩
  · exact ⟨_, _, e, fun j _ => ⟨g, rfl⟩⟩
theorem Mid.wcell (h : Mid F G w B S c s ht bufv lv (.slice (some ⟨gw, 0, none⟩) s.ws.length cw) vs bx p out wx) {j : Nat} (hj : j < s.ws.length) : wx.cell? ⟨gw, j, none⟩ = some (.int .i64 (s.ws.getD j 0 : Nat)) := by
  obtain ⟨ov, hr, _⟩ := h
  have ho := hr.parts.wds
  rcases ho.row.2 with ⟨e, h0⟩ | ⟨g, cap, cur, e, _, hg, hc, hm, hs, htk⟩
  · simp at e
  · simp only [Value.slice.injEq, Option.some.injEq, Addr.mk.injEq] at e
    obtain ⟨⟨rfl, _⟩, _, _⟩ := e
    rw [cell_of_blk hg]
    have h2 : (ivs s.ws)[j]? = some (.int .i64 (s.ws.getD j 0 : Nat)) := by simp [ivs, hj, List.getD_eq_getElem?_getD]
    rw [← htk, List.getElem?_take, if_pos (by simpa using hj)] at h2
    simpa using h2
theorem Mid.text {ab : Option Addr} {cb : Nat} (h : Mid F G w B S c s ht (.slice ab s.buf.length cb) lv wv vs bx p out wx) {pos n : Nat} (hq : pos + n ≤ s.buf.length) : s.buf.length ≤ cb ∧ cb ≤ 9223372036854775807 ∧ Rd wx (.slice (if cb = pos then ab else ab.map (·.add pos)) n (cb - pos)) ((s.buf.drop pos).take n) := by
  obtain ⟨ov, hr, _⟩ := h
  have hrd := Own.rd hr.parts.buf
  have h1 := hrd.val
  obtain ⟨ao', cp', e, h2, h3, _⟩ := h1
  simp only [Value.slice.injEq] at e
  unfold maxLen at h3
  simp only at h2
  have := (hrd.dropped (k := pos) (by simp only; omega)).taken (k := n) (by simp; omega)
  exact ⟨by omega, by omega, this⟩
end

/-- The inner loop's relation. -/
def IRel (F G : Nat → Prop) (w : World) (B S : Nat) (c : Cfg) (s : St) (ht : Bool) (bufv lv wv : Value) (vs : List Value) (pre : List UInt8) (l : List PC) (P : Nat) (ti : Bool) (t8 t11 t36 : Value) (wr : World) : Prop :=
  ∃ j : Nat, j ≤ l.length ∧ t36 = .int .i64 j ∧ t8 = .int .i64 (P + sizeOfCells (l.take j) : Nat) ∧ t11 = .bool (ti && (l.take j).all (·.size == 0)) ∧
    Wrote F G w B S c s ht bufv lv wv vs (pre ++ cellsOut c s.ws s.buf 0 P ti (l.take j)) wr

end
end Go.Proofs.YteildpeogbenbaaDoor
