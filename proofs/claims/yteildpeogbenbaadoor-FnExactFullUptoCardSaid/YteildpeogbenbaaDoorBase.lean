/- Plain notions on worlds for the walks: which blocks a call may turn ('Tch'), rows that a call owns ('Own'), slices that read as bytes ('Rd'). Nothing of the program is named here. -/
import Derived.WalkKit
import Derived.Laws.AppendOwnNone
import Derived.Deep.Draws
import Derived.Lib.Hide
namespace Go.Tw
open Go.RowKit

/-- Of the blocks that are there only those in F may have turned; new ones may have come. -/
structure Tch (F : Nat → Prop) (w w' : World) : Prop where
  os : w'.os = w.os
  tape : w'.tape = w.tape
  output : w'.output = w.output
  size : w.heap.size ≤ w'.heap.size
  block : ∀ k, k < w.heap.size → ¬ F k → w'.heap[k]? = w.heap[k]?

theorem Tch.refl (F : Nat → Prop) (w : World) : Tch F w w := ⟨rfl, rfl, rfl, Nat.le_refl _, fun _ _ _ => rfl⟩
theorem Tch.trans {F : Nat → Prop} {a b c : World} (h : Tch F a b) (k : Tch F b c) : Tch F a c :=
  ⟨k.os.trans h.os, k.tape.trans h.tape, k.output.trans h.output, Nat.le_trans h.size k.size, fun i hi hf => (k.block i (Nat.lt_of_lt_of_le hi h.size) hf).trans (h.block i hi hf)⟩
theorem Tch.mono {F G : Nat → Prop} {w w' : World} (h : Tch F w w') (hG : ∀ k, F k → G k) : Tch G w w' :=
  ⟨h.os, h.tape, h.output, h.size, fun k hk hf => h.block k hk (fun hF => hf (hG k hF))⟩
/-- What may have turned among the old blocks alone counts. -/
theorem Tch.mono' {F G : Nat → Prop} {w w' : World} (h : Tch F w w') (hG : ∀ k, k < w.heap.size → F k → G k) : Tch G w w' :=
  ⟨h.os, h.tape, h.output, h.size, fun k hk hf => h.block k hk (fun hF => hf (hG k hk hF))⟩
theorem Tch.alloc (F : Nat → Prop) (w : World) (o : Obj) : Tch F w (w.alloc o) :=
  ⟨rfl, rfl, rfl, by simp, fun k hk _ => Below.heap_alloc _ _ _ hk⟩
theorem Tch.setCell {F : Nat → Prop} (w : World) {a : Addr} (ha : F a.block) (u : Value) : Tch F w (w.setCell a u) :=
  ⟨rfl, rfl, rfl, by simp [World.setCell], fun k _ hf => Below.heap_setCell _ _ _ _ (fun e => hf (e ▸ ha))⟩
theorem Tch.drew (F : Nat → Prop) (w : World) : Tch F w w.drew := ⟨rfl, rfl, rfl, Nat.le_refl _, fun _ _ _ => rfl⟩
theorem Tch.drewN (F : Nat → Prop) (w : World) (n : Nat) : Tch F w (w.drewN n) := ⟨rfl, rfl, rfl, Nat.le_refl _, fun _ _ _ => rfl⟩
theorem Tch.of_below {F : Nat → Prop} {w w' : World} (h : Below w.heap.size w w') : Tch F w w' :=
  ⟨h.os, h.tape, h.output, h.size, fun k hk _ => h.block k hk⟩
theorem Tch.below {F : Nat → Prop} {B : Nat} {w w' : World} (h : Tch F w w') (hB : B ≤ w.heap.size) (hF : ∀ k, k < B → ¬ F k) : Below B w w' :=
  ⟨h.os, h.tape, h.output, h.size, fun k hk => h.block k (by omega) (hF k hk)⟩
theorem Tch.grown {F : Nat → Prop} {w w' : World} {row : Option Nat} (hg : w.grownBy w' row) (hr : ∀ k, row = some k → F k) : Tch F w w' :=
  ⟨hg.os, hg.tape, hg.output, hg.size, fun k hk hf => hg.block k hk (fun e => hf (hr k e.symm))⟩
theorem Tch.heap {F : Nat → Prop} {w w' : World} (h : Tch F w w') {k : Nat} {o : Obj} (hk : w.heap[k]? = some o) (hf : ¬ F k) : w'.heap[k]? = some o := by
  rw [h.block k (Array.getElem?_eq_some_iff.1 hk).1 hf]; exact hk
theorem Tch.cell {F : Nat → Prop} {w w' : World} (h : Tch F w w') {p : Addr} {v : Value} (hk : w.cell? p = some v) (hf : ¬ F p.block) : w'.cell? p = some v := by
  rw [World.cell?_of_block (w := w) (h.block p.block (block_lt_of_cell hk) hf)]; exact hk

/-- A byte as a value. -/
def bv (b : UInt8) : Value := .int .u8 b.toNat
def bvs (l : List UInt8) : List Value := l.map bv
@[simp] theorem bvs_length (l : List UInt8) : (bvs l).length = l.length := by simp [bvs]
@[simp] theorem bvs_append (l m : List UInt8) : bvs (l ++ m) = bvs l ++ bvs m := by simp [bvs]
theorem bvs_one (l : List UInt8) : ∀ u ∈ bvs l, u.oneCell' = true := by
  intro u hu; simp only [bvs, List.mem_map] at hu; obtain ⟨b, _, rfl⟩ := hu; rfl
theorem bvs_get (l : List UInt8) (j : Nat) (h : j < l.length) : (bvs l)[j]? = some (bv l[j]) := by simp [bvs, h]

/-- The slice value v, of n elements of type e, owns the cells xs in a block of F. -/
structure Own (F : Nat → Prop) (w : World) (e : TypeId) (size : Nat) (v : Value) (n : Nat) (xs : List Value) : Prop where
  row : w.ownsRow 0 e size v n xs
  mem : ∀ g, v.ownBlock = some g → F g

theorem Own.kept {F G : Nat → Prop} {w w' : World} {e : TypeId} {size : Nat} {v : Value} {n : Nat} {xs : List Value} (h : Own F w e size v n xs) (ht : Tch G w w') (hG : ∀ g, v.ownBlock = some g → ¬ G g) : Own F w' e size v n xs := by
  refine ⟨⟨h.row.1, ?_⟩, h.mem⟩
  rcases h.row.2 with hn | ⟨g, cap, cur, rfl, hb, hgg, rest⟩
  · exact .inl hn
  · exact .inr ⟨g, cap, cur, rfl, hb, ht.heap hgg (hG g rfl), rest⟩
theorem Own.mono {F G : Nat → Prop} {w : World} {e : TypeId} {size : Nat} {v : Value} {n : Nat} {xs : List Value} (h : Own F w e size v n xs) (hG : ∀ k, k < w.heap.size → F k → G k) : Own G w e size v n xs :=
  ⟨h.row, fun g hg => hG g (h.row.lt g hg).2 (h.mem g hg)⟩
theorem Own.nil (F : Nat → Prop) (w : World) (e : TypeId) (size : Nat) : Own F w e size (.slice none 0 0) 0 [] :=
  ⟨⟨by simp, .inl ⟨rfl, rfl⟩⟩, fun g hg => by simp [Value.ownBlock] at hg⟩
/-- What kind of block it is. -/
theorem Own.block {F : Nat → Prop} {w : World} {e : TypeId} {size : Nat} {v : Value} {n : Nat} {xs : List Value} (h : Own F w e size v n xs) {g : Nat} (hg : v.ownBlock = some g) : ∃ cur, w.heap[g]? = some (.cells cur e (0, 0)) := by
  rcases h.row.2 with ⟨rfl, _⟩ | ⟨g', cap, cur, rfl, _, hgg, _⟩
  · simp [Value.ownBlock] at hg
  · simp [Value.ownBlock] at hg; subst hg; exact ⟨cur, hgg⟩
theorem Own.lt {F : Nat → Prop} {w : World} {e : TypeId} {size : Nat} {v : Value} {n : Nat} {xs : List Value} (h : Own F w e size v n xs) {g : Nat} (hg : v.ownBlock = some g) : g < w.heap.size := (h.row.lt g hg).2
/-- It is a slice. -/
theorem Own.shape {F : Nat → Prop} {w : World} {e : TypeId} {size : Nat} {v : Value} {n : Nat} {xs : List Value} (h : Own F w e size v n xs) : ∃ ao cp, v = .slice ao n cp := by
  rcases h.row.2 with ⟨rfl, rfl⟩ | ⟨g, cap, cur, rfl, _⟩
  · exact ⟨none, 0, rfl⟩
  · exact ⟨_, _, rfl⟩
/-- A block of another kind is none of its own. -/
theorem Own.ne {F : Nat → Prop} {w : World} {e e' : TypeId} {size : Nat} {v : Value} {n : Nat} {xs : List Value} (h : Own F w e size v n xs) {k : Nat} {cs : Array Value} {fr : Nat × Nat} (hk : w.heap[k]? = some (.cells cs e' fr)) (hne : e' ≠ e) : v.ownBlock ≠ some k := by
  intro hg
  obtain ⟨cur, hc⟩ := h.block hg
  rw [hk] at hc; simp at hc; exact hne hc.2.1

/-- The append to an owned row: in its block, or in a new one. -/
theorem run_append_Own {P : Program} (w : World) (F : Nat → Prop) (t ty e : TypeId) (i : TypeInfo) (z : Value) (size bytes : Nat) (ht : P.underlying t = some (.slice e)) (hi : P.info? e = some i) (hz : i.zero = some z)
    (hsize : i.size = size) (hby : i.bytes = bytes) (hzs : z.cells.size = size) (hsz : 0 < size)
    (v : Value) (n : Nat) (xs : List Value) (hown : Own F w e size v n xs)
    (a : Addr) (m c : Nat) (news : List Value) (hl : news.length = m * size) (hnews : ∀ j u, news[j]? = some u → w.cell? (a.add j) = some u) (h1 : ∀ u ∈ news, u.oneCell' = true)
    (h63 : n + m ≤ maxLen) (hbytes : (n + m) * bytes ≤ 140737488355328) (hF : ∀ k, w.heap.size ≤ k → F k) :
    ∃ v' w', (Builtin.append_ #[t, t] ty #[v, .slice (some a) m c]).run P w = .ok v' w' ∧ Own F w' e size v' (n + m) (xs ++ news) ∧ w.grownBy w' v.ownBlock ∧
      (∀ g, v'.ownBlock = some g → v.ownBlock = some g ∨ w.heap.size ≤ g) ∧ (v' = .slice none 0 0 ↔ v = .slice none 0 0 ∧ m = 0) := by
  -- the kit's own law twice: with every block, and with the new ones alone where the row moves
  rcases hown.row.2 with ⟨rfl, hn0⟩ | ⟨g, cap, cur, rfl, hb, hgg, hnc, hcm, hcs, htake⟩
  · have h0 : w.ownsRow w.heap.size e size (.slice none 0 0) n xs := ⟨hown.row.1, .inl ⟨rfl, hn0⟩⟩
    obtain ⟨v', w', hr, ho, hg, hv⟩ := run_append_own (P := P) w w.heap.size t ty e i z size bytes ht hi hz hsize hby hzs hsz _ n xs h0 a m c news hl hnews h1 h63 hbytes (Nat.le_refl _)
    refine ⟨v', w', hr, ⟨⟨ho.1, ?_⟩, fun g hgv => hF g (ho.lt g hgv).1⟩, hg, fun g hgv => .inr (ho.lt g hgv).1, hv⟩
    rcases ho.2 with h | ⟨g', cap', cur', e', _, rest⟩
    · exact .inl h
    · exact .inr ⟨g', cap', cur', e', Nat.zero_le _, rest⟩
  · by_cases hroom : n + m ≤ cap
    · have hrow : w.ownsRow 0 e size (.slice (some ⟨g, 0, none⟩) n cap) n xs := hown.row
      obtain ⟨v', w', hr, ho, hg, hv⟩ := run_append_own (P := P) w 0 t ty e i z size bytes ht hi hz hsize hby hzs hsz _ n xs hrow a m c news hl hnews h1 h63 hbytes (Nat.zero_le _)
      subst hsize
      have hfit : n * i.size + news.length ≤ cur.size := by rw [hl, hcs, ← Nat.add_mul]; exact Nat.mul_le_mul_right _ hroom
      have hr2 := run_append_room (P := P) w t ty e i ht hi g n cap cur hgg a m c news hl hnews h1 hroom hfit
      rw [hr2] at hr
      simp only [Result.ok.injEq] at hr
      obtain ⟨rfl, rfl⟩ := hr
      exact ⟨_, _, hr2, ⟨ho, fun k hk => by simp [Value.ownBlock] at hk; subst hk; exact hown.mem _ rfl⟩, hg, fun k hk => .inl (by simpa [Value.ownBlock] using hk), hv⟩
    · have hrow : w.ownsRow 0 e size (.slice (some ⟨g, 0, none⟩) n cap) n xs := hown.row
      obtain ⟨v', w', hr, ho, hg, hv⟩ := run_append_own (P := P) w 0 t ty e i z size bytes ht hi hz hsize hby hzs hsz _ n xs hrow a m c news hl hnews h1 h63 hbytes (Nat.zero_le _)
      subst hsize; subst hby
      have holds : ∀ j u, xs[j]? = some u → w.cell? ((⟨g, 0, none⟩ : Addr).add j) = some u := hrow.cells (g := g) rfl
      have hsmall : n + m ≤ 9223372036854775807 := by simp only [maxLen] at h63; omega
      have hr2 := run_append_grow (P := P) w t ty e i z ht hi hz ⟨g, 0, none⟩ n cap xs hown.row.1 holds a m c news hl hnews (by omega) (by omega) (growslice_fits (by omega) hbytes)
      rw [hr2] at hr
      simp only [Result.ok.injEq] at hr
      obtain ⟨rfl, rfl⟩ := hr
      exact ⟨_, _, hr2, ⟨ho, fun k hk => by simp [Value.ownBlock] at hk; subst hk; exact hF _ (Nat.le_refl _)⟩, hg, fun k hk => .inr (by simp [Value.ownBlock] at hk; omega), hv⟩

/-- The same as a law of the walk. -/
theorem wpList_append_Own {P : Program} {w : World} {ops : Array Oper} {rest : List Oper} {o : Oper} {a : Act} {Q : Exit → Act → World → Prop} (hgd : o.guard = none) (s x : Operand) (t : TypeId)
    (ho : o.op = .call { callee := .builtin .append, args := #[s, x], argTypes := #[t, t] })
    (F : Nat → Prop) (e : TypeId) (i : TypeInfo) (z : Value) (size bytes : Nat) (ht : P.underlying t = some (.slice e)) (hi : P.info? e = some i) (hz : i.zero = some z)
    (hsize : i.size = size) (hby : i.bytes = bytes) (hzs : z.cells.size = size) (hsz : 0 < size)
    (v : Value) (n : Nat) (xs : List Value) (hs : a.eval s = v) (hown : Own F w e size v n xs)
    (ad : Addr) (m c : Nat) (news : List Value) (hx : a.eval x = .slice (some ad) m c) (hl : news.length = m * size) (hnews : ∀ j u, news[j]? = some u → w.cell? (ad.add j) = some u) (h1 : ∀ u ∈ news, u.oneCell' = true)
    (h63 : n + m ≤ maxLen) (hbytes : (n + m) * bytes ≤ 140737488355328) (hF : ∀ k, w.heap.size ≤ k → F k)
    (h : ∀ v' w', Own F w' e size v' (n + m) (xs ++ news) → w.grownBy w' v.ownBlock → (∀ g, v'.ownBlock = some g → v.ownBlock = some g ∨ w.heap.size ≤ g) → wpList P ops Q rest (a.put o.dst v') w') : wpList P ops Q (o :: rest) a w := by
  refine wpList_plain hgd fun K hK => ?_
  obtain ⟨v', w', hr, h2, h3, h4, _⟩ := run_append_Own (P := P) w F t o.type e i z size bytes ht hi hz hsize hby hzs hsz v n xs hown ad m c news hl hnews h1 h63 hbytes hF
  unfold Oper.wp execOp
  simp only [ho, resolve, invoke, builtin, Sem.run_bind, Sem.run_pure, Result.andThen_ok, List.map_toArray, List.map_cons, List.map_nil, hs, hx, hr]
  exact hK _ _ (h v' w' h2 h3 h4)

end Go.Tw
