/- How long what is written can be. -/
import Derived.Test.YtinkhkhacaehkaaDoorQe
namespace Go.Proofs.YtinkhkhacaehkaaDoor
open Go.RowKit Go.Tw Go.Sort
set_option maxRecDepth 100000
theorem format_bound (m t p f : Nat) (ch : UInt8) (hm : m ≤ 1000) (ht : t ≤ 1000) (hp : p ≤ 1000) (s : List UInt8) (hs : s.length ≤ 3000) : (formatO (cfgOf m t p f ch) s).length ≤ 100000000000 := by
  have g : Good2 (cfgOf m t p f ch) (St.new []) 0 := Good2.new _ (by decide : (-1 : Int) < 0) hm ht hp
  have gs := g.steps s (by omega)
  have hc := gs.cost
  have hf := gs.toGood.flush
  have e1 : cellsOf (St.flush (cfgOf m t p f ch) (s.foldl (St.step (cfgOf m t p f ch)) (St.new []))).lines = 0 := rfl
  have e2 : (St.flush (cfgOf m t p f ch) (s.foldl (St.step (cfgOf m t p f ch)) (St.new []))).lines.length = 1 := rfl
  rw [e1, e2] at hf
  rw [← out_format]
  unfold outOf
  omega
theorem bare_bound (c : Cfg) (s : List UInt8) (hs : s.length ≤ 3000) : (bareO (cellsGo c ⟨[], 0, 0⟩ [] s)).length ≤ 100000000000 := by
  have h1 := bareO_len (cellsGo c ⟨[], 0, 0⟩ [] s)
  have h2 := texts_cellsGo c s.length s ⟨[], 0, 0⟩ [] (Nat.le_refl _)
  have h3 := cellsGo_len c s.length s ⟨[], 0, 0⟩ [] (Nat.le_refl _)
  simp at h2
  omega
end Go.Proofs.YtinkhkhacaehkaaDoor
