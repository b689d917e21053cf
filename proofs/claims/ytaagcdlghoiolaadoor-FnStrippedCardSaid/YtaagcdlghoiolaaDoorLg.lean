/- Flags with one set or taken away. -/
import Derived.Test.YtaagcdlghoiolaaDoorLk
namespace Go.Proofs.YtaagcdlghoiolaaDoor
open Go.RowKit Go.Tw Go.Sort
set_option maxRecDepth 100000
theorem cfg_with2 (f : Nat) (hf : f < 64) (k : Int) (hk : k ∈ ([1, 2, 8, 16, 32] : List Int)) (yes : Bool) : ∃ g : Nat, g < 64 ∧ wfl f k yes = g ∧ ∀ m t p ch, (cfgOf m t p g ch).flag k = yes ∧ ∀ j ∈ flagsL, j ≠ k → (cfgOf m t p g ch).flag j = (cfgOf m t p f ch).flag j := by
  have hk2 : k ∈ flagsL := by
    simp [flagsL] at hk ⊢
    rcases hk with rfl | rfl | rfl | rfl | rfl <;> simp
  obtain ⟨g, h1, h2⟩ := wfl_flags ⟨f, hf⟩ k hk2 yes
  obtain ⟨g', hg', e', h3⟩ := cfg_with f hf k hk2 yes
  obtain rfl : g' = g.val := by
    have : ((g' : Nat) : Int) = ((g.val : Nat) : Int) := by rw [← e', ← h1]
    omega
  refine ⟨g.val, g.isLt, h1, fun m t p ch => ⟨?_, (h3 m t p ch).2⟩⟩
  rw [flag_cfg g m t p ch k hk, h2 k hk2, if_pos rfl]
end Go.Proofs.YtaagcdlghoiolaaDoor
