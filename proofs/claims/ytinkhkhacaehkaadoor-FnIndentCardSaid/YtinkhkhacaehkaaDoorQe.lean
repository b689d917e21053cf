/- With: the set-up with a flag, or without it, formats alike but for that flag. -/
import Derived.Test.YtinkhkhacaehkaaDoorQd
namespace Go.Proofs.YtinkhkhacaehkaaDoor
open Go.RowKit Go.Tw Go.Sort
set_option maxRecDepth 100000
theorem cfg_with (f : Nat) (hf : f < 64) (k : Int) (hk : k ∈ flagsL) (yes : Bool) : ∃ g : Nat, g < 64 ∧ wfl f k yes = g ∧ ∀ m t p ch, Alike (cfgOf m t p g ch) (cfgOf m t p f ch) ∧ ∀ j ∈ flagsL, j ≠ k → (cfgOf m t p g ch).flag j = (cfgOf m t p f ch).flag j := by
  obtain ⟨g, h1, h2⟩ := wfl_flags ⟨f, hf⟩ k hk yes
  refine ⟨g.val, g.isLt, h1, fun m t p ch => ⟨⟨rfl, rfl, rfl, rfl⟩, fun j hj hne => ?_⟩⟩
  have h3 := h2 j hj
  rw [if_neg hne] at h3
  simp [flagsL] at hj
  rcases hj with rfl | rfl | rfl | rfl | rfl | rfl
  · rw [flag_cfg g m t p ch 1 (by simp), flag_cfg ⟨f, hf⟩ m t p ch 1 (by simp), h3]
  · rw [flag_cfg g m t p ch 2 (by simp), flag_cfg ⟨f, hf⟩ m t p ch 2 (by simp), h3]
  · rw [flag_right g m t p ch, flag_right ⟨f, hf⟩ m t p ch, h3]
  · rw [flag_cfg g m t p ch 8 (by simp), flag_cfg ⟨f, hf⟩ m t p ch 8 (by simp), h3]
  · rw [flag_cfg g m t p ch 16 (by simp), flag_cfg ⟨f, hf⟩ m t p ch 16 (by simp), h3]
  · rw [flag_cfg g m t p ch 32 (by simp), flag_cfg ⟨f, hf⟩ m t p ch 32 (by simp), h3]
theorem with_nat (w : World) (m t p f g : Nat) (ch : UInt8) (k : Int) (yes : Bool) (hg : wfl f k yes = g) : Calls Tryd.prog 20 #[.agg #[.int .i64 m, .int .i64 t, .int .i64 p, .int .u8 ch.toNat, .int .i64 f], .int .i64 k, .bool yes] w fun e w' => e = .returned (.agg #[.int .i64 m, .int .i64 t, .int .i64 p, .int .u8 ch.toNat, .int .i64 g]) ∧ Below w.heap.size w w' := by
  have := with_calls' w m t p f ch k yes
  rwa [hg] at this
end Go.Proofs.YtinkhkhacaehkaaDoor
