/- what laws.piLive asks of Changed and of Voted. No condition. -/
import Derived.Test.YtcgccoigjcdjeaaQuH
import Derived.Test.YtcgccoigjcdjeaaConfX
namespace Go.Proofs.Ytcgccoigjcdjeaa
open Go.RowKit Go.Sort

theorem live_changed : changedC [1] [] [] [] false 1 [(0, 2)] = some ⟨false, [1, 2], [], [], []⟩ := by rfl
theorem live_voted : joinR (voteR [(1, true), (2, true)] [1, 2, 3]) (voteR [(1, true), (2, true)] []) = 3 := by decide
theorem live_sizes (s : Cs) (h : changedC [1] [] [] [] false 1 [(0, 2)] = some s) : (s.V0.length ≤ 12 ∧ s.V0.length ≤ 100000) ∧ (s.V1.length ≤ 12 ∧ s.V1.length ≤ 100000) ∧ (s.L.length ≤ 12 ∧ s.L.length ≤ 100000) ∧ (s.N.length ≤ 12 ∧ s.N.length ≤ 100000) := by
  rw [live_changed] at h
  cases h
  simp
end Go.Proofs.Ytcgccoigjcdjeaa
