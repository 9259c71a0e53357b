/- Whatever the lists of voters and what is acknowledged: laws.FnQuorumVotes returns true, and its arguments read behind the call as they read before. No condition. -/
import Derived.Test.YtcgccoigjcdjeaaFqW
import Derived.Test.YtcgccoigjcdjeaaVoP
namespace Go.Proofs.Ytcgccoigjcdjeaa
open Go.ChangeShapes Go.WideShapes Go.ChangeAt Go.RowKit
open Go.ChangeMaps (open_string shut_string)
set_option linter.unusedVariables false

set_option maxRecDepth 100000 in
theorem fqv_lifted (os : Os) (started : os.Started) (H : Type) (enc : TypeId × Value → H) :
    ReturnsInHanded {} Try.checked os 6 .any (Rows.fnQuorumVotesSpec.pre6 enc Try.prog Try.f6 Rows.fnQuorumVotesRow.domain false) (Rows.fnQuorumVotesSpec.post enc Try.prog Try.f6 false true false false) := by
  refine returnsInHanded_of_change (C := Try.checked) own started (by kernel_rfl) Try.func6
    (ChangeSpec.witness6 (enc := enc) (C := Try.checked) false ⟨#[], #[.agg #[.slice none 0 0, .slice none 0 0], .slice none 0 0], []⟩ 8 (by kernel_rfl) (by kernel_rfl) (by kernel_rfl) (by kernel_rfl)) ?_
  intro W base args ds gs before hval0 hW hcnd _
  have hval : ∀ (j : Nat) t v, Try.f6.params[j]? = some t → args[j]? = some v → Value.okWide Try.prog W .any base t v := hval0
  have hW' := hW
  obtain ⟨p, q, hA0, hV, rfl, hfz, hnd⟩ := hW
  have hA : DataW.TrodAll enc Try.prog W 0 (fun _ => true) true Try.f6.params.toList args.toList ds p := hA0
  rw [Try.params6] at hA hval
  obtain ⟨v0, vs0, d0, ds0, p0, q0, hargs, rfl, rfl, h0, r0⟩ := trodAll_cons hA
  obtain ⟨v1, vs1, d1, ds1, p1, q1, rfl, rfl, rfl, h1, r1⟩ := trodAll_cons r0
  obtain ⟨rfl, rfl, rfl⟩ := trodAll_nil r1
  obtain rfl : args = #[v0, v1] := by cases args; simp_all
  obtain ⟨rfl, rfl⟩ := trodVars_none hV
  have k0 := h0
  have lt0 : ∀ x ∈ p0, x.block < W.heap.size := by obtain ⟨m, hm⟩ := k0; exact DataW.trod_lt m _ _ _ hm
  have k1 := h1
  have lt1 : ∀ x ∈ p1, x.block < W.heap.size := by obtain ⟨m, hm⟩ := k1; exact DataW.trod_lt m _ _ _ hm
  obtain ⟨a, b, l0, l1, rfl, u0, u1⟩ := pair_in (hval 0 23 v0 rfl rfl) h0
  obtain ⟨ov, len, cap, rfl⟩ := okWide_slice Try.underlying24 (hval 1 24 v1 rfl rfl)
  obtain ⟨B, hB⟩ : ∃ B, PairsIn (fun p : Int × Int => .int .u64 p.1) (fun p => .int .u64 p.2) (fun p => (Lit.int .u64 p.1).wf = true ∧ (Lit.int .u64 p.2).wf = true) W (.slice ov len cap) B := by
    obtain ⟨fuel, hf⟩ := h1
    obtain ⟨v, B, e, hB⟩ := pairs_in Try.underlying24 cells33 dec33 hf
    simp [Value.cells] at e
    subst e
    exact ⟨B, hB⟩
  clear hA0 hval0
  refine (fqv_walk live_any a b _ l0 l1 B W u0.us u1.us hB.cells (fun p hp => by have h := wf_u64 (hB.ok p hp).2; unfold maxU; omega) u0.nil u1.nil hB.nil u0.cap u1.cap hB.cap hB.len).mono fun e W' hh => ?_
  have bel := hh.below
  obtain ⟨rfl, _⟩ := hh
  exact ⟨_, rfl, _, _, _, [], _, [], hW', trodAll_mk1 (shut_bool Try.underlying4 _), (trodAll_cons_mk (Below.trod laidOut (by kernel_rfl) (of_decide_eq_true (by kernel_rfl)) k0 bel lt0) (trodAll_cons_mk (Below.trod laidOut (by kernel_rfl) (of_decide_eq_true (by kernel_rfl)) k1 bel lt1) trodAll_mk0)), rfl, bel.frame _, fun h => by cases h⟩

theorem fqv_over : Rows.fnQuorumVotesRow.holds Try.pinned (OpenSpec.ofChange Rows.fnQuorumVotesSpec) :=
  OpenClaim.holds_of_wide 6 Try.f6 rfl rfl rfl rfl rfl rfl rfl ⟨rfl, rfl, rfl, rfl, rfl⟩ rfl rfl rfl rfl rfl (by kernel_rfl) Try.func6 (by kernel_rfl)
    (of_decide_eq_true (by kernel_rfl)) (by unfold Func.isWrapper; first | (rw [if_pos (by decide +kernel)]; kernel_rfl) | (rw [if_neg (by decide +kernel)]; exact ⟨rfl, rfl⟩))
    (fun os started H enc _ => fqv_lifted os started H enc)
/-- the statement -/
theorem fqv_hold : Rows.FnQuorumVotesSaid := fqv_over
#print axioms fqv_hold
end Go.Proofs.Ytcgccoigjcdjeaa
