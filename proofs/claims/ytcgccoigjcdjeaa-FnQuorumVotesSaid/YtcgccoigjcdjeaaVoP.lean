/- Whatever the lists of voters and the votes: laws.FnVotes returns true, and its arguments read behind the call as they read before. No condition. -/
import Derived.Test.YtcgccoigjcdjeaaVoW
import Derived.Test.YtcgccoigjcdjeaaQuN
namespace Go.Proofs.Ytcgccoigjcdjeaa
open Go.ChangeShapes Go.WideShapes Go.ChangeAt Go.RowKit
open Go.ChangeMaps (open_string shut_string)
set_option linter.unusedVariables false

theorem Held.below {w w' : World} {e : Ending} (h : Held w e w') : Below w.heap.size w w' := h.2.below (Nat.le_refl _) (by simp)

set_option maxRecDepth 100000 in
theorem votes_lifted (os : Os) (started : os.Started) (H : Type) (enc : TypeId × Value → H) :
    ReturnsInHanded {} Try.checked os 4 .any (Rows.fnVotesSpec.pre6 enc Try.prog Try.f4 Rows.fnVotesRow.domain false) (Rows.fnVotesSpec.post enc Try.prog Try.f4 false true false false) := by
  refine returnsInHanded_of_change (C := Try.checked) own started (by kernel_rfl) Try.func4
    (ChangeSpec.witness6 (enc := enc) (C := Try.checked) false ⟨#[], #[.agg #[.slice none 0 0, .slice none 0 0], .slice none 0 0], []⟩ 8 (by kernel_rfl) (by kernel_rfl) (by kernel_rfl) (by kernel_rfl)) ?_
  intro W base args ds gs before hval0 hW hcnd _
  have hval : ∀ (j : Nat) t v, Try.f4.params[j]? = some t → args[j]? = some v → Value.okWide Try.prog W .any base t v := hval0
  have hW' := hW
  obtain ⟨p, q, hA0, hV, rfl, hfz, hnd⟩ := hW
  have hA : DataW.TrodAll enc Try.prog W 0 (fun _ => true) true Try.f4.params.toList args.toList ds p := hA0
  rw [Try.params4] at hA hval
  obtain ⟨v0, vs0, d0, ds0, p0, q0, hargs, rfl, rfl, h0, r0⟩ := trodAll_cons hA
  obtain ⟨v1, vs1, d1, ds1, p1, q1, rfl, rfl, rfl, h1, r1⟩ := trodAll_cons r0
  obtain ⟨rfl, rfl, rfl⟩ := trodAll_nil r1
  obtain rfl : args = #[v0, v1] := by cases args; simp_all
  obtain ⟨rfl, rfl⟩ := trodVars_none hV
  have k0 := h0
  have lt0 : ∀ x ∈ p0, x.block < W.heap.size := by obtain ⟨m, hm⟩ := k0; exact DataW.trod_lt m _ _ _ hm
  have k1 := h1
  have lt1 : ∀ x ∈ p1, x.block < W.heap.size := by obtain ⟨m, hm⟩ := k1; exact DataW.trod_lt m _ _ _ hm
  obtain ⟨a, b, l0, l1, rfl, u0, u1⟩ := pair_in (hval 0 23 v0 rfl rfl) h0
  obtain ⟨ov, len, cap, rfl⟩ := okWide_slice Try.underlying36 (hval 1 36 v1 rfl rfl)
  obtain ⟨B, hB⟩ : ∃ B, PairsIn (fun p : Int × Bool => .int .u64 p.1) (fun p => .bool p.2) (fun p => (Lit.int .u64 p.1).wf = true) W (.slice ov len cap) B := by
    obtain ⟨fuel, hf⟩ := h1
    obtain ⟨v, B, e, hB⟩ := pairs_in Try.underlying36 cells41 dec41 hf
    simp [Value.cells] at e
    subst e
    exact ⟨B, hB⟩
  clear hA0 hval0
  refine (fnvotes_walk live_any a b _ l0 l1 B W u0.us u1.us hB.cells u0.nil u1.nil hB.nil u0.cap u1.cap hB.cap hB.len).mono fun e W' hh => ?_
  have bel := hh.below
  obtain ⟨rfl, _⟩ := hh
  exact ⟨_, rfl, _, _, _, [], _, [], hW', trodAll_mk1 (shut_bool Try.underlying4 _), (trodAll_cons_mk (Below.trod laidOut (by kernel_rfl) (of_decide_eq_true (by kernel_rfl)) k0 bel lt0) (trodAll_cons_mk (Below.trod laidOut (by kernel_rfl) (of_decide_eq_true (by kernel_rfl)) k1 bel lt1) trodAll_mk0)), rfl, bel.frame _, fun h => by cases h⟩

theorem votes_over : Rows.fnVotesRow.holds Try.pinned (OpenSpec.ofChange Rows.fnVotesSpec) :=
  OpenClaim.holds_of_wide 4 Try.f4 rfl rfl rfl rfl rfl rfl rfl ⟨rfl, rfl, rfl, rfl, rfl⟩ rfl rfl rfl rfl rfl (by kernel_rfl) Try.func4 (by kernel_rfl)
    (of_decide_eq_true (by kernel_rfl)) (by unfold Func.isWrapper; first | (rw [if_pos (by decide +kernel)]; kernel_rfl) | (rw [if_neg (by decide +kernel)]; exact ⟨rfl, rfl⟩))
    (fun os started H enc _ => votes_lifted os started H enc)
/-- the statement -/
theorem votes_hold : Rows.FnVotesSaid := votes_over
#print axioms votes_hold
end Go.Proofs.Ytcgccoigjcdjeaa
