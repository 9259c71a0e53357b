/- impl.acks.AckedIndex. No condition. -/
import Derived.Test.YtcgccoigjcdjeaaQuG
namespace Go.Proofs.Ytcgccoigjcdjeaa
open Go.RowKit Go.Sort

/-- what was acknowledged: a member, an index -/
def ackd (A : List (Int × Int)) (k : Int) : Option Int := (A.find? (fun p => p.1 == k)).map (·.2)
def ackV (A : List (Int × Int)) : List (Int × Value) := A.map fun p => (p.1, .int .u64 p.2)
theorem look_ackV (A : List (Int × Int)) (k : Int) : look (ackV A) k = (ackd A k).map (Value.int .u64) := by
  induction A with
  | nil => rfl
  | cons p A ih =>
    unfold look ackd ackV at *
    by_cases h : p.1 = k
    · simp [h]
    · have h' : (p.1 == k) = false := by simpa using h
      simp only [List.map_cons, List.find?_cons, h']
      simpa using ih
set_option maxRecDepth 100000 in
theorem acked_any (o : Option Nat) (A : List (Int × Int)) (k : Int) (w : World) (h : MapV w o (ackV A)) :
    Calls Try.prog 135 #[.map o, .int .u64 k] w fun e w' => e = .returned (.tuple #[.int .u64 ((ackd A k).getD 0), .bool (ackd A k).isSome]) ∧ New w w' := by
  have H := Lib.hid h; clear h
  have hl := look_ackV A k
  cases hk : ackd A k with
  | none =>
    rw [hk] at hl
    simp only [Option.map_none] at hl
    go_enter Try.func135, Try.ntmps135
    go_wp2_with (first | (at_lookup; refine op_lookup_ok rfl _ _ _ rfl mt67 rfl H.out rfl ?_) | fail)
    go_ret2
    exact ⟨rfl, by first | exact Chg.refl _ _ | exact Chg.alloc _ _ _⟩
  | some n =>
    rw [hk] at hl
    simp only [Option.map_some] at hl
    go_enter Try.func135, Try.ntmps135
    go_wp2_with (first | (at_lookup; refine op_lookup_ok rfl _ _ _ rfl mt67 rfl H.out rfl ?_) | fail)
    go_ret2
    exact ⟨rfl, by first | exact Chg.refl _ _ | exact Chg.alloc _ _ _⟩
end Go.Proofs.Ytcgccoigjcdjeaa
