/- The small functions of confchange and quorum.IDs: joint, symdiff, IDs, the copy of a set. No condition. -/
import Derived.Test.YtcgccoigjcdjeaaAdd
namespace Go.Proofs.Ytcgccoigjcdjeaa
open Go.RowKit

/-- nothing that was there has turned -/
abbrev New (w w' : World) : Prop := Chg w w' (fun _ => False)

/-- joint(cfg) -/
theorem joint_any (v0 v1 ln nx : Option Nat) (al : Bool) (V1 : List Int) (j : Bool) (w : World) (hs : SetV w v1 V1) (hj : j = true ↔ V1 ≠ []) :
    Calls Try.prog 78 #[.agg #[.map v0, .map v1, .bool al, .map ln, .map nx]] w fun e w' => e = .returned (.bool j) ∧ New w w' := by
  have HS := Lib.hid hs; clear hs
  have HJ := Lib.hid hj; clear hj
  have hlen : 0 < V1.length ↔ j = true := by rw [HJ.out, List.length_pos_iff]
  have hd : decide (0 < V1.length) = j := by
    cases j
    · simpa using hlen
    · simpa using hlen
  have HD := Lib.hid hd; clear hd hlen
  go_enter Try.func78, Try.ntmps78
  go_wp2_with (first | (at_len; refine set_len rfl _ _ rfl mt70 rfl ((HS.out.alloc _).alloc _) ?_) | go_in)
  go_ret
  rw [HD.out]
  exact ⟨rfl, (Chg.alloc w _ _).then (Chg.alloc _ _ _)⟩

theorem ins_new {s : List Int} {k : Int} (h : k ∉ s) : ins s k = s ++ [k] := if_neg h

def Copied (w : World) (o : Option Nat) (s : List Int) (e : Ending) (w' : World) : Prop :=
  ∃ o', e = .returned (.map o') ∧ SetV w' o' s ∧ (o = none ↔ o' = none) ∧ (∀ b, o' = some b → w.heap.size ≤ b) ∧ New w w'

set_option maxRecDepth 100000 in
/-- the copy of a set, in whatever order -/
theorem clone1_any (o : Option Nat) (s : List Int) (w : World) (hs : SetV w o s) :
    Calls Try.prog 114 #[.map o] w (Copied w o s) := by
  have HS := Lib.hid hs; clear hs
  cases o with
  | none =>
    go_enter Try.func114, Try.ntmps114
    go_wp2
    go_ret
    exact ⟨none, rfl, HS.out, by simp, by simp, Chg.refl _ _⟩
  | some b =>
    go_enter Try.func114, Try.ntmps114
    go_wp2_with (first | (at_len; refine set_len rfl _ _ rfl mt69 rfl HS.out ?_) | (at_range; refine set_range rfl _ _ rfl mt69 rfl (HS.out.alloc _) ?_; intro w1 r1 s1 z1))
    go_frame
    simp only [World.size_alloc] at r1 z1 ⊢
    go_loopg [4] s.length (fun n _ wr => ∃ done : List Int, s.length ≤ done.length + n ∧ RangS wr (w.heap.size + 1) (some b) s done ∧ SetV wr (some w.heap.size) done ∧ New w wr)
    case atStart =>
      refine ⟨[], by simp, r1, ?_, (Chg.alloc w _ _).then s1.chg⟩
      exact (SetV.made w).chg s1.chg (by simp)
    case round =>
      obtain ⟨done, hn, hr, hset, hnew⟩ := hrel
      have HN := Lib.hid hnew; have HR := Lib.hid hr; have HT := Lib.hid hset; have HL := Lib.hid hn
      clear hnew hr hset hn r1 s1 z1
      go_wp2_with (first
        | (at_next; refine set_next rfl _ rfl rfl HR.out ?_ ?_)
        | (at_mapUpdate; refine set_update rfl _ _ _ _ rfl mt69 rfl (by assumption) rfl rfl ?_; intro w3 h3 s3 z3)
        | go_in)
      · intro hp
        go_wp2
        go_ret
        exact ⟨some w.heap.size, rfl, HT.out.perm hp, by simp, by intro b' e; cases e; exact Nat.le_refl _, HN.out⟩
      · intro k w2 hk hnk r2 s2 z2 hen
        have h2 := HT.out.chg s2.chg (by intro i hi; cases hi; omega)
        go_wp2_with (first
          | (at_mapUpdate; refine set_update rfl _ _ _ _ rfl mt69 rfl h2 rfl rfl ?_; intro w3 h3 s3 z3)
          | go_in)
        have hb := HS.out.lt
        have hl := r2.len
        simp only [List.length_append, List.length_cons, List.length_nil] at hl
        have hL := HL.out
        simp only [Act.put]
        go_roundg (gk - 1)
        case measure => omega
        case rel =>
          refine ⟨done ++ [k], by simp; omega, r2.chg s3.chg (by omega) (by intro b' e; cases e; omega), by rw [← ins_new hnk]; exact h3, ?_⟩
          exact (HN.out.trans s2.chg (fun _ _ h => h) (fun i hi e => by omega)).trans s3.chg (fun _ _ h => h) (fun i hi e => by omega)
end Go.Proofs.Ytcgccoigjcdjeaa
