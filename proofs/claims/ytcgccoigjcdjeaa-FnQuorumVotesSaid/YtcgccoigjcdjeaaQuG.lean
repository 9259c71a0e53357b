/- laws.piVoters. Condition: fewer than a million numbers. -/
import Derived.Test.YtcgccoigjcdjeaaQuF
namespace Go.Proofs.Ytcgccoigjcdjeaa
open Go.RowKit Go.Sort

/-- a store into a cell that holds no number -/
theorem Us.setCell {w : World} {v : Value} {l : List Int} (h : Us w v l) {a : Addr} {u0 : Value} (ha : w.cell? a = some u0) (hne : ∀ k, u0 ≠ .int .u64 k) (x : Value) : Us (w.setCell a x) v l := by
  obtain ⟨ao, cap, rfl, h⟩ := h
  refine ⟨ao, cap, rfl, fun i hi => ?_⟩
  obtain ⟨b, off, e, hc⟩ := h i hi
  refine ⟨b, off, e, ?_⟩
  have hne2 : a ≠ ⟨b, off + i, none⟩ := by
    intro e2
    rw [e2, hc] at ha
    cases ha
    exact hne _ rfl
  simp [go_sem, hne2, hc]
set_option maxRecDepth 100000 in
set_option maxHeartbeats 1600000 in
theorem pivoters_any (a b : Value) (l0 l1 : List Int) (w : World) (h0 : Us w a l0) (h1 : Us w b l1) (m0 : NilOk a) (m1 : NilOk b) (n0 : l0.length ≤ 1000000) (n1 : l1.length ≤ 1000000) :
    Calls Try.prog 13 #[.agg #[a, b]] w fun e w' => ∃ oa ca ob cb, e = .returned (.agg #[.slice oa l0.length ca, .slice ob l1.length cb]) ∧ Us w' (.slice oa l0.length ca) l0 ∧ Us w' (.slice ob l1.length cb) l1 ∧ New w w' := by
  have n2 : ∀ o1 o2, New w ((w.alloc o1).alloc o2).drew := fun o1 o2 => ((Chg.alloc w _ _).then (Chg.alloc _ _ _)).then (Chg.drew _ _)
  have H0 := Lib.hid h0; have H1 := Lib.hid h1; have M0 := Lib.hid m0; have M1 := Lib.hid m1; have N0 := Lib.hid n0; have N1 := Lib.hid n1; have HN2 := Lib.hid n2
  obtain ⟨oa, ca, rfl, _⟩ := h0
  obtain ⟨ob, cb, rfl, _⟩ := h1
  clear m0 m1 n0 n1 n2
  go_enter Try.func13, Try.ntmps13
  go_wp2_with fail
  go_region_held3 (fun w' => w'.cell? ⟨w.heap.size, 0, none⟩ = some (.slice oa l0.length ca) ∧ w'.cell? ⟨w.heap.size, 1, none⟩ = some (.slice ob l1.length cb)) (go_keep)
    (first
      | (go_at_call 42; ((with_reducible refine (clone22_any (.slice oa l0.length ca) l0 _ (H0.out.new (HN2.out _ _)) N0.out M0.out).mono ?_); rintro e w1 ⟨x0, rfl, s0, p1, xa, ya, rfl⟩; have k1 := p1.rule))
      | (go_at_call 42; ((with_reducible refine (clone22_any (.slice ob l1.length cb) l1 _ (H1.out.new ((HN2.out _ _).then p1)) N1.out M1.out).mono ?_); rintro e w2 ⟨x1, rfl, s1, p2, xb, yb, rfl⟩; have k2 := p2.rule; have HBK := Lib.hid (p2.keeps (p1.keeps (block_drew (block_new1 w _ _)) (by simp)) (by simp)); have r0 := cell_of_block (off := 0) HBK.out rfl; have r1 := cell_of_block (off := 1) HBK.out rfl; have z0 := free_of_block (off := 0) HBK.out; have z1 := free_of_block (off := 1) HBK.out))
      | fail)
  rename_i hH
  clear hH k1 k2
  have hs0 := s0.new p2
  have hnw := ((HN2.out _ _).then p1).then p2
  have S0 := Lib.hid hs0; have S1 := Lib.hid s1; have HNW := Lib.hid hnw
  clear hs0 s0 s1 p1 p2 hnw
  go_wp2_with fail
  refine bodyPost_ret (v := ?_) ?_ rfl ?_
  rotate_left 1
  · simp [results, Try.results13, go_sem, r0, r1]
    rfl
  have hb1 := block_setCell (off := 0) HBK.out (.slice xa l0.length ya)
  have q0 := cell_of_block (off := 0) HBK.out rfl
  have q1 := cell_of_block (off := 1) hb1 rfl
  exact ⟨_, _, _, _, rfl, (S0.out.setCell q0 (by simp) _).setCell q1 (by simp) _, (S1.out.setCell q0 (by simp) _).setCell q1 (by simp) _, (HNW.out.trans (Chg.setCell _ _ _ (fun i => i = w.heap.size + 1) (fun _ => rfl)) (fun _ _ h => h) (fun i hi e => by omega)).trans (Chg.setCell _ _ _ (fun i => i = w.heap.size + 1) (fun _ => rfl)) (fun _ _ h => h) (fun i hi e => by omega)⟩
end Go.Proofs.Ytcgccoigjcdjeaa
