/- laws.piLive. No condition. -/
import Derived.Test.YtcgccoigjcdjeaaQvZ
import Derived.Test.YtcgccoigjcdjeaaConfX
import Derived.Test.YtcgccoigjcdjeaaVoWm
namespace Go.Proofs.Ytcgccoigjcdjeaa
open Go.RowKit Go.Sort

theorem live_changed : changedC [1] [] [] [] false 1 [(0, 2)] = some ⟨false, [1, 2], [], [], []⟩ := by rfl
theorem live_voted : joinR (voteR [(1, true), (2, true)] [1, 2, 3]) (voteR [(1, true), (2, true)] []) = 3 := by decide
theorem live_sizes (s : Cs) (h : changedC [1] [] [] [] false 1 [(0, 2)] = some s) : (s.V0.length ≤ 12 ∧ s.V0.length ≤ 100000) ∧ (s.V1.length ≤ 12 ∧ s.V1.length ≤ 100000) ∧ (s.L.length ≤ 12 ∧ s.L.length ≤ 100000) ∧ (s.N.length ≤ 12 ∧ s.N.length ≤ 100000) := by
  rw [live_changed] at h
  cases h
  simp
end Go.Proofs.Ytcgccoigjcdjeaa
namespace Go.Proofs.Ytcgccoigjcdjeaa
open Go.RowKit Go.Sort

theorem us_nil (w : World) : Us w (.slice none 0 0) [] := ⟨none, 0, rfl, fun i hi => by simp at hi⟩
theorem us_block {w : World} {b : Nat} {l : List Int} {e : TypeId} (h : w.heap[b]? = some (.cells (l.map (Value.int .u64)).toArray e (0, 0))) : Us w (.slice (some ⟨b, 0, none⟩) l.length l.length) l := by
  refine ⟨_, l.length, rfl, fun i hi => ⟨b, 0, rfl, ?_⟩⟩
  refine cell_of_block h ?_
  simp [hi]
theorem nilok_some (a : Addr) (n c : Nat) : NilOk (.slice (some a) n c) := fun cap h => by cases h
theorem nilok_nil : NilOk (.slice none 0 0) := fun cap h => by cases h; rfl
theorem live_committed : lessR (commR [(1, 5), (3, 4)] [1, 2, 3]) (commR [(1, 5), (3, 4)] []) = 4 := by decide
set_option maxRecDepth 100000 in
set_option maxHeartbeats 3200000 in
theorem live_any : LiveOk := by
  intro w
  go_enter Try.func15, Try.ntmps15
  go_wp2_with fail
  have b0 : ∀ o1 o2 o3 o4 : Obj, ((((w.alloc o1).alloc o2).alloc o3).alloc o4).heap[w.heap.size]? = some o1 := fun o1 o2 o3 o4 => block_alloc (block_alloc (block_alloc (block_new w o1) o2) o3) o4
  have b1 : ∀ o1 o2 o3 o4 : Obj, ((((w.alloc o1).alloc o2).alloc o3).alloc o4).heap[w.heap.size + 1]? = some o2 := fun o1 o2 o3 o4 => by
    have := block_alloc (block_alloc (block_new (w.alloc o1) o2) o3) o4
    simpa only [World.size_alloc] using this
  have b2 : ∀ o1 o2 o3 o4 : Obj, ((((w.alloc o1).alloc o2).alloc o3).alloc o4).heap[w.heap.size + 1 + 1]? = some o3 := fun o1 o2 o3 o4 => by
    have := block_alloc (block_new ((w.alloc o1).alloc o2) o3) o4
    simpa only [World.size_alloc] using this
  have b3 : ∀ o1 o2 o3 o4 : Obj, ((((w.alloc o1).alloc o2).alloc o3).alloc o4).heap[w.heap.size + 1 + 1 + 1]? = some o4 := fun o1 o2 o3 o4 => by
    have := block_new (((w.alloc o1).alloc o2).alloc o3) o4
    simpa only [World.size_alloc] using this
  have nn : ∀ o1 o2 o3 o4 : Obj, New w ((((w.alloc o1).alloc o2).alloc o3).alloc o4) := fun o1 o2 o3 o4 => (((Chg.alloc w _ _).then (Chg.alloc _ _ _)).then (Chg.alloc _ _ _)).then (Chg.alloc _ _ _)
  have g0 := b0 (.cells #[.int .u64 1, .int .u64 2, .int .u64 3] 28) (.cells #[.slice (some ⟨w.heap.size, 0, none⟩) 3 3, .slice none 0 0] 23) (.cells #[.int .u64 1] 28) (.cells #[.int .i64 0, .int .u64 2] 53)
  have g1 := b1 (.cells #[.int .u64 1, .int .u64 2, .int .u64 3] 28) (.cells #[.slice (some ⟨w.heap.size, 0, none⟩) 3 3, .slice none 0 0] 23) (.cells #[.int .u64 1] 28) (.cells #[.int .i64 0, .int .u64 2] 53)
  have g2 := b2 (.cells #[.int .u64 1, .int .u64 2, .int .u64 3] 28) (.cells #[.slice (some ⟨w.heap.size, 0, none⟩) 3 3, .slice none 0 0] 23) (.cells #[.int .u64 1] 28) (.cells #[.int .i64 0, .int .u64 2] 53)
  have g3 := b3 (.cells #[.int .u64 1, .int .u64 2, .int .u64 3] 28) (.cells #[.slice (some ⟨w.heap.size, 0, none⟩) 3 3, .slice none 0 0] 23) (.cells #[.int .u64 1] 28) (.cells #[.int .i64 0, .int .u64 2] 53)
  have gn := nn (.cells #[.int .u64 1, .int .u64 2, .int .u64 3] 28) (.cells #[.slice (some ⟨w.heap.size, 0, none⟩) 3 3, .slice none 0 0] 23) (.cells #[.int .u64 1] 28) (.cells #[.int .i64 0, .int .u64 2] 53)
  clear b0 b1 b2 b3 nn
  obtain ⟨w1, hw1⟩ : ∃ w1, w1 = ((((w.alloc (.cells #[.int .u64 1, .int .u64 2, .int .u64 3] 28)).alloc (.cells #[.slice (some ⟨w.heap.size, 0, none⟩) 3 3, .slice none 0 0] 23)).alloc (.cells #[.int .u64 1] 28)).alloc (.cells #[.int .i64 0, .int .u64 2] 53)) := ⟨_, rfl⟩
  rw [← hw1] at g0 g1 g2 g3 gn ⊢
  clear hw1
  have u1 : Us w1 (.slice (some ⟨w.heap.size + 1 + 1, 0, none⟩) 1 1) [1] := us_block (l := [1]) g2
  have u3 : Us w1 (.slice (some ⟨w.heap.size, 0, none⟩) 3 3) [1, 2, 3] := us_block (l := [1, 2, 3]) g0
  have ch : Chs w1 (.slice (some ⟨w.heap.size + 1 + 1 + 1, 0, none⟩) 1 1) [(0, 2)] := by
    refine ⟨_, 1, rfl, fun i hi => ?_⟩
    have : i = 0 := by simpa using hi
    subst this
    exact ⟨_, 0, rfl, cell_of_block g3 rfl, cell_of_block g3 rfl⟩
  have G1 := Lib.hid g1; have GN := Lib.hid gn; have U3 := Lib.hid u3
  clear g0 g1 g2 g3 gn u3
  refine (changed_any _ _ [1] [] [] [] false 1 [(0, 2)] w1 ⟨_, _, _, _, rfl, ⟨u1, nilok_some _ _ _⟩, ⟨us_nil _, nilok_nil⟩, ⟨us_nil _, nilok_nil⟩, ⟨us_nil _, nilok_nil⟩⟩ ch (by decide) (by simp) (by decide) 12 sort12 live_sizes (.inl rfl)).mono ?_
  rintro e w2 ⟨n2, ⟨s, cv, hs, rfl, ho⟩ | ⟨hs, _⟩⟩
  · rw [live_changed] at hs
    obtain rfl : s = ⟨false, [1, 2], [], [], []⟩ := by simpa using hs.symm
    obtain ⟨a, b, c, d, A, B, C, D, rfl, l1, l2, l3, l4⟩ := ho.ex
    have hA : A.length = 2 := l1.1.length_eq
    obtain ⟨a1, a2, rfl⟩ := l1.slice; obtain ⟨b1, b2, rfl⟩ := l2.slice; obtain ⟨c1, c2, rfl⟩ := l3.slice; obtain ⟨d1, d2, rfl⟩ := l4.slice
    rw [hA]
    have HB2 := Lib.hid (n2.keeps G1.out (by simp)); have NW2 := Lib.hid (GN.out.then n2); have U2 := Lib.hid (U3.out.new n2)
    clear hs ho l1 l2 l3 l4 hA u1 ch n2
    have q0 := cell_of_block (off := 0) HB2.out rfl; have q1 := cell_of_block (off := 1) HB2.out rfl
    simp only [List.getElem_toArray, List.getElem_cons_zero, List.getElem_cons_succ] at q0 q1
    go_wp2_with fail
    have n3 : ∀ o1 o2, New w ((w2.alloc o1).alloc o2) := fun o1 o2 => (NW2.out.then (Chg.alloc _ _ _)).then (Chg.alloc _ _ _)
    have v3 : ∀ o1 o2, Us ((w2.alloc o1).alloc o2) (.slice (some ⟨w.heap.size, 0, none⟩) 3 3) [1, 2, 3] := fun o1 o2 => U2.out.new ((Chg.alloc _ _ _).then (Chg.alloc _ _ _))
    have hx : ∀ o1 o2, ((w2.alloc o1).alloc o2).heap[w.heap.size + 1]? = some (.cells #[.slice (some ⟨w.heap.size, 0, none⟩) 3 3, .slice none 0 0] 23 (0, 0)) := fun o1 o2 => block_alloc (block_alloc HB2.out _) _
    have hy : ∀ o1 o2, ((w2.alloc o1).alloc o2).heap[w2.heap.size]? = some o1 := fun o1 o2 => block_alloc (block_new _ _) _
    have ha : ∀ o1, Acs ((w2.alloc o1).alloc (.cells #[.int .u64 1, .int .u64 5, .int .u64 3, .int .u64 4] 33)) (.slice (some ⟨w2.heap.size + 1, 0, none⟩) 2 2) [(1, 5), (3, 4)] := fun o1 => by
      have hb := block_new (w2.alloc o1) (.cells #[.int .u64 1, .int .u64 5, .int .u64 3, .int .u64 4] 33)
      rw [World.size_alloc] at hb
      refine ⟨_, 2, rfl, fun i hi => ?_⟩
      have : i = 0 ∨ i = 1 := by simp at hi; omega
      rcases this with rfl | rfl
      · exact ⟨_, 0, rfl, cell_of_block hb rfl, cell_of_block hb rfl⟩
      · exact ⟨_, 0, rfl, cell_of_block hb rfl, cell_of_block hb rfl⟩
    refine (committed_any (.slice (some ⟨w.heap.size, 0, none⟩) 3 3) (.slice none 0 0) (.slice (some ⟨w2.heap.size + 1, 0, none⟩) 2 2) [1, 2, 3] [] [(1, 5), (3, 4)] _ (v3 _ _) (us_nil _) (ha _) (by decide) (by decide) (by decide) (by decide) (by decide) (by decide) (by decide)).mono ?_
    rw [live_committed]
    rintro e w4 ⟨rfl, m4⟩
    have HX := Lib.hid (m4.keeps (hx _ _) (by simp)); have HY := Lib.hid (m4.keeps (hy _ _) (by simp)); have NW4 := Lib.hid ((n3 _ _).then m4); have V4 := Lib.hid ((v3 _ _).new m4)
    clear n3 v3 hx hy ha m4 q0 q1
    have q0 := cell_of_block (off := 0) HX.out rfl; have q1 := cell_of_block (off := 1) HX.out rfl
    simp only [List.getElem_toArray, List.getElem_cons_zero, List.getElem_cons_succ] at q0 q1
    go_wp2_with fail
    have hb : Bas (w4.alloc (.cells #[.int .u64 1, .bool true, .int .u64 2, .bool true] 41)) (.slice (some ⟨w4.heap.size, 0, none⟩) 2 2) [(1, true), (2, true)] := by
      have hb := block_new w4 (.cells #[.int .u64 1, .bool true, .int .u64 2, .bool true] 41)
      refine ⟨_, 2, rfl, fun i hi => ?_⟩
      have : i = 0 ∨ i = 1 := by simp at hi; omega
      rcases this with rfl | rfl
      · exact ⟨_, 0, rfl, cell_of_block hb rfl, cell_of_block hb rfl⟩
      · exact ⟨_, 0, rfl, cell_of_block hb rfl, cell_of_block hb rfl⟩
    refine (voted_any (.slice (some ⟨w.heap.size, 0, none⟩) 3 3) (.slice none 0 0) (.slice (some ⟨w4.heap.size, 0, none⟩) 2 2) [1, 2, 3] [] [(1, true), (2, true)] _ (V4.out.new (Chg.alloc _ _ _)) (us_nil _) hb (by decide) (by decide) (by decide) (by decide) (by decide) (by decide)).mono ?_
    rw [live_voted]
    rintro e w5 ⟨rfl, m5⟩
    have HY5 := Lib.hid (m5.keeps (block_alloc HY.out _) (by simp)); have NW5 := Lib.hid ((NW4.out.then (Chg.alloc _ _ _)).then m5)
    clear m5 hb q0 q1
    have q0 := cell_of_block (off := 0) HY5.out rfl
    simp only [List.getElem_toArray, List.getElem_cons_zero] at q0
    go_wp2_with fail
    refine bodyPost_ret (results_tmp rfl _ _ _) rfl ⟨rfl, NW5.out⟩
  · rw [live_changed] at hs; cases hs
end Go.Proofs.Ytcgccoigjcdjeaa
