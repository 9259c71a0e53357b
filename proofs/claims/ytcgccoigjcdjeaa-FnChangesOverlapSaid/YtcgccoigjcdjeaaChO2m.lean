/- spec.one, on. Condition: at most 100000 numbers, the sort up to M. -/
import Derived.Test.YtcgccoigjcdjeaaChOm
namespace Go.Proofs.Ytcgccoigjcdjeaa
open Go.RowKit Go.Sort

set_option linter.unusedSimpArgs false in
set_option maxRecDepth 100000 in
set_option maxHeartbeats 3200000 in
theorem oneD (M : Nat) (hS : SortTo M) (cv : Value) (V VO L N : List Int) (al : Bool) (x : Int) (w : World) (h : Cfv w cv V VO L N al) (hn0 : V.length < M ∧ V.length ≤ 100000) (hn1 : VO.length ≤ 100000) (hn2 : L.length < M ∧ L.length ≤ 100000) (hn3 : N.length < M ∧ N.length ≤ 100000) (hx : x ≠ 0) (hin : x ∈ VO) :
    Calls Try.prog 49 #[cv, .agg #[.int .i64 2, .int .u64 x]] w (OneR w (lessC V x) VO L (putC N x) al) := by
  obtain ⟨a, b, c, d, rfl, ⟨h0, m0⟩, ⟨h1, m1⟩, ⟨h2, m2⟩, ⟨h3, m3⟩⟩ := h
  have n2 : New w (((w.alloc (.cells #[a, b, c, d, .bool al] 44)).alloc (.cells #[.int .i64 2, .int .u64 x] 53)).alloc (.cells #[.slice none 0 0, .slice none 0 0, .slice none 0 0, .slice none 0 0, .bool false] 44)) := ((Chg.alloc w _ _).then (Chg.alloc _ _ _)).then (Chg.alloc _ _ _)
  have b0 := block_alloc (block_alloc (block_new w (.cells #[a, b, c, d, .bool al] 44)) (.cells #[.int .i64 2, .int .u64 x] 53)) (.cells #[.slice none 0 0, .slice none 0 0, .slice none 0 0, .slice none 0 0, .bool false] 44)
  have b1 := block_alloc (block_new1 w (.cells #[a, b, c, d, .bool al] 44) (.cells #[.int .i64 2, .int .u64 x] 53)) (.cells #[.slice none 0 0, .slice none 0 0, .slice none 0 0, .slice none 0 0, .bool false] 44)
  have b2 := block_new2 w (.cells #[a, b, c, d, .bool al] 44) (.cells #[.int .i64 2, .int .u64 x] 53) (.cells #[.slice none 0 0, .slice none 0 0, .slice none 0 0, .slice none 0 0, .bool false] 44)
  have H0 := Lib.hid (h0.new n2); have H1 := Lib.hid (h1.new n2); have H2 := Lib.hid (h2.new n2); have H3 := Lib.hid (h3.new n2); have M0 := Lib.hid m0; have M1 := Lib.hid m1; have M2 := Lib.hid m2; have M3 := Lib.hid m3
  have N0 := Lib.hid hn0; have N1 := Lib.hid hn1; have N2 := Lib.hid hn2; have N3 := Lib.hid hn3; have HS := Lib.hid hS
  obtain ⟨oa, ca, rfl, -⟩ := h0
  obtain ⟨ob, cb, rfl, -⟩ := h1
  obtain ⟨oc, cc, rfl, -⟩ := h2
  obtain ⟨od, cd, rfl, -⟩ := h3
  have hxz : (x == 0) = false := by simpa using hx
  clear hx
  have HB := Lib.hid (show decide (x ∈ VO) = true by simpa using hin)
  clear hin
  go_enter Try.func49, Try.ntmps49
  go_wp2_with fail
  obtain ⟨w2, hw2⟩ : ∃ w2, w2 = (((w.alloc (.cells #[.slice oa V.length ca, .slice ob VO.length cb, .slice oc L.length cc, .slice od N.length cd, .bool al] 44)).alloc (.cells #[.int .i64 2, .int .u64 x] 53)).alloc (.cells #[.slice none 0 0, .slice none 0 0, .slice none 0 0, .slice none 0 0, .bool false] 44)) := ⟨_, rfl⟩
  rw [← hw2] at n2 b0 b1 b2 H0 H1 H2 H3 ⊢
  have HN2 := Lib.hid n2; have B0 := Lib.hid b0; have B1 := Lib.hid b1; have B2 := Lib.hid b2
  clear hw2 m0 m1 m2 m3 hn0 hn1 hn2 hn3 n2 b0 b1 b2 hS
  have q0 := cell_of_block (off := 0) B0.out rfl; have q1 := cell_of_block (off := 1) B0.out rfl; have q2 := cell_of_block (off := 2) B0.out rfl; have q3 := cell_of_block (off := 3) B0.out rfl; have q4 := cell_of_block (off := 4) B0.out rfl
  have x0 := cell_of_block (off := 0) B1.out rfl; have x1 := cell_of_block (off := 1) B1.out rfl
  simp only [List.getElem_toArray, List.getElem_cons_zero, List.getElem_cons_succ] at q0 q1 q2 q3 q4 x0 x1
  go_wp2_with (first
    | (go_at_call 36; refine (contains36_any (.slice ob VO.length cb) VO x _ H1.out (by have := N1.out; omega)).mono ?_; rw [HB.out]; rintro e w9 ⟨rfl, hw9⟩; obtain rfl : w2 = w9 := hw9.symm)
    | fail)
  have e0 := (Chg.drew w2 (fun _ => False)).has q0; have e2 := (Chg.drew w2 (fun _ => False)).has q2; have e3 := (Chg.drew w2 (fun _ => False)).has q3; have ei := (Chg.drew w2 (fun _ => False)).has x1
  refine till_region (St := [13, 15]) (S1 := fun w' => w'.cell? ⟨w.heap.size + 1, 1, none⟩ = some (.int .u64 x)) (S2 := fun w' => w'.cell? ⟨w.heap.size, 0, none⟩ = some (.slice oa V.length ca) ∧ w'.cell? ⟨w.heap.size, 2, none⟩ = some (.slice oc L.length cc) ∧ w'.cell? ⟨w.heap.size, 3, none⟩ = some (.slice od N.length cd)) (by kernel_rfl) ⟨ei, fun _ => ⟨e0, e2, e3⟩⟩ (fun hT => ?_)
  clear e0 e2 e3 ei
  refine till_take1 (i := 0) (v := (.pointer (some ⟨w.heap.size, 0, none⟩))) rfl (by kernel_rfl) (by kernel_rfl) (by kernel_rfl) rfl (fun _ _ _ h => h) (Or.inl ⟨by kernel_rfl, fun w' hSw => by first | (go_simp; done) | (go_simp; rfl)⟩) hT (fun hT' => ?_)
  clear hT; have hT := hT'; clear hT'
  try simp only [Act.put, List.setIfInBounds_toArray, List.set_cons_zero, List.set_cons_succ]
  refine till_take1 (i := 1) (v := (.pointer (some ⟨w.heap.size, 0, none⟩))) rfl (by kernel_rfl) (by kernel_rfl) (by kernel_rfl) rfl (fun _ _ _ h => h) (Or.inl ⟨by kernel_rfl, fun w' hSw => by first | (go_simp; done) | (go_simp; rfl)⟩) hT (fun hT' => ?_)
  clear hT; have hT := hT'; clear hT'
  try simp only [Act.put, List.setIfInBounds_toArray, List.set_cons_zero, List.set_cons_succ]
  refine till_take2 (i := 2) (v := (.slice oa V.length ca)) rfl (by kernel_rfl) (by kernel_rfl) (by kernel_rfl) rfl (by kernel_rfl) (by kernel_rfl) (fun _ _ _ h => h) (Or.inl ⟨by kernel_rfl, fun w' hSw => by obtain ⟨c0, c2, c3⟩ := hSw; first | (go_simp; done) | (go_simp; rfl)⟩) hT (fun hT' => ?_)
  clear hT; have hT := hT'; clear hT'
  try simp only [Act.put, List.setIfInBounds_toArray, List.set_cons_zero, List.set_cons_succ]
  refine till_take1 (i := 3) (v := (.pointer (some ⟨w.heap.size + 1, 1, none⟩))) rfl (by kernel_rfl) (by kernel_rfl) (by kernel_rfl) rfl (fun _ _ _ h => h) (Or.inl ⟨by kernel_rfl, fun w' hSw => by first | (go_simp; done) | (go_simp; rfl)⟩) hT (fun hT' => ?_)
  clear hT; have hT := hT'; clear hT'
  try simp only [Act.put, List.setIfInBounds_toArray, List.set_cons_zero, List.set_cons_succ]
  refine till_take1 (i := 4) (v := (.int .u64 x)) rfl (by kernel_rfl) (by kernel_rfl) (by kernel_rfl) rfl (fun _ _ _ h => h) (Or.inl ⟨by kernel_rfl, fun w' hSw => by first | (go_simp; done) | (go_simp; rfl)⟩) hT (fun hT' => ?_)
  clear hT; have hT := hT'; clear hT'
  try simp only [Act.put, List.setIfInBounds_toArray, List.set_cons_zero, List.set_cons_succ]
  refine till_take1 (i := 6) (v := (.pointer (some ⟨w.heap.size, 3, none⟩))) rfl (by kernel_rfl) (by kernel_rfl) (by kernel_rfl) rfl (fun _ _ _ h => h) (Or.inl ⟨by kernel_rfl, fun w' hSw => by first | (go_simp; done) | (go_simp; rfl)⟩) hT (fun hT' => ?_)
  clear hT; have hT := hT'; clear hT'
  try simp only [Act.put, List.setIfInBounds_toArray, List.set_cons_zero, List.set_cons_succ]
  refine till_take2 (i := 7) (v := (.slice od N.length cd)) rfl (by kernel_rfl) (by kernel_rfl) (by kernel_rfl) rfl (by kernel_rfl) (by kernel_rfl) (fun _ _ _ h => h) (Or.inl ⟨by kernel_rfl, fun w' hSw => by obtain ⟨c0, c2, c3⟩ := hSw; first | (go_simp; done) | (go_simp; rfl)⟩) hT (fun hT' => ?_)
  clear hT; have hT := hT'; clear hT'
  try simp only [Act.put, List.setIfInBounds_toArray, List.set_cons_zero, List.set_cons_succ]
  refine till_take1 (i := 8) (v := (.pointer (some ⟨w.heap.size + 1, 1, none⟩))) rfl (by kernel_rfl) (by kernel_rfl) (by kernel_rfl) rfl (fun _ _ _ h => h) (Or.inl ⟨by kernel_rfl, fun w' hSw => by first | (go_simp; done) | (go_simp; rfl)⟩) hT (fun hT' => ?_)
  clear hT; have hT := hT'; clear hT'
  try simp only [Act.put, List.setIfInBounds_toArray, List.set_cons_zero, List.set_cons_succ]
  refine till_take1 (i := 9) (v := (.int .u64 x)) rfl (by kernel_rfl) (by kernel_rfl) (by kernel_rfl) rfl (fun _ _ _ h => h) (Or.inl ⟨by kernel_rfl, fun w' hSw => by first | (go_simp; done) | (go_simp; rfl)⟩) hT (fun hT' => ?_)
  clear hT; have hT := hT'; clear hT'
  try simp only [Act.put, List.setIfInBounds_toArray, List.set_cons_zero, List.set_cons_succ]
  refine till_take1 (i := 11) (v := (.pointer (some ⟨w.heap.size, 0, none⟩))) rfl (by kernel_rfl) (by kernel_rfl) (by kernel_rfl) rfl (fun _ _ _ h => h) (Or.inl ⟨by kernel_rfl, fun w' hSw => by first | (go_simp; done) | (go_simp; rfl)⟩) hT (fun hT' => ?_)
  clear hT; have hT := hT'; clear hT'
  try simp only [Act.put, List.setIfInBounds_toArray, List.set_cons_zero, List.set_cons_succ]
  have d0 := block_drew B0.out; have d1 := block_drew B1.out; have d2 := block_drew B2.out
  refine till_one (i := 5) (by kernel_rfl) rfl (fun K hK => ?_)
  have HD0 := Lib.hid d0; have HD1 := Lib.hid d1; have HD2 := Lib.hid d2; clear d0 d1 d2 hT
  go_simp
  refine (less69_us (.slice oa V.length ca) V x _ (H0.out.new (Chg.drew w2 (fun _ => False))) M0.out N0.out.2).mono ?_
  rintro e w3 ⟨xv1, rfl, s1, t1, p1⟩
  have S1 := Lib.hid s1; have T1 := Lib.hid t1; obtain ⟨y1, z1, rfl, -⟩ := id s1; clear s1 t1
  have d0 := p1.keeps HD0.out (by simp); have d1 := p1.keeps HD1.out (by simp); have d2 := p1.keeps HD2.out (by simp)
  clear HD0 HD1 HD2
  refine hK.out _ _ ⟨cell_of_block d1 rfl, fun _ => ⟨cell_of_block d0 rfl, cell_of_block d0 rfl, cell_of_block d0 rfl⟩⟩ (fun hT => ?_)
  clear hK K
  try simp only [Act.put, List.setIfInBounds_toArray, List.set_cons_zero, List.set_cons_succ]
  refine till_take1 (i := 12) (v := (.pointer (some ⟨w.heap.size, 0, none⟩))) rfl (by kernel_rfl) (by kernel_rfl) (by kernel_rfl) rfl (fun _ _ _ h => h) (Or.inl ⟨by kernel_rfl, fun w' hSw => by first | (go_simp; done) | (go_simp; rfl)⟩) hT (fun hT' => ?_)
  clear hT; have hT := hT'; clear hT'
  try simp only [Act.put, List.setIfInBounds_toArray, List.set_cons_zero, List.set_cons_succ]
  refine till_one (i := 10) (by kernel_rfl) rfl (fun K hK => ?_)
  have HD0 := Lib.hid d0; have HD1 := Lib.hid d1; have HD2 := Lib.hid d2; clear d0 d1 d2 hT
  go_simp
  refine (put48_us M HS.out (.slice od N.length cd) N x _ (H3.out.new ((Chg.drew w2 (fun _ => False)).then p1)) M3.out N3.out.1 N3.out.2).mono ?_
  rintro e w4 ⟨xv2, rfl, s2, t2, p2⟩
  have S2 := Lib.hid s2; have T2 := Lib.hid t2; obtain ⟨y2, z2, rfl, -⟩ := id s2; clear s2 t2
  have d0 := p2.keeps HD0.out (by simp); have d1 := p2.keeps HD1.out (by simp); have d2 := p2.keeps HD2.out (by simp)
  clear HD0 HD1 HD2
  refine hK.out _ _ ⟨cell_of_block d1 rfl, fun _ => ⟨cell_of_block d0 rfl, cell_of_block d0 rfl, cell_of_block d0 rfl⟩⟩ (fun hT => ?_)
  clear hK K
  try simp only [Act.put, List.setIfInBounds_toArray, List.set_cons_zero, List.set_cons_succ]
  have HPR := Lib.hid (show New w2 w4 from ((Chg.drew w2 (fun _ => False)).then p1).then p2)
  have DB := Lib.hid d0; have DR := Lib.hid d2; have DI := Lib.hid d1
  clear d0 d1 d2 hT
  have HC0 := Lib.hid (Chg.refl w4 (fun i => i = w.heap.size))
  have DB0 := DB
  have r1 := cell_of_block (off := 0) DB.out rfl; have f1 := free_of_block (off := 0) DB.out
  refine till_one (i := 13) (by kernel_rfl) rfl (fun K hK => ?_)
  go_simp
  have cs := Chg.setCell w4 ⟨w.heap.size, 0, none⟩ (.slice y1 (lessC V x).length z1) (fun i => i = w.heap.size) (fun _ => rfl)
  have bs := block_setCell (off := 0) DB.out (.slice y1 (lessC V x).length z1)
  obtain ⟨v1, hv⟩ : ∃ v1, v1 = w4.setCell ⟨w.heap.size, 0, none⟩ (.slice y1 (lessC V x).length z1) := ⟨_, rfl⟩
  rw [← hv] at cs bs ⊢
  clear hv r1 f1
  simp only [List.setIfInBounds_toArray, List.set_cons_zero, List.set_cons_succ] at bs
  have DI1 := Lib.hid (cs.keeps DI.out (by simp)); have DR1 := Lib.hid (cs.keeps DR.out (by simp)); have HC1 := Lib.hid (HC0.out.then cs)
  clear DI DR DB; have DB := Lib.hid bs; have DI := DI1; have DR := DR1; clear bs cs DI1 DR1
  refine hK.out _ _ ⟨cell_of_block DI.out rfl, fun h => False.elim (Bool.false_ne_true (h.symm.trans (by kernel_rfl)))⟩ (fun hT => ?_)
  clear hK K
  try simp only [Act.put, List.setIfInBounds_toArray, List.set_cons_zero, List.set_cons_succ]
  refine till_take1 (i := 14) (v := (.pointer (some ⟨w.heap.size, 3, none⟩))) rfl (by kernel_rfl) (by kernel_rfl) (by kernel_rfl) rfl (fun _ _ _ h => h) (Or.inl ⟨by kernel_rfl, fun w' hSw => by first | (go_simp; done) | (go_simp; rfl)⟩) hT (fun hT' => ?_)
  clear hT; have hT := hT'; clear hT'
  try simp only [Act.put, List.setIfInBounds_toArray, List.set_cons_zero, List.set_cons_succ]
  have r2 := cell_of_block (off := 3) DB.out rfl; have f2 := free_of_block (off := 3) DB.out
  refine till_one (i := 15) (by kernel_rfl) rfl (fun K hK => ?_)
  clear hT
  go_simp
  have cs := Chg.setCell v1 ⟨w.heap.size, 3, none⟩ (.slice y2 (putC N x).length z2) (fun i => i = w.heap.size) (fun _ => rfl)
  have bs := block_setCell (off := 3) DB.out (.slice y2 (putC N x).length z2)
  obtain ⟨v2, hv⟩ : ∃ v2, v2 = v1.setCell ⟨w.heap.size, 3, none⟩ (.slice y2 (putC N x).length z2) := ⟨_, rfl⟩
  rw [← hv] at cs bs ⊢
  clear hv r2 f2
  simp only [List.setIfInBounds_toArray, List.set_cons_zero, List.set_cons_succ] at bs
  have DI2 := Lib.hid (cs.keeps DI.out (by simp)); have DR2 := Lib.hid (cs.keeps DR.out (by simp)); have HC2 := Lib.hid (HC1.out.then cs)
  clear DI DR DB; have DB := Lib.hid bs; have DI := DI2; have DR := DR2; clear bs cs DI2 DR2
  refine hK.out _ _ ⟨cell_of_block DI.out rfl, fun h => False.elim (Bool.false_ne_true (h.symm.trans (by kernel_rfl)))⟩ (fun hT => ?_)
  clear hK K
  try simp only [Act.put, List.setIfInBounds_toArray, List.set_cons_zero, List.set_cons_succ]
  clear hT
  refine till_done (by kernel_rfl) ?_ _
  have r0 := cell_of_block (off := 0) DB.out rfl; have g0 := cell_of_block (off := 0) DR.out rfl; have h0 := free_of_block (off := 0) DR.out
  have r1 := cell_of_block (off := 1) DB.out rfl; have g1 := cell_of_block (off := 1) DR.out rfl; have h1 := free_of_block (off := 1) DR.out
  have r2 := cell_of_block (off := 2) DB.out rfl; have g2 := cell_of_block (off := 2) DR.out rfl; have h2 := free_of_block (off := 2) DR.out
  have r3 := cell_of_block (off := 3) DB.out rfl; have g3 := cell_of_block (off := 3) DR.out rfl; have h3 := free_of_block (off := 3) DR.out
  have r4 := cell_of_block (off := 4) DB.out rfl; have g4 := cell_of_block (off := 4) DR.out rfl; have h4 := free_of_block (off := 4) DR.out
  simp only [List.getElem_toArray, List.getElem_cons_zero, List.getElem_cons_succ] at r0 r1 r2 r3 r4 g0 g1 g2 g3 g4
  clear q0 q1 q2 q3 q4 x0 x1
  go_wp2_with fail
  refine bodyPost_ret (v := ?_) ?_ rfl ?_
  rotate_left 1
  · simp [results, Try.results49, go_sem, g0, g1, g2, g3, g4]
    rfl
  have c1 : ∀ (w' : World) i x, Chg w' (w'.setCell ⟨w.heap.size + 2, i, none⟩ x) (fun i => i = w.heap.size + 2) := fun w' i x => Chg.setCell _ _ _ _ (fun _ => rfl)
  have hx : Chg v2 (((((v2.setCell ⟨w.heap.size + 2, 0, none⟩ (.slice y1 (lessC V x).length z1)).setCell ⟨w.heap.size + 2, 1, none⟩ (.slice ob VO.length cb)).setCell ⟨w.heap.size + 2, 2, none⟩ (.slice oc L.length cc)).setCell ⟨w.heap.size + 2, 3, none⟩ (.slice y2 (putC N x).length z2)).setCell ⟨w.heap.size + 2, 4, none⟩ (.bool al)) (fun i => i = w.heap.size + 2) := ((((c1 _ _ _).then (c1 _ _ _)).then (c1 _ _ _)).then (c1 _ _ _)).then (c1 _ _ _)
  have nob : ∀ (p q r s : Value) (i : Nat) (k : Int), (∀ k, p ≠ .int .u64 k) → (∀ k, q ≠ .int .u64 k) → (∀ k, r ≠ .int .u64 k) → (∀ k, s ≠ .int .u64 k) → ∀ bb, (#[p, q, r, s, .bool bb] : Array Value)[i]? ≠ some (.int .u64 k) := no5
  have carry : ∀ v l, Us w4 v l → Us (((((v2.setCell ⟨w.heap.size + 2, 0, none⟩ (.slice y1 (lessC V x).length z1)).setCell ⟨w.heap.size + 2, 1, none⟩ (.slice ob VO.length cb)).setCell ⟨w.heap.size + 2, 2, none⟩ (.slice oc L.length cc)).setCell ⟨w.heap.size + 2, 3, none⟩ (.slice y2 (putC N x).length z2)).setCell ⟨w.heap.size + 2, 4, none⟩ (.bool al)) v l := fun v l h => (h.other HC2.out DB0.out (fun i k => nob _ _ _ _ i k (by simp) (by simp) (by simp) (by simp) _)).other hx DR.out (fun i k => nob _ _ _ _ i k (by simp) (by simp) (by simp) (by simp) _)
  exact ⟨_, rfl, ⟨_, _, _, _, rfl, ⟨carry _ _ (S1.out.new p2), T1.out⟩, ⟨carry _ _ (H1.out.new HPR.out), M1.out⟩, ⟨carry _ _ (H2.out.new HPR.out), M2.out⟩, ⟨carry _ _ S2.out, T2.out⟩⟩, ((HN2.out.then HPR.out).trans HC2.out (fun _ _ h => h) (fun i hi e => by omega)).trans hx (fun _ _ h => h) (fun i hi e => by omega)⟩
set_option linter.unusedSimpArgs false in
set_option maxRecDepth 100000 in
set_option maxHeartbeats 3200000 in
theorem oneE (M : Nat) (hS : SortTo M) (cv : Value) (V VO L N : List Int) (al : Bool) (x : Int) (w : World) (h : Cfv w cv V VO L N al) (hn0 : V.length < M ∧ V.length ≤ 100000) (hn1 : VO.length ≤ 100000) (hn2 : L.length < M ∧ L.length ≤ 100000) (hn3 : N.length < M ∧ N.length ≤ 100000) (hx : x ≠ 0) (hin : x ∉ VO) :
    Calls Try.prog 49 #[cv, .agg #[.int .i64 2, .int .u64 x]] w (OneR w (lessC V x) VO (putC L x) N al) := by
  obtain ⟨a, b, c, d, rfl, ⟨h0, m0⟩, ⟨h1, m1⟩, ⟨h2, m2⟩, ⟨h3, m3⟩⟩ := h
  have n2 : New w (((w.alloc (.cells #[a, b, c, d, .bool al] 44)).alloc (.cells #[.int .i64 2, .int .u64 x] 53)).alloc (.cells #[.slice none 0 0, .slice none 0 0, .slice none 0 0, .slice none 0 0, .bool false] 44)) := ((Chg.alloc w _ _).then (Chg.alloc _ _ _)).then (Chg.alloc _ _ _)
  have b0 := block_alloc (block_alloc (block_new w (.cells #[a, b, c, d, .bool al] 44)) (.cells #[.int .i64 2, .int .u64 x] 53)) (.cells #[.slice none 0 0, .slice none 0 0, .slice none 0 0, .slice none 0 0, .bool false] 44)
  have b1 := block_alloc (block_new1 w (.cells #[a, b, c, d, .bool al] 44) (.cells #[.int .i64 2, .int .u64 x] 53)) (.cells #[.slice none 0 0, .slice none 0 0, .slice none 0 0, .slice none 0 0, .bool false] 44)
  have b2 := block_new2 w (.cells #[a, b, c, d, .bool al] 44) (.cells #[.int .i64 2, .int .u64 x] 53) (.cells #[.slice none 0 0, .slice none 0 0, .slice none 0 0, .slice none 0 0, .bool false] 44)
  have H0 := Lib.hid (h0.new n2); have H1 := Lib.hid (h1.new n2); have H2 := Lib.hid (h2.new n2); have H3 := Lib.hid (h3.new n2); have M0 := Lib.hid m0; have M1 := Lib.hid m1; have M2 := Lib.hid m2; have M3 := Lib.hid m3
  have N0 := Lib.hid hn0; have N1 := Lib.hid hn1; have N2 := Lib.hid hn2; have N3 := Lib.hid hn3; have HS := Lib.hid hS
  obtain ⟨oa, ca, rfl, -⟩ := h0
  obtain ⟨ob, cb, rfl, -⟩ := h1
  obtain ⟨oc, cc, rfl, -⟩ := h2
  obtain ⟨od, cd, rfl, -⟩ := h3
  have hxz : (x == 0) = false := by simpa using hx
  clear hx
  have HB := Lib.hid (show decide (x ∈ VO) = false by simpa using hin)
  clear hin
  go_enter Try.func49, Try.ntmps49
  go_wp2_with fail
  obtain ⟨w2, hw2⟩ : ∃ w2, w2 = (((w.alloc (.cells #[.slice oa V.length ca, .slice ob VO.length cb, .slice oc L.length cc, .slice od N.length cd, .bool al] 44)).alloc (.cells #[.int .i64 2, .int .u64 x] 53)).alloc (.cells #[.slice none 0 0, .slice none 0 0, .slice none 0 0, .slice none 0 0, .bool false] 44)) := ⟨_, rfl⟩
  rw [← hw2] at n2 b0 b1 b2 H0 H1 H2 H3 ⊢
  have HN2 := Lib.hid n2; have B0 := Lib.hid b0; have B1 := Lib.hid b1; have B2 := Lib.hid b2
  clear hw2 m0 m1 m2 m3 hn0 hn1 hn2 hn3 n2 b0 b1 b2 hS
  have q0 := cell_of_block (off := 0) B0.out rfl; have q1 := cell_of_block (off := 1) B0.out rfl; have q2 := cell_of_block (off := 2) B0.out rfl; have q3 := cell_of_block (off := 3) B0.out rfl; have q4 := cell_of_block (off := 4) B0.out rfl
  have x0 := cell_of_block (off := 0) B1.out rfl; have x1 := cell_of_block (off := 1) B1.out rfl
  simp only [List.getElem_toArray, List.getElem_cons_zero, List.getElem_cons_succ] at q0 q1 q2 q3 q4 x0 x1
  go_wp2_with (first
    | (go_at_call 36; refine (contains36_any (.slice ob VO.length cb) VO x _ H1.out (by have := N1.out; omega)).mono ?_; rw [HB.out]; rintro e w9 ⟨rfl, hw9⟩; obtain rfl : w2 = w9 := hw9.symm)
    | fail)
  have e0 := (Chg.drew w2 (fun _ => False)).has q0; have e2 := (Chg.drew w2 (fun _ => False)).has q2; have e3 := (Chg.drew w2 (fun _ => False)).has q3; have ei := (Chg.drew w2 (fun _ => False)).has x1
  refine till_region (St := [13, 15]) (S1 := fun w' => w'.cell? ⟨w.heap.size + 1, 1, none⟩ = some (.int .u64 x)) (S2 := fun w' => w'.cell? ⟨w.heap.size, 0, none⟩ = some (.slice oa V.length ca) ∧ w'.cell? ⟨w.heap.size, 2, none⟩ = some (.slice oc L.length cc) ∧ w'.cell? ⟨w.heap.size, 3, none⟩ = some (.slice od N.length cd)) (by kernel_rfl) ⟨ei, fun _ => ⟨e0, e2, e3⟩⟩ (fun hT => ?_)
  clear e0 e2 e3 ei
  refine till_take1 (i := 0) (v := (.pointer (some ⟨w.heap.size, 0, none⟩))) rfl (by kernel_rfl) (by kernel_rfl) (by kernel_rfl) rfl (fun _ _ _ h => h) (Or.inl ⟨by kernel_rfl, fun w' hSw => by first | (go_simp; done) | (go_simp; rfl)⟩) hT (fun hT' => ?_)
  clear hT; have hT := hT'; clear hT'
  try simp only [Act.put, List.setIfInBounds_toArray, List.set_cons_zero, List.set_cons_succ]
  refine till_take1 (i := 1) (v := (.pointer (some ⟨w.heap.size, 0, none⟩))) rfl (by kernel_rfl) (by kernel_rfl) (by kernel_rfl) rfl (fun _ _ _ h => h) (Or.inl ⟨by kernel_rfl, fun w' hSw => by first | (go_simp; done) | (go_simp; rfl)⟩) hT (fun hT' => ?_)
  clear hT; have hT := hT'; clear hT'
  try simp only [Act.put, List.setIfInBounds_toArray, List.set_cons_zero, List.set_cons_succ]
  refine till_take2 (i := 2) (v := (.slice oa V.length ca)) rfl (by kernel_rfl) (by kernel_rfl) (by kernel_rfl) rfl (by kernel_rfl) (by kernel_rfl) (fun _ _ _ h => h) (Or.inl ⟨by kernel_rfl, fun w' hSw => by obtain ⟨c0, c2, c3⟩ := hSw; first | (go_simp; done) | (go_simp; rfl)⟩) hT (fun hT' => ?_)
  clear hT; have hT := hT'; clear hT'
  try simp only [Act.put, List.setIfInBounds_toArray, List.set_cons_zero, List.set_cons_succ]
  refine till_take1 (i := 3) (v := (.pointer (some ⟨w.heap.size + 1, 1, none⟩))) rfl (by kernel_rfl) (by kernel_rfl) (by kernel_rfl) rfl (fun _ _ _ h => h) (Or.inl ⟨by kernel_rfl, fun w' hSw => by first | (go_simp; done) | (go_simp; rfl)⟩) hT (fun hT' => ?_)
  clear hT; have hT := hT'; clear hT'
  try simp only [Act.put, List.setIfInBounds_toArray, List.set_cons_zero, List.set_cons_succ]
  refine till_take1 (i := 4) (v := (.int .u64 x)) rfl (by kernel_rfl) (by kernel_rfl) (by kernel_rfl) rfl (fun _ _ _ h => h) (Or.inl ⟨by kernel_rfl, fun w' hSw => by first | (go_simp; done) | (go_simp; rfl)⟩) hT (fun hT' => ?_)
  clear hT; have hT := hT'; clear hT'
  try simp only [Act.put, List.setIfInBounds_toArray, List.set_cons_zero, List.set_cons_succ]
  refine till_take1 (i := 6) (v := (.pointer (some ⟨w.heap.size, 2, none⟩))) rfl (by kernel_rfl) (by kernel_rfl) (by kernel_rfl) rfl (fun _ _ _ h => h) (Or.inl ⟨by kernel_rfl, fun w' hSw => by first | (go_simp; done) | (go_simp; rfl)⟩) hT (fun hT' => ?_)
  clear hT; have hT := hT'; clear hT'
  try simp only [Act.put, List.setIfInBounds_toArray, List.set_cons_zero, List.set_cons_succ]
  refine till_take2 (i := 7) (v := (.slice oc L.length cc)) rfl (by kernel_rfl) (by kernel_rfl) (by kernel_rfl) rfl (by kernel_rfl) (by kernel_rfl) (fun _ _ _ h => h) (Or.inl ⟨by kernel_rfl, fun w' hSw => by obtain ⟨c0, c2, c3⟩ := hSw; first | (go_simp; done) | (go_simp; rfl)⟩) hT (fun hT' => ?_)
  clear hT; have hT := hT'; clear hT'
  try simp only [Act.put, List.setIfInBounds_toArray, List.set_cons_zero, List.set_cons_succ]
  refine till_take1 (i := 8) (v := (.pointer (some ⟨w.heap.size + 1, 1, none⟩))) rfl (by kernel_rfl) (by kernel_rfl) (by kernel_rfl) rfl (fun _ _ _ h => h) (Or.inl ⟨by kernel_rfl, fun w' hSw => by first | (go_simp; done) | (go_simp; rfl)⟩) hT (fun hT' => ?_)
  clear hT; have hT := hT'; clear hT'
  try simp only [Act.put, List.setIfInBounds_toArray, List.set_cons_zero, List.set_cons_succ]
  refine till_take1 (i := 9) (v := (.int .u64 x)) rfl (by kernel_rfl) (by kernel_rfl) (by kernel_rfl) rfl (fun _ _ _ h => h) (Or.inl ⟨by kernel_rfl, fun w' hSw => by first | (go_simp; done) | (go_simp; rfl)⟩) hT (fun hT' => ?_)
  clear hT; have hT := hT'; clear hT'
  try simp only [Act.put, List.setIfInBounds_toArray, List.set_cons_zero, List.set_cons_succ]
  refine till_take1 (i := 11) (v := (.pointer (some ⟨w.heap.size, 0, none⟩))) rfl (by kernel_rfl) (by kernel_rfl) (by kernel_rfl) rfl (fun _ _ _ h => h) (Or.inl ⟨by kernel_rfl, fun w' hSw => by first | (go_simp; done) | (go_simp; rfl)⟩) hT (fun hT' => ?_)
  clear hT; have hT := hT'; clear hT'
  try simp only [Act.put, List.setIfInBounds_toArray, List.set_cons_zero, List.set_cons_succ]
  have d0 := block_drew B0.out; have d1 := block_drew B1.out; have d2 := block_drew B2.out
  refine till_one (i := 5) (by kernel_rfl) rfl (fun K hK => ?_)
  have HD0 := Lib.hid d0; have HD1 := Lib.hid d1; have HD2 := Lib.hid d2; clear d0 d1 d2 hT
  go_simp
  refine (less69_us (.slice oa V.length ca) V x _ (H0.out.new (Chg.drew w2 (fun _ => False))) M0.out N0.out.2).mono ?_
  rintro e w3 ⟨xv1, rfl, s1, t1, p1⟩
  have S1 := Lib.hid s1; have T1 := Lib.hid t1; obtain ⟨y1, z1, rfl, -⟩ := id s1; clear s1 t1
  have d0 := p1.keeps HD0.out (by simp); have d1 := p1.keeps HD1.out (by simp); have d2 := p1.keeps HD2.out (by simp)
  clear HD0 HD1 HD2
  refine hK.out _ _ ⟨cell_of_block d1 rfl, fun _ => ⟨cell_of_block d0 rfl, cell_of_block d0 rfl, cell_of_block d0 rfl⟩⟩ (fun hT => ?_)
  clear hK K
  try simp only [Act.put, List.setIfInBounds_toArray, List.set_cons_zero, List.set_cons_succ]
  refine till_take1 (i := 12) (v := (.pointer (some ⟨w.heap.size, 0, none⟩))) rfl (by kernel_rfl) (by kernel_rfl) (by kernel_rfl) rfl (fun _ _ _ h => h) (Or.inl ⟨by kernel_rfl, fun w' hSw => by first | (go_simp; done) | (go_simp; rfl)⟩) hT (fun hT' => ?_)
  clear hT; have hT := hT'; clear hT'
  try simp only [Act.put, List.setIfInBounds_toArray, List.set_cons_zero, List.set_cons_succ]
  refine till_one (i := 10) (by kernel_rfl) rfl (fun K hK => ?_)
  have HD0 := Lib.hid d0; have HD1 := Lib.hid d1; have HD2 := Lib.hid d2; clear d0 d1 d2 hT
  go_simp
  refine (put48_us M HS.out (.slice oc L.length cc) L x _ (H2.out.new ((Chg.drew w2 (fun _ => False)).then p1)) M2.out N2.out.1 N2.out.2).mono ?_
  rintro e w4 ⟨xv2, rfl, s2, t2, p2⟩
  have S2 := Lib.hid s2; have T2 := Lib.hid t2; obtain ⟨y2, z2, rfl, -⟩ := id s2; clear s2 t2
  have d0 := p2.keeps HD0.out (by simp); have d1 := p2.keeps HD1.out (by simp); have d2 := p2.keeps HD2.out (by simp)
  clear HD0 HD1 HD2
  refine hK.out _ _ ⟨cell_of_block d1 rfl, fun _ => ⟨cell_of_block d0 rfl, cell_of_block d0 rfl, cell_of_block d0 rfl⟩⟩ (fun hT => ?_)
  clear hK K
  try simp only [Act.put, List.setIfInBounds_toArray, List.set_cons_zero, List.set_cons_succ]
  have HPR := Lib.hid (show New w2 w4 from ((Chg.drew w2 (fun _ => False)).then p1).then p2)
  have DB := Lib.hid d0; have DR := Lib.hid d2; have DI := Lib.hid d1
  clear d0 d1 d2 hT
  have HC0 := Lib.hid (Chg.refl w4 (fun i => i = w.heap.size))
  have DB0 := DB
  have r1 := cell_of_block (off := 0) DB.out rfl; have f1 := free_of_block (off := 0) DB.out
  refine till_one (i := 13) (by kernel_rfl) rfl (fun K hK => ?_)
  go_simp
  have cs := Chg.setCell w4 ⟨w.heap.size, 0, none⟩ (.slice y1 (lessC V x).length z1) (fun i => i = w.heap.size) (fun _ => rfl)
  have bs := block_setCell (off := 0) DB.out (.slice y1 (lessC V x).length z1)
  obtain ⟨v1, hv⟩ : ∃ v1, v1 = w4.setCell ⟨w.heap.size, 0, none⟩ (.slice y1 (lessC V x).length z1) := ⟨_, rfl⟩
  rw [← hv] at cs bs ⊢
  clear hv r1 f1
  simp only [List.setIfInBounds_toArray, List.set_cons_zero, List.set_cons_succ] at bs
  have DI1 := Lib.hid (cs.keeps DI.out (by simp)); have DR1 := Lib.hid (cs.keeps DR.out (by simp)); have HC1 := Lib.hid (HC0.out.then cs)
  clear DI DR DB; have DB := Lib.hid bs; have DI := DI1; have DR := DR1; clear bs cs DI1 DR1
  refine hK.out _ _ ⟨cell_of_block DI.out rfl, fun h => False.elim (Bool.false_ne_true (h.symm.trans (by kernel_rfl)))⟩ (fun hT => ?_)
  clear hK K
  try simp only [Act.put, List.setIfInBounds_toArray, List.set_cons_zero, List.set_cons_succ]
  refine till_take1 (i := 14) (v := (.pointer (some ⟨w.heap.size, 2, none⟩))) rfl (by kernel_rfl) (by kernel_rfl) (by kernel_rfl) rfl (fun _ _ _ h => h) (Or.inl ⟨by kernel_rfl, fun w' hSw => by first | (go_simp; done) | (go_simp; rfl)⟩) hT (fun hT' => ?_)
  clear hT; have hT := hT'; clear hT'
  try simp only [Act.put, List.setIfInBounds_toArray, List.set_cons_zero, List.set_cons_succ]
  have r2 := cell_of_block (off := 2) DB.out rfl; have f2 := free_of_block (off := 2) DB.out
  refine till_one (i := 15) (by kernel_rfl) rfl (fun K hK => ?_)
  clear hT
  go_simp
  have cs := Chg.setCell v1 ⟨w.heap.size, 2, none⟩ (.slice y2 (putC L x).length z2) (fun i => i = w.heap.size) (fun _ => rfl)
  have bs := block_setCell (off := 2) DB.out (.slice y2 (putC L x).length z2)
  obtain ⟨v2, hv⟩ : ∃ v2, v2 = v1.setCell ⟨w.heap.size, 2, none⟩ (.slice y2 (putC L x).length z2) := ⟨_, rfl⟩
  rw [← hv] at cs bs ⊢
  clear hv r2 f2
  simp only [List.setIfInBounds_toArray, List.set_cons_zero, List.set_cons_succ] at bs
  have DI2 := Lib.hid (cs.keeps DI.out (by simp)); have DR2 := Lib.hid (cs.keeps DR.out (by simp)); have HC2 := Lib.hid (HC1.out.then cs)
  clear DI DR DB; have DB := Lib.hid bs; have DI := DI2; have DR := DR2; clear bs cs DI2 DR2
  refine hK.out _ _ ⟨cell_of_block DI.out rfl, fun h => False.elim (Bool.false_ne_true (h.symm.trans (by kernel_rfl)))⟩ (fun hT => ?_)
  clear hK K
  try simp only [Act.put, List.setIfInBounds_toArray, List.set_cons_zero, List.set_cons_succ]
  clear hT
  refine till_done (by kernel_rfl) ?_ _
  have r0 := cell_of_block (off := 0) DB.out rfl; have g0 := cell_of_block (off := 0) DR.out rfl; have h0 := free_of_block (off := 0) DR.out
  have r1 := cell_of_block (off := 1) DB.out rfl; have g1 := cell_of_block (off := 1) DR.out rfl; have h1 := free_of_block (off := 1) DR.out
  have r2 := cell_of_block (off := 2) DB.out rfl; have g2 := cell_of_block (off := 2) DR.out rfl; have h2 := free_of_block (off := 2) DR.out
  have r3 := cell_of_block (off := 3) DB.out rfl; have g3 := cell_of_block (off := 3) DR.out rfl; have h3 := free_of_block (off := 3) DR.out
  have r4 := cell_of_block (off := 4) DB.out rfl; have g4 := cell_of_block (off := 4) DR.out rfl; have h4 := free_of_block (off := 4) DR.out
  simp only [List.getElem_toArray, List.getElem_cons_zero, List.getElem_cons_succ] at r0 r1 r2 r3 r4 g0 g1 g2 g3 g4
  clear q0 q1 q2 q3 q4 x0 x1
  go_wp2_with fail
  refine bodyPost_ret (v := ?_) ?_ rfl ?_
  rotate_left 1
  · simp [results, Try.results49, go_sem, g0, g1, g2, g3, g4]
    rfl
  have c1 : ∀ (w' : World) i x, Chg w' (w'.setCell ⟨w.heap.size + 2, i, none⟩ x) (fun i => i = w.heap.size + 2) := fun w' i x => Chg.setCell _ _ _ _ (fun _ => rfl)
  have hx : Chg v2 (((((v2.setCell ⟨w.heap.size + 2, 0, none⟩ (.slice y1 (lessC V x).length z1)).setCell ⟨w.heap.size + 2, 1, none⟩ (.slice ob VO.length cb)).setCell ⟨w.heap.size + 2, 2, none⟩ (.slice y2 (putC L x).length z2)).setCell ⟨w.heap.size + 2, 3, none⟩ (.slice od N.length cd)).setCell ⟨w.heap.size + 2, 4, none⟩ (.bool al)) (fun i => i = w.heap.size + 2) := ((((c1 _ _ _).then (c1 _ _ _)).then (c1 _ _ _)).then (c1 _ _ _)).then (c1 _ _ _)
  have nob : ∀ (p q r s : Value) (i : Nat) (k : Int), (∀ k, p ≠ .int .u64 k) → (∀ k, q ≠ .int .u64 k) → (∀ k, r ≠ .int .u64 k) → (∀ k, s ≠ .int .u64 k) → ∀ bb, (#[p, q, r, s, .bool bb] : Array Value)[i]? ≠ some (.int .u64 k) := no5
  have carry : ∀ v l, Us w4 v l → Us (((((v2.setCell ⟨w.heap.size + 2, 0, none⟩ (.slice y1 (lessC V x).length z1)).setCell ⟨w.heap.size + 2, 1, none⟩ (.slice ob VO.length cb)).setCell ⟨w.heap.size + 2, 2, none⟩ (.slice y2 (putC L x).length z2)).setCell ⟨w.heap.size + 2, 3, none⟩ (.slice od N.length cd)).setCell ⟨w.heap.size + 2, 4, none⟩ (.bool al)) v l := fun v l h => (h.other HC2.out DB0.out (fun i k => nob _ _ _ _ i k (by simp) (by simp) (by simp) (by simp) _)).other hx DR.out (fun i k => nob _ _ _ _ i k (by simp) (by simp) (by simp) (by simp) _)
  exact ⟨_, rfl, ⟨_, _, _, _, rfl, ⟨carry _ _ (S1.out.new p2), T1.out⟩, ⟨carry _ _ (H1.out.new HPR.out), M1.out⟩, ⟨carry _ _ S2.out, T2.out⟩, ⟨carry _ _ (H3.out.new HPR.out), M3.out⟩⟩, ((HN2.out.then HPR.out).trans HC2.out (fun _ _ h => h) (fun i hi e => by omega)).trans hx (fun _ _ h => h) (fun i hi e => by omega)⟩
set_option linter.unusedSimpArgs false in
set_option maxRecDepth 100000 in
set_option maxHeartbeats 3200000 in
theorem oneZ (M : Nat) (hS : SortTo M) (cv : Value) (V VO L N : List Int) (al : Bool) (w : World) (h : Cfv w cv V VO L N al) (hn0 : V.length < M ∧ V.length ≤ 100000) (hn1 : VO.length ≤ 100000) (hn2 : L.length < M ∧ L.length ≤ 100000) (hn3 : N.length < M ∧ N.length ≤ 100000) (k : Int) :
    Calls Try.prog 49 #[cv, .agg #[.int .i64 k, .int .u64 0]] w (OneR w V VO L N al) := by
  obtain ⟨a, b, c, d, rfl, ⟨h0, m0⟩, ⟨h1, m1⟩, ⟨h2, m2⟩, ⟨h3, m3⟩⟩ := h
  have n2 : New w (((w.alloc (.cells #[a, b, c, d, .bool al] 44)).alloc (.cells #[.int .i64 k, .int .u64 0] 53)).alloc (.cells #[.slice none 0 0, .slice none 0 0, .slice none 0 0, .slice none 0 0, .bool false] 44)) := ((Chg.alloc w _ _).then (Chg.alloc _ _ _)).then (Chg.alloc _ _ _)
  have b0 := block_alloc (block_alloc (block_new w (.cells #[a, b, c, d, .bool al] 44)) (.cells #[.int .i64 k, .int .u64 0] 53)) (.cells #[.slice none 0 0, .slice none 0 0, .slice none 0 0, .slice none 0 0, .bool false] 44)
  have b1 := block_alloc (block_new1 w (.cells #[a, b, c, d, .bool al] 44) (.cells #[.int .i64 k, .int .u64 0] 53)) (.cells #[.slice none 0 0, .slice none 0 0, .slice none 0 0, .slice none 0 0, .bool false] 44)
  have b2 := block_new2 w (.cells #[a, b, c, d, .bool al] 44) (.cells #[.int .i64 k, .int .u64 0] 53) (.cells #[.slice none 0 0, .slice none 0 0, .slice none 0 0, .slice none 0 0, .bool false] 44)
  have H0 := Lib.hid (h0.new n2); have H1 := Lib.hid (h1.new n2); have H2 := Lib.hid (h2.new n2); have H3 := Lib.hid (h3.new n2); have M0 := Lib.hid m0; have M1 := Lib.hid m1; have M2 := Lib.hid m2; have M3 := Lib.hid m3
  have N0 := Lib.hid hn0; have N1 := Lib.hid hn1; have N2 := Lib.hid hn2; have N3 := Lib.hid hn3; have HS := Lib.hid hS
  obtain ⟨oa, ca, rfl, -⟩ := h0
  obtain ⟨ob, cb, rfl, -⟩ := h1
  obtain ⟨oc, cc, rfl, -⟩ := h2
  obtain ⟨od, cd, rfl, -⟩ := h3
  
  go_enter Try.func49, Try.ntmps49
  go_upto_region 1 with fail
  obtain ⟨w2, hw2⟩ : ∃ w2, w2 = (((w.alloc (.cells #[.slice oa V.length ca, .slice ob VO.length cb, .slice oc L.length cc, .slice od N.length cd, .bool al] 44)).alloc (.cells #[.int .i64 k, .int .u64 0] 53)).alloc (.cells #[.slice none 0 0, .slice none 0 0, .slice none 0 0, .slice none 0 0, .bool false] 44)) := ⟨_, rfl⟩
  rw [← hw2] at n2 b0 b1 b2 H0 H1 H2 H3 ⊢
  have HN2 := Lib.hid n2; have B0 := Lib.hid b0; have B1 := Lib.hid b1; have B2 := Lib.hid b2
  clear hw2 m0 m1 m2 m3 hn0 hn1 hn2 hn3 n2 b0 b1 b2 hS
  have q0 := cell_of_block (off := 0) B0.out rfl; have q1 := cell_of_block (off := 1) B0.out rfl; have q2 := cell_of_block (off := 2) B0.out rfl; have q3 := cell_of_block (off := 3) B0.out rfl; have q4 := cell_of_block (off := 4) B0.out rfl
  have x0 := cell_of_block (off := 0) B1.out rfl; have x1 := cell_of_block (off := 1) B1.out rfl
  simp only [List.getElem_toArray, List.getElem_cons_zero, List.getElem_cons_succ] at q0 q1 q2 q3 q4 x0 x1
  have g0 := cell_of_block (off := 0) B2.out rfl; have h0 := free_of_block (off := 0) B2.out
  have g1 := cell_of_block (off := 1) B2.out rfl; have h1 := free_of_block (off := 1) B2.out
  have g2 := cell_of_block (off := 2) B2.out rfl; have h2 := free_of_block (off := 2) B2.out
  have g3 := cell_of_block (off := 3) B2.out rfl; have h3 := free_of_block (off := 3) B2.out
  have g4 := cell_of_block (off := 4) B2.out rfl; have h4 := free_of_block (off := 4) B2.out
  simp only [List.getElem_toArray, List.getElem_cons_zero, List.getElem_cons_succ] at g0 g1 g2 g3 g4
  go_wp2_with fail
  refine bodyPost_ret (v := ?_) ?_ rfl ?_
  rotate_left 1
  · simp [results, Try.results49, go_sem, g0, g1, g2, g3, g4]
    rfl
  have c1 : ∀ (w' : World) i x, Chg w' (w'.setCell ⟨w.heap.size + 2, i, none⟩ x) (fun i => i = w.heap.size + 2) := fun w' i x => Chg.setCell _ _ _ _ (fun _ => rfl)
  have hx : Chg w2 (((((w2.setCell ⟨w.heap.size + 2, 0, none⟩ (.slice oa V.length ca)).setCell ⟨w.heap.size + 2, 1, none⟩ (.slice ob VO.length cb)).setCell ⟨w.heap.size + 2, 2, none⟩ (.slice oc L.length cc)).setCell ⟨w.heap.size + 2, 3, none⟩ (.slice od N.length cd)).setCell ⟨w.heap.size + 2, 4, none⟩ (.bool al)) (fun i => i = w.heap.size + 2) := ((((c1 _ _ _).then (c1 _ _ _)).then (c1 _ _ _)).then (c1 _ _ _)).then (c1 _ _ _)
  have carry : ∀ v l, Us w2 v l → Us (((((w2.setCell ⟨w.heap.size + 2, 0, none⟩ (.slice oa V.length ca)).setCell ⟨w.heap.size + 2, 1, none⟩ (.slice ob VO.length cb)).setCell ⟨w.heap.size + 2, 2, none⟩ (.slice oc L.length cc)).setCell ⟨w.heap.size + 2, 3, none⟩ (.slice od N.length cd)).setCell ⟨w.heap.size + 2, 4, none⟩ (.bool al)) v l := fun v l h => h.other hx B2.out (fun i k => no5 _ _ _ _ i k (by simp) (by simp) (by simp) (by simp) _)
  exact ⟨_, rfl, ⟨_, _, _, _, rfl, ⟨carry _ _ H0.out, M0.out⟩, ⟨carry _ _ H1.out, M1.out⟩, ⟨carry _ _ H2.out, M2.out⟩, ⟨carry _ _ H3.out, M3.out⟩⟩, HN2.out.trans hx (fun _ _ h => h) (fun i hi e => by omega)⟩
theorem one49_any (M : Nat) (hS : SortTo M) (cv : Value) (V VO L N : List Int) (al : Bool) (x : Int × Int) (w : World) (h : Cfv w cv V VO L N al) (hn0 : V.length < M ∧ V.length ≤ 100000) (hn1 : VO.length ≤ 100000) (hn2 : L.length < M ∧ L.length ≤ 100000) (hn3 : N.length < M ∧ N.length ≤ 100000) (hk : x.1 = 0 ∨ x.1 = 1 ∨ x.1 = 2) :
    Calls Try.prog 49 #[cv, .agg #[.int .i64 x.1, .int .u64 x.2]] w (OneR w (oneC VO (V, L, N) x).1 VO (oneC VO (V, L, N) x).2.1 (oneC VO (V, L, N) x).2.2 al) := by
  obtain ⟨k, x⟩ := x
  unfold oneC
  simp only at hk ⊢
  by_cases hx : x = 0
  · subst hx
    rw [if_pos rfl]
    exact oneZ M hS cv V VO L N al w h hn0 hn1 hn2 hn3 k
  · rw [if_neg hx]
    rcases hk with rfl | rfl | rfl
    · rw [if_pos rfl]; exact oneA M hS cv V VO L N al x w h hn0 hn1 hn2 hn3 hx
    · rw [if_neg (by decide), if_pos rfl]; exact oneB M hS cv V VO L N al x w h hn0 hn1 hn2 hn3 hx
    · rw [if_neg (by decide), if_neg (by decide)]
      by_cases hin : x ∈ VO
      · rw [if_pos hin]; exact oneD M hS cv V VO L N al x w h hn0 hn1 hn2 hn3 hx hin
      · rw [if_neg hin]; exact oneE M hS cv V VO L N al x w h hn0 hn1 hn2 hn3 hx hin
end Go.Proofs.Ytcgccoigjcdjeaa
