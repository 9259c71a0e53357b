/- spec.Changed at way 3. Condition: at most 100000 numbers a list. -/
import Derived.Test.YtcgccoigjcdjeaaChZc
import Derived.Test.YtcgccoigjcdjeaaChZb
namespace Go.Proofs.Ytcgccoigjcdjeaa
open Go.RowKit Go.Sort

set_option linter.unusedSimpArgs false in
set_option maxRecDepth 100000 in
set_option maxHeartbeats 3200000 in
theorem way22_3 (M : Nat) (hS : SortTo M) (cv sv : Value) (V VO L N : List Int) (al : Bool) (l : List (Int × Int)) (w : World) (h : Cfv w cv V VO L N al) (hl : Chs w sv l) (hn0 : V.length + l.length < M ∧ V.length + l.length ≤ 100000) (hn1 : VO.length ≤ 100000) (hn2 : L.length + l.length < M ∧ L.length + l.length ≤ 100000) (hn3 : N.length + l.length < M ∧ N.length + l.length ≤ 100000) (hk : ∀ x ∈ l, x.1 = 0 ∨ x.1 = 1 ∨ x.1 = 2) :
    Calls Try.prog 22 #[cv, .int .i64 3, sv] w (SpecR w (specC V VO L N al 3 l)) := by
  have hspec : specC V VO L N al 3 l = if VO = [] ∧ V ≠ [] ∧ (l.foldl (oneC V) (V, L, N)).1 ≠ [] then some ⟨(l.foldl (oneC V) (V, L, N)).1, V, (l.foldl (oneC V) (V, L, N)).2.1, (l.foldl (oneC V) (V, L, N)).2.2, true⟩ else none := by unfold specC; rfl
  obtain ⟨R, hR⟩ : ∃ R, R = specC V VO L N al 3 l := ⟨_, rfl⟩
  rw [← hR]
  rw [hspec] at hR
  have HRR := Lib.hid hR
  clear hspec hR
  obtain ⟨a, b, c, d, rfl, ⟨h0, m0⟩, ⟨h1, m1⟩, ⟨h2, m2⟩, ⟨h3, m3⟩⟩ := h
  have n2 : New w ((w.alloc (.cells #[a, b, c, d, .bool al] 44)).alloc zeroCells) := (Chg.alloc w _ _).then (Chg.alloc _ _ _)
  have b0 := block_alloc (block_new w (.cells #[a, b, c, d, .bool al] 44)) zeroCells
  have b1 := block_new1 w (.cells #[a, b, c, d, .bool al] 44) zeroCells
  have H0 := Lib.hid h0; have H1 := Lib.hid h1; have H2 := Lib.hid h2; have H3 := Lib.hid h3; have M0 := Lib.hid m0; have M1 := Lib.hid m1; have M2 := Lib.hid m2; have M3 := Lib.hid m3
  have N0 := Lib.hid hn0; have N1 := Lib.hid hn1; have N2 := Lib.hid hn2; have N3 := Lib.hid hn3; have HS := Lib.hid hS; have HL := Lib.hid hl; have HK := Lib.hid hk
  have hll : l.length ≤ 100000 := by omega
  have HLL := Lib.hid hll
  obtain ⟨oa, ca, rfl, -⟩ := h0
  obtain ⟨ob, cb, rfl, -⟩ := h1
  obtain ⟨oc, cc, rfl, -⟩ := h2
  obtain ⟨od, cd, rfl, -⟩ := h3
  obtain ⟨ol, cl, rfl, -⟩ := hl
  go_enter Try.func22, Try.ntmps22
  go_upto_region 1 with fail
  obtain ⟨w2, hw2⟩ : ∃ w2, w2 = ((w.alloc (.cells #[.slice oa V.length ca, .slice ob VO.length cb, .slice oc L.length cc, .slice od N.length cd, .bool al] 44)).alloc zeroCells) := ⟨_, rfl⟩
  rw [← hw2] at n2 b0 b1 ⊢
  have HN2 := Lib.hid n2; have B0 := Lib.hid b0; have B1 := Lib.hid b1
  clear hw2 m0 m1 m2 m3 hn0 hn1 hn2 hn3 n2 b0 b1 hS hk hll
  have q0 := cell_of_block (off := 0) B0.out rfl; have q1 := cell_of_block (off := 1) B0.out rfl; have q2 := cell_of_block (off := 2) B0.out rfl; have q3 := cell_of_block (off := 3) B0.out rfl; have q4 := cell_of_block (off := 4) B0.out rfl
  have g0 := cell_of_block (off := 0) B1.out rfl; have g1 := cell_of_block (off := 1) B1.out rfl; have g2 := cell_of_block (off := 2) B1.out rfl; have g3 := cell_of_block (off := 3) B1.out rfl; have g4 := cell_of_block (off := 4) B1.out rfl
  have z0 := free_of_block (off := 0) B1.out; have z1 := free_of_block (off := 1) B1.out; have z2 := free_of_block (off := 2) B1.out; have z3 := free_of_block (off := 3) B1.out; have z4 := free_of_block (off := 4) B1.out
  simp only [List.getElem_toArray, List.getElem_cons_zero, List.getElem_cons_succ] at q0 q1 q2 q3 q4 g0 g1 g2 g3 g4
  by_cases hv : VO = []
  · have hvl : VO.length = 0 := by rw [hv]; rfl
    have hvd : decide (0 < VO.length) = false := decide_eq_false (by omega)
    have HV := Lib.hid hv
    clear hv
    by_cases hv0 : V = []
    · have hv0l : V.length = 0 := by rw [hv0]; rfl
      have hv0d : decide (0 < V.length) = false := decide_eq_false (by omega)
      have HV0 := Lib.hid hv0
      have HF := Lib.hid (show ¬ (VO = [] ∧ V ≠ [] ∧ (l.foldl (oneC V) (V, L, N)).1 ≠ []) from fun h => h.2.1 HV0.out)
      clear hv0
      go_wp2_with fail
      all_goals first | (rename_i hq; exact absurd HV.out hq) | (rename_i hq; exact absurd HV0.out hq) | (exact absurd HV0.out ‹_›) | skip
      refine bodyPost_ret (v := ?_) ?_ rfl ?_
      rotate_left 1
      · simp [results, Try.results22, go_sem, g0, g1, g2, g3, g4]
        rfl
      have c1 : ∀ (w' : World) i x, Chg w' (w'.setCell ⟨w.heap.size + 1, i, none⟩ x) (fun i => i = w.heap.size + 1) := fun w' i x => Chg.setCell _ _ _ _ (fun _ => rfl)
      have hx := ((((c1 w2 0 (.slice none 0 0)).then (c1 _ 1 (.slice none 0 0))).then (c1 _ 2 (.slice none 0 0))).then (c1 _ 3 (.slice none 0 0))).then (c1 _ 4 (.bool false))
      exact ⟨HN2.out.trans hx (fun _ _ h => h) (fun i hi e => by omega), .inr ⟨HRR.out.trans (if_neg HF.out), rfl⟩⟩
    · have hv0l : 0 < V.length := List.length_pos_iff.2 hv0
      have HV0 := Lib.hid hv0
      go_wp2_with fail
      all_goals first | (rename_i hq; exact absurd HV.out hq) | skip
      refine (clone42_own (.slice oa V.length ca) V _ (H0.out.new HN2.out) (by have := N0.out; omega) M0.out).mono ?_
      rintro e w3 ⟨v4, rfl, s4, p4⟩
      have K4 := Lib.hid (show Us w3 v4 V from s4.us); have L4 := Lib.hid (show NilOk v4 from s4.nilok)
      obtain ⟨o4, c4, rfl, -⟩ := id (show Us w3 v4 V from s4.us)
      have D0 := Lib.hid (p4.keeps B0.out (by simp)); have D1 := Lib.hid (p4.keeps B1.out (by simp)); have NW3 := Lib.hid (HN2.out.then p4)
      clear s4 p4 q0 q1 q2 q3 q4 g0 g1 g2 g3 g4 z0 z1 z2 z3 z4
      have q1 := cell_of_block (off := 1) D0.out rfl; have f1 := free_of_block (off := 1) D0.out; have q4 := cell_of_block (off := 4) D0.out rfl; have f4 := free_of_block (off := 4) D0.out
      simp only [List.getElem_toArray, List.getElem_cons_zero, List.getElem_cons_succ] at q1 q4
      go_upto_region 17 with fail
      have cs := (Chg.setCell w3 ⟨w.heap.size, 1, none⟩ (.slice o4 V.length c4) (fun i => i = w.heap.size) (fun _ => rfl)).then (Chg.setCell _ ⟨w.heap.size, 4, none⟩ (.bool true) (fun i => i = w.heap.size) (fun _ => rfl))
      have bs := block_setCell (off := 4) (block_setCell (off := 1) D0.out (.slice o4 V.length c4)) (.bool true)
      obtain ⟨wa, hwa⟩ : ∃ wa, wa = (w3.setCell ⟨w.heap.size, 1, none⟩ (.slice o4 V.length c4)).setCell ⟨w.heap.size, 4, none⟩ (.bool true) := ⟨_, rfl⟩
      rw [← hwa] at cs bs ⊢
      clear hwa q1 q4 f1 f4
      simp only [List.setIfInBounds_toArray, List.set_cons_zero, List.set_cons_succ] at bs
      have E0 := Lib.hid bs; have E1 := Lib.hid (cs.keeps D1.out (by simp)); have NWA := Lib.hid (NW3.out.trans cs (fun _ _ h => h) (fun i hi e => by omega))
      have carry : ∀ v l, Us w3 v l → Us wa v l := fun v l h => h.other cs D0.out (fun i k => no5 _ _ _ _ i k (by simp) (by simp) (by simp) (by simp) _)
      have A0 := Lib.hid (carry _ _ (H0.out.new NW3.out)); have A1 := Lib.hid (carry _ _ K4.out); have A2 := Lib.hid (carry _ _ (H2.out.new NW3.out)); have A3 := Lib.hid (carry _ _ (H3.out.new NW3.out)); have MB := L4
      clear cs bs carry
      clear HN2 B0 B1 H0 H1 H2 H3
      have hll := HLL.out
      go_wp2_with fail
      clear hvd
      go_loopg [13, 69] l.length (fun n _ j wr => ∃ (i : Nat) (o0 o1 o2 o3 : Option Addr) (c0 c1 c2 c3 : Nat) (s : List Int × List Int × List Int), i ≤ l.length ∧ l.length ≤ n + i ∧ j = .int .i64 i ∧ s = (l.take i).foldl (oneC V) (V, L, N) ∧ wr.heap[w.heap.size]? = some (.cells #[.slice o0 s.1.length c0, .slice o1 V.length c1, .slice o2 s.2.1.length c2, .slice o3 s.2.2.length c3, .bool true] 44 (0, 0)) ∧ (Us wr (.slice o0 s.1.length c0) s.1 ∧ NilOk (.slice o0 s.1.length c0)) ∧ (Us wr (.slice o2 s.2.1.length c2) s.2.1 ∧ NilOk (.slice o2 s.2.1.length c2)) ∧ (Us wr (.slice o3 s.2.2.length c3) s.2.2 ∧ NilOk (.slice o3 s.2.2.length c3)) ∧ wr.heap[w.heap.size + 1]? = some (zeroCells) ∧ New w wr ∧ (Us wr (.slice o1 V.length c1) V ∧ NilOk (.slice o1 V.length c1)) ∧ Us wr (.slice oa V.length ca) V)
      case atStart => exact ⟨0, oa, o4, oc, od, ca, c4, cc, cd, (V, L, N), by omega, by omega, rfl, rfl, E0.out, ⟨A0.out, M0.out⟩, ⟨A2.out, M2.out⟩, ⟨A3.out, M3.out⟩, E1.out, NWA.out, ⟨A1.out, MB.out⟩, A0.out⟩
      case round =>
        obtain ⟨i, o0, o1, o2, o3, c0, c1, c2, c3, s, hi, hg, rfl, hs, hbx, hu0, hu2, hu3, hrs, hnew, hu1, hov⟩ := hrel
        have hlen : s.1.length ≤ V.length + i ∧ s.2.1.length ≤ L.length + i ∧ s.2.2.length ≤ N.length + i := by
          rw [hs]
          have h1 := foldOne_len V (l.take i) (V, L, N)
          have h2 : (l.take i).length ≤ i := by simp; omega
          simp only at h1
          omega
        have HG := Lib.hid hg; have HSS := Lib.hid hs; have HBX := Lib.hid hbx; have HU0 := Lib.hid hu0; have HU1 := Lib.hid hu1; have HU2 := Lib.hid hu2; have HU3 := Lib.hid hu3; have HRS := Lib.hid hrs; have HNW := Lib.hid hnew; have HLEN := Lib.hid hlen; have HOV := Lib.hid hov
        clear hg hs hbx hu0 hu1 hu2 hu3 hrs hnew hlen hov
        have q0 := cell_of_block (off := 0) HBX.out rfl; have q1 := cell_of_block (off := 1) HBX.out rfl; have q2 := cell_of_block (off := 2) HBX.out rfl; have q3 := cell_of_block (off := 3) HBX.out rfl; have q4 := cell_of_block (off := 4) HBX.out rfl
        simp only [List.getElem_toArray, List.getElem_cons_zero, List.getElem_cons_succ] at q0 q1 q2 q3 q4
        by_cases hlt : i < l.length
        · obtain ⟨ao, cap, e1, hu⟩ := HL.out.new HNW.out
          cases e1
          obtain ⟨bb, off, rfl, hck, hcx⟩ := hu i hlt
          have htk := List.take_succ_eq_append_getElem hlt
          have hkk := HK.out _ (List.getElem_mem hlt)
          obtain ⟨x, hx⟩ : ∃ x, x = l[i] := ⟨_, rfl⟩
          rw [← hx] at hck hcx htk hkk
          obtain ⟨xk, xb⟩ := x
          simp only at hck hcx hkk
          have HTK := Lib.hid htk; have HKK := Lib.hid hkk
          have nal := Lib.hid (show New wr (wr.alloc (.cells #[.int .i64 xk, .int .u64 xb] 53)) from Chg.alloc _ _ _)
          clear hx htk hu hkk
          go_wp2_with fail
          have W1 := Lib.hid (HNW.out.then nal.out)
          refine (one49_any M HS.out (.agg #[.slice o0 s.1.length c0, .slice o1 V.length c1, .slice o2 s.2.1.length c2, .slice o3 s.2.2.length c3, .bool true]) s.1 V s.2.1 s.2.2 true (xk, xb) _ ⟨_, _, _, _, rfl, ⟨HU0.out.1.new nal.out, HU0.out.2⟩, ⟨HU1.out.1.new nal.out, HU1.out.2⟩, ⟨HU2.out.1.new nal.out, HU2.out.2⟩, ⟨HU3.out.1.new nal.out, HU3.out.2⟩⟩ (by have h1 := HLEN.out; have h2 := N0.out; omega) (by have h2 := N0.out; have h3 := N1.out; omega) (by have h1 := HLEN.out; have h2 := N2.out; omega) (by have h1 := HLEN.out; have h2 := N3.out; omega) HKK.out).mono ?_
          rintro e w3 ⟨cv', rfl, ⟨a', b', c', d', rfl, s0, s1, s2, s3⟩, p3⟩
          obtain ⟨t, ht⟩ : ∃ t, t = oneC V (s.1, s.2.1, s.2.2) (xk, xb) := ⟨_, rfl⟩
          rw [← ht] at s0 s2 s3
          have S0 := Lib.hid s0; have S1 := Lib.hid s1; have S2 := Lib.hid s2; have S3 := Lib.hid s3; have HT := Lib.hid ht
          obtain ⟨o0', c0', rfl, -⟩ := id s0.1
          obtain ⟨o1', c1', rfl, -⟩ := id s1.1
          obtain ⟨o2', c2', rfl, -⟩ := id s2.1
          obtain ⟨o3', c3', rfl, -⟩ := id s3.1
          have PP := Lib.hid (nal.out.then p3)
          have D0 := Lib.hid (PP.out.keeps HBX.out (by simp)); have D1 := Lib.hid (PP.out.keeps HRS.out (by simp)); have NW3 := Lib.hid (HNW.out.then PP.out)
          clear s0 s1 s2 s3 p3 q0 q1 q2 q3 q4 ht
          have q0 := cell_of_block (off := 0) D0.out rfl; have q1 := cell_of_block (off := 1) D0.out rfl; have q2 := cell_of_block (off := 2) D0.out rfl; have q3 := cell_of_block (off := 3) D0.out rfl; have q4 := cell_of_block (off := 4) D0.out rfl
          have f0 := free_of_block (off := 0) D0.out; have f1 := free_of_block (off := 1) D0.out; have f2 := free_of_block (off := 2) D0.out; have f3 := free_of_block (off := 3) D0.out; have f4 := free_of_block (off := 4) D0.out
          simp only [List.getElem_toArray, List.getElem_cons_zero, List.getElem_cons_succ] at q0 q1 q2 q3 q4
          go_wp2_with fail
          have c1 : ∀ (w' : World) i x, Chg w' (w'.setCell ⟨w.heap.size, i, none⟩ x) (fun i => i = w.heap.size) := fun w' i x => Chg.setCell _ _ _ _ (fun _ => rfl)
          have cs := ((((c1 w3 0 (.slice o0' t.1.length c0')).then (c1 _ 1 (.slice o1' V.length c1'))).then (c1 _ 2 (.slice o2' t.2.1.length c2'))).then (c1 _ 3 (.slice o3' t.2.2.length c3'))).then (c1 _ 4 (.bool true))
          have bs := block_setCell (off := 4) (block_setCell (off := 3) (block_setCell (off := 2) (block_setCell (off := 1) (block_setCell (off := 0) D0.out (.slice o0' t.1.length c0')) (.slice o1' V.length c1')) (.slice o2' t.2.1.length c2')) (.slice o3' t.2.2.length c3')) (.bool true)
          simp only [List.setIfInBounds_toArray, List.set_cons_zero, List.set_cons_succ] at bs
          have carry : ∀ v l, Us w3 v l → Us _ v l := fun v l h => h.other cs D0.out (fun i k => no5 _ _ _ _ i k (by simp) (by simp) (by simp) (by simp) _)
          go_roundg (gk - 1)
          case measure => have := HG.out; omega
          case rel =>
            refine ⟨i + 1, o0', o1', o2', o3', c0', c1', c2', c3', t, by omega, by have := HG.out; omega, by go_num, ?_, bs, ⟨carry _ _ S0.out.1, S0.out.2⟩, ⟨carry _ _ S2.out.1, S2.out.2⟩, ⟨carry _ _ S3.out.1, S3.out.2⟩, cs.keeps D1.out (by simp), NW3.out.trans cs (fun _ _ h => h) (fun i hi e => by omega), ⟨carry _ _ S1.out.1, S1.out.2⟩, carry _ _ (HOV.out.new PP.out)⟩
            rw [HTK.out, List.foldl_append, ← HSS.out, HT.out]
            rfl
        · have hil : i = l.length := by omega
          have hfin : s = l.foldl (oneC V) (V, L, N) := by rw [HSS.out, hil, List.take_length]
          have HFIN := Lib.hid hfin
          have hrr := HRR.out
          rw [← HFIN.out] at hrr
          clear HRR
          have HRR := Lib.hid hrr
          clear hil hfin hrr
          have g0 := cell_of_block (off := 0) HRS.out rfl; have g1 := cell_of_block (off := 1) HRS.out rfl; have g2 := cell_of_block (off := 2) HRS.out rfl; have g3 := cell_of_block (off := 3) HRS.out rfl; have g4 := cell_of_block (off := 4) HRS.out rfl
          have z0 := free_of_block (off := 0) HRS.out; have z1 := free_of_block (off := 1) HRS.out; have z2 := free_of_block (off := 2) HRS.out; have z3 := free_of_block (off := 3) HRS.out; have z4 := free_of_block (off := 4) HRS.out
          simp only [List.getElem_toArray, List.getElem_cons_zero, List.getElem_cons_succ] at g0 g1 g2 g3 g4
          by_cases hs0 : s.1 = []
          · have hs0l : s.1.length = 0 := by rw [hs0]; rfl
            have HS0 := Lib.hid hs0
            have HF := Lib.hid (show ¬ (VO = [] ∧ V ≠ [] ∧ s.1 ≠ []) from fun h => h.2.2 HS0.out)
            clear hs0
            go_wp2_with fail
            all_goals first | (rename_i hq; exact absurd HS0.out hq) | skip
            refine bodyPost_ret (v := ?_) ?_ rfl ?_
            rotate_left 1
            · simp [results, Try.results22, go_sem, g0, g1, g2, g3, g4]
              rfl
            have c1 : ∀ (w' : World) i x, Chg w' (w'.setCell ⟨w.heap.size + 1, i, none⟩ x) (fun i => i = w.heap.size + 1) := fun w' i x => Chg.setCell _ _ _ _ (fun _ => rfl)
            have hx := ((((c1 wr 0 (.slice none 0 0)).then (c1 _ 1 (.slice none 0 0))).then (c1 _ 2 (.slice none 0 0))).then (c1 _ 3 (.slice none 0 0))).then (c1 _ 4 (.bool false))
            exact ⟨HNW.out.trans hx (fun _ _ h => h) (fun i hi e => by omega), .inr ⟨HRR.out.trans (if_neg HF.out), rfl⟩⟩
          · have hs0l : 0 < s.1.length := List.length_pos_iff.2 hs0
            have HS0 := Lib.hid hs0
            clear hs0
            have HF := Lib.hid (show VO = [] ∧ V ≠ [] ∧ s.1 ≠ [] from ⟨HV.out, HV0.out, HS0.out⟩)
            go_wp2_with fail
            all_goals first | (rename_i hq; exact absurd hq HS0.out) | skip
            refine bodyPost_ret (v := ?_) ?_ rfl ?_
            rotate_left 1
            · simp [results, Try.results22, go_sem, g0, g1, g2, g3, g4]
              rfl
            have hc : ∀ (w' : World) i x, Chg w' (w'.setCell ⟨w.heap.size + 1, i, none⟩ x) (fun i => i = w.heap.size + 1) := fun w' i x => Chg.setCell _ _ _ _ (fun _ => rfl)
            have hx2 := ((((hc wr 0 (.slice o0 s.1.length c0)).then (hc _ 1 (.slice o1 V.length c1))).then (hc _ 2 (.slice o2 s.2.1.length c2))).then (hc _ 3 (.slice o3 s.2.2.length c3))).then (hc _ 4 (.bool true))
            have carry : ∀ v l, Us wr v l → Us _ v l := fun v l h => h.other hx2 HRS.out (fun i k => no5 _ _ _ _ i k (by simp) (by simp) (by simp) (by simp) _)
            have hu0 := HU0.out; have hu1 := HU1.out; have hu2 := HU2.out; have hu3 := HU3.out
            exact ⟨HNW.out.trans hx2 (fun _ _ h => h) (fun i hi e => by omega), .inl ⟨_, _, HRR.out.trans (if_pos HF.out), rfl, ⟨_, _, _, _, rfl, ⟨carry _ _ hu0.1, hu0.2⟩, ⟨carry _ _ hu1.1, hu1.2⟩, ⟨carry _ _ hu2.1, hu2.2⟩, ⟨carry _ _ hu3.1, hu3.2⟩⟩⟩⟩
  · have HF := Lib.hid (show ¬ (VO = [] ∧ V ≠ [] ∧ (l.foldl (oneC V) (V, L, N)).1 ≠ []) from fun h => hv h.1)
    have hvl : 0 < VO.length := List.length_pos_iff.2 hv
    have hvd : decide (0 < VO.length) = true := decide_eq_true hvl
    have HV := Lib.hid hv
    clear hv
    go_wp2_with fail
    all_goals first | (rename_i hq; exact absurd hq HV.out) | skip
    refine bodyPost_ret (v := ?_) ?_ rfl ?_
    rotate_left 1
    · simp [results, Try.results22, go_sem, g0, g1, g2, g3, g4]
      rfl
    have c1 : ∀ (w' : World) i x, Chg w' (w'.setCell ⟨w.heap.size + 1, i, none⟩ x) (fun i => i = w.heap.size + 1) := fun w' i x => Chg.setCell _ _ _ _ (fun _ => rfl)
    have hx := ((((c1 w2 0 (.slice none 0 0)).then (c1 _ 1 (.slice none 0 0))).then (c1 _ 2 (.slice none 0 0))).then (c1 _ 3 (.slice none 0 0))).then (c1 _ 4 (.bool false))
    exact ⟨HN2.out.trans hx (fun _ _ h => h) (fun i hi e => by omega), .inr ⟨HRR.out.trans (if_neg HF.out), rfl⟩⟩
end Go.Proofs.Ytcgccoigjcdjeaa
