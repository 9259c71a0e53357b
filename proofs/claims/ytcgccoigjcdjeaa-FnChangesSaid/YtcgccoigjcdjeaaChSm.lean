/- spec.SameConf. Condition: at most 2^31 - 1 numbers. -/
import Derived.Test.YtcgccoigjcdjeaaChZa
namespace Go.Proofs.Ytcgccoigjcdjeaa
open Go.RowKit Go.Sort Go.Lib

set_option maxRecDepth 100000 in
set_option maxHeartbeats 6400000 in
theorem same26_any (a b c d a' b' c' d' : Value) (V VO L N V' VO' L' N' : List Int) (al al' : Bool) (w : World) (h0 : Us w a V) (h1 : Us w b VO) (h2 : Us w c L) (h3 : Us w d N) (h0' : Us w a' V') (h1' : Us w b' VO') (h2' : Us w c' L') (h3' : Us w d' N')
    (n0 : V.length ≤ 2147483647) (n1 : VO.length ≤ 2147483647) (n2 : L.length ≤ 2147483647) (n3 : N.length ≤ 2147483647) :
    Calls Try.prog 26 #[.agg #[a, b, c, d, .bool al], .agg #[a', b', c', d', .bool al']] w fun e w' => (e = .returned (.bool (decide (V = V' ∧ VO = VO' ∧ L = L' ∧ N = N' ∧ al = al')))) ∧ New w w' := by
  have hnew : ∀ o o', New w ((w.alloc o).alloc o') := fun o o' => (Chg.alloc w o _).then (Chg.alloc _ _ _)
  have HNW := Lib.hid hnew; clear hnew
  have H0 := Lib.hid h0; have K0 := Lib.hid h0'; have HN0 := Lib.hid n0
  have H1 := Lib.hid h1; have K1 := Lib.hid h1'; have HN1 := Lib.hid n1
  have H2 := Lib.hid h2; have K2 := Lib.hid h2'; have HN2 := Lib.hid n2
  have H3 := Lib.hid h3; have K3 := Lib.hid h3'; have HN3 := Lib.hid n3
  clear h0 h1 h2 h3 h0' h1' h2' h3' n0 n1 n2 n3
  obtain ⟨r, hr⟩ : ∃ r, r = decide (V = V' ∧ VO = VO' ∧ L = L' ∧ N = N' ∧ al = al') := ⟨_, rfl⟩
  rw [← hr]
  by_cases e0 : V = V'
  · have E0 := Lib.hid (show decide (V = V') = true by simpa using e0)
    by_cases e1 : VO = VO'
    · have E1 := Lib.hid (show decide (VO = VO') = true by simpa using e1)
      by_cases e2 : L = L'
      · have E2 := Lib.hid (show decide (L = L') = true by simpa using e2)
        by_cases e3 : N = N'
        · have E3 := Lib.hid (show decide (N = N') = true by simpa using e3)
          rcases al with _ | _ <;> rcases al' with _ | _
          · have hf : r = true := by rw [hr]; simp [e0, e1, e2, e3]
            subst hf
            clear hr e0 e1 e2 e3
            have B0 := Lib.hid (block_alloc (block_new w (.cells #[a, b, c, d, .bool false] 44)) (.cells #[a', b', c', d', .bool false] 44))
            have C0 := Lib.hid (block_new1 w (.cells #[a, b, c, d, .bool false] 44) (.cells #[a', b', c', d', .bool false] 44))
            go_enter Try.func26, Try.ntmps26
            go_wp2_with fail
            refine (equal57_any a a' V V' _ (H0.out.new (HNW.out _ _)) (K0.out.new (HNW.out _ _)) HN0.out).mono ?_
            rw [E0.out]
            rintro e w0 ⟨rfl, m0⟩
            have B1 := Lib.hid (m0.keeps B0.out (by simp)); have C1 := Lib.hid (m0.keeps C0.out (by simp))
            have p1 := cell_of_block (off := 1) B1.out rfl; have q1 := cell_of_block (off := 1) C1.out rfl
            go_wp2_with fail
            refine (equal57_any b b' VO VO' _ (H1.out.new ((HNW.out _ _).then m0)) (K1.out.new ((HNW.out _ _).then m0)) HN1.out).mono ?_
            rw [E1.out]
            rintro e w1 ⟨rfl, m1⟩
            have B2 := Lib.hid (m1.keeps B1.out (by simp)); have C2 := Lib.hid (m1.keeps C1.out (by simp))
            have p2 := cell_of_block (off := 2) B2.out rfl; have q2 := cell_of_block (off := 2) C2.out rfl
            go_wp2_with fail
            refine (equal57_any c c' L L' _ (H2.out.new (((HNW.out _ _).then m0).then m1)) (K2.out.new (((HNW.out _ _).then m0).then m1)) HN2.out).mono ?_
            rw [E2.out]
            rintro e w2 ⟨rfl, m2⟩
            have B3 := Lib.hid (m2.keeps B2.out (by simp)); have C3 := Lib.hid (m2.keeps C2.out (by simp))
            have p3 := cell_of_block (off := 3) B3.out rfl; have q3 := cell_of_block (off := 3) C3.out rfl
            go_wp2_with fail
            refine (equal57_any d d' N N' _ (H3.out.new ((((HNW.out _ _).then m0).then m1).then m2)) (K3.out.new ((((HNW.out _ _).then m0).then m1).then m2)) HN3.out).mono ?_
            rw [E3.out]
            rintro e w3 ⟨rfl, m3⟩
            have B4 := Lib.hid (m3.keeps B3.out (by simp)); have C4 := Lib.hid (m3.keeps C3.out (by simp))
            have p4 := cell_of_block (off := 4) B4.out rfl; have q4 := cell_of_block (off := 4) C4.out rfl
            go_wp2_with fail
            refine bodyPost_ret (results_tmp rfl _ _ _) rfl ⟨rfl, (((((HNW.out _ _).then m0).then m1).then m2).then m3)⟩
          · have hf : r = false := by rw [hr]; simp [e0, e1, e2, e3]
            subst hf
            clear hr e0 e1 e2 e3
            have B0 := Lib.hid (block_alloc (block_new w (.cells #[a, b, c, d, .bool false] 44)) (.cells #[a', b', c', d', .bool true] 44))
            have C0 := Lib.hid (block_new1 w (.cells #[a, b, c, d, .bool false] 44) (.cells #[a', b', c', d', .bool true] 44))
            go_enter Try.func26, Try.ntmps26
            go_wp2_with fail
            refine (equal57_any a a' V V' _ (H0.out.new (HNW.out _ _)) (K0.out.new (HNW.out _ _)) HN0.out).mono ?_
            rw [E0.out]
            rintro e w0 ⟨rfl, m0⟩
            have B1 := Lib.hid (m0.keeps B0.out (by simp)); have C1 := Lib.hid (m0.keeps C0.out (by simp))
            have p1 := cell_of_block (off := 1) B1.out rfl; have q1 := cell_of_block (off := 1) C1.out rfl
            go_wp2_with fail
            refine (equal57_any b b' VO VO' _ (H1.out.new ((HNW.out _ _).then m0)) (K1.out.new ((HNW.out _ _).then m0)) HN1.out).mono ?_
            rw [E1.out]
            rintro e w1 ⟨rfl, m1⟩
            have B2 := Lib.hid (m1.keeps B1.out (by simp)); have C2 := Lib.hid (m1.keeps C1.out (by simp))
            have p2 := cell_of_block (off := 2) B2.out rfl; have q2 := cell_of_block (off := 2) C2.out rfl
            go_wp2_with fail
            refine (equal57_any c c' L L' _ (H2.out.new (((HNW.out _ _).then m0).then m1)) (K2.out.new (((HNW.out _ _).then m0).then m1)) HN2.out).mono ?_
            rw [E2.out]
            rintro e w2 ⟨rfl, m2⟩
            have B3 := Lib.hid (m2.keeps B2.out (by simp)); have C3 := Lib.hid (m2.keeps C2.out (by simp))
            have p3 := cell_of_block (off := 3) B3.out rfl; have q3 := cell_of_block (off := 3) C3.out rfl
            go_wp2_with fail
            refine (equal57_any d d' N N' _ (H3.out.new ((((HNW.out _ _).then m0).then m1).then m2)) (K3.out.new ((((HNW.out _ _).then m0).then m1).then m2)) HN3.out).mono ?_
            rw [E3.out]
            rintro e w3 ⟨rfl, m3⟩
            have B4 := Lib.hid (m3.keeps B3.out (by simp)); have C4 := Lib.hid (m3.keeps C3.out (by simp))
            have p4 := cell_of_block (off := 4) B4.out rfl; have q4 := cell_of_block (off := 4) C4.out rfl
            go_wp2_with fail
            refine bodyPost_ret (results_tmp rfl _ _ _) rfl ⟨rfl, (((((HNW.out _ _).then m0).then m1).then m2).then m3)⟩
          · have hf : r = false := by rw [hr]; simp [e0, e1, e2, e3]
            subst hf
            clear hr e0 e1 e2 e3
            have B0 := Lib.hid (block_alloc (block_new w (.cells #[a, b, c, d, .bool true] 44)) (.cells #[a', b', c', d', .bool false] 44))
            have C0 := Lib.hid (block_new1 w (.cells #[a, b, c, d, .bool true] 44) (.cells #[a', b', c', d', .bool false] 44))
            go_enter Try.func26, Try.ntmps26
            go_wp2_with fail
            refine (equal57_any a a' V V' _ (H0.out.new (HNW.out _ _)) (K0.out.new (HNW.out _ _)) HN0.out).mono ?_
            rw [E0.out]
            rintro e w0 ⟨rfl, m0⟩
            have B1 := Lib.hid (m0.keeps B0.out (by simp)); have C1 := Lib.hid (m0.keeps C0.out (by simp))
            have p1 := cell_of_block (off := 1) B1.out rfl; have q1 := cell_of_block (off := 1) C1.out rfl
            go_wp2_with fail
            refine (equal57_any b b' VO VO' _ (H1.out.new ((HNW.out _ _).then m0)) (K1.out.new ((HNW.out _ _).then m0)) HN1.out).mono ?_
            rw [E1.out]
            rintro e w1 ⟨rfl, m1⟩
            have B2 := Lib.hid (m1.keeps B1.out (by simp)); have C2 := Lib.hid (m1.keeps C1.out (by simp))
            have p2 := cell_of_block (off := 2) B2.out rfl; have q2 := cell_of_block (off := 2) C2.out rfl
            go_wp2_with fail
            refine (equal57_any c c' L L' _ (H2.out.new (((HNW.out _ _).then m0).then m1)) (K2.out.new (((HNW.out _ _).then m0).then m1)) HN2.out).mono ?_
            rw [E2.out]
            rintro e w2 ⟨rfl, m2⟩
            have B3 := Lib.hid (m2.keeps B2.out (by simp)); have C3 := Lib.hid (m2.keeps C2.out (by simp))
            have p3 := cell_of_block (off := 3) B3.out rfl; have q3 := cell_of_block (off := 3) C3.out rfl
            go_wp2_with fail
            refine (equal57_any d d' N N' _ (H3.out.new ((((HNW.out _ _).then m0).then m1).then m2)) (K3.out.new ((((HNW.out _ _).then m0).then m1).then m2)) HN3.out).mono ?_
            rw [E3.out]
            rintro e w3 ⟨rfl, m3⟩
            have B4 := Lib.hid (m3.keeps B3.out (by simp)); have C4 := Lib.hid (m3.keeps C3.out (by simp))
            have p4 := cell_of_block (off := 4) B4.out rfl; have q4 := cell_of_block (off := 4) C4.out rfl
            go_wp2_with fail
            refine bodyPost_ret (results_tmp rfl _ _ _) rfl ⟨rfl, (((((HNW.out _ _).then m0).then m1).then m2).then m3)⟩
          · have hf : r = true := by rw [hr]; simp [e0, e1, e2, e3]
            subst hf
            clear hr e0 e1 e2 e3
            have B0 := Lib.hid (block_alloc (block_new w (.cells #[a, b, c, d, .bool true] 44)) (.cells #[a', b', c', d', .bool true] 44))
            have C0 := Lib.hid (block_new1 w (.cells #[a, b, c, d, .bool true] 44) (.cells #[a', b', c', d', .bool true] 44))
            go_enter Try.func26, Try.ntmps26
            go_wp2_with fail
            refine (equal57_any a a' V V' _ (H0.out.new (HNW.out _ _)) (K0.out.new (HNW.out _ _)) HN0.out).mono ?_
            rw [E0.out]
            rintro e w0 ⟨rfl, m0⟩
            have B1 := Lib.hid (m0.keeps B0.out (by simp)); have C1 := Lib.hid (m0.keeps C0.out (by simp))
            have p1 := cell_of_block (off := 1) B1.out rfl; have q1 := cell_of_block (off := 1) C1.out rfl
            go_wp2_with fail
            refine (equal57_any b b' VO VO' _ (H1.out.new ((HNW.out _ _).then m0)) (K1.out.new ((HNW.out _ _).then m0)) HN1.out).mono ?_
            rw [E1.out]
            rintro e w1 ⟨rfl, m1⟩
            have B2 := Lib.hid (m1.keeps B1.out (by simp)); have C2 := Lib.hid (m1.keeps C1.out (by simp))
            have p2 := cell_of_block (off := 2) B2.out rfl; have q2 := cell_of_block (off := 2) C2.out rfl
            go_wp2_with fail
            refine (equal57_any c c' L L' _ (H2.out.new (((HNW.out _ _).then m0).then m1)) (K2.out.new (((HNW.out _ _).then m0).then m1)) HN2.out).mono ?_
            rw [E2.out]
            rintro e w2 ⟨rfl, m2⟩
            have B3 := Lib.hid (m2.keeps B2.out (by simp)); have C3 := Lib.hid (m2.keeps C2.out (by simp))
            have p3 := cell_of_block (off := 3) B3.out rfl; have q3 := cell_of_block (off := 3) C3.out rfl
            go_wp2_with fail
            refine (equal57_any d d' N N' _ (H3.out.new ((((HNW.out _ _).then m0).then m1).then m2)) (K3.out.new ((((HNW.out _ _).then m0).then m1).then m2)) HN3.out).mono ?_
            rw [E3.out]
            rintro e w3 ⟨rfl, m3⟩
            have B4 := Lib.hid (m3.keeps B3.out (by simp)); have C4 := Lib.hid (m3.keeps C3.out (by simp))
            have p4 := cell_of_block (off := 4) B4.out rfl; have q4 := cell_of_block (off := 4) C4.out rfl
            go_wp2_with fail
            refine bodyPost_ret (results_tmp rfl _ _ _) rfl ⟨rfl, (((((HNW.out _ _).then m0).then m1).then m2).then m3)⟩
        · have E3 := Lib.hid (show decide (N = N') = false by simpa using e3)
          have hf : r = false := by rw [hr]; simp [e3]
          subst hf
          clear hr e0 e1 e2 e3
          have B0 := Lib.hid (block_alloc (block_new w (.cells #[a, b, c, d, .bool al] 44)) (.cells #[a', b', c', d', .bool al'] 44))
          have C0 := Lib.hid (block_new1 w (.cells #[a, b, c, d, .bool al] 44) (.cells #[a', b', c', d', .bool al'] 44))
          go_enter Try.func26, Try.ntmps26
          go_wp2_with fail
          refine (equal57_any a a' V V' _ (H0.out.new (HNW.out _ _)) (K0.out.new (HNW.out _ _)) HN0.out).mono ?_
          rw [E0.out]
          rintro e w0 ⟨rfl, m0⟩
          have B1 := Lib.hid (m0.keeps B0.out (by simp)); have C1 := Lib.hid (m0.keeps C0.out (by simp))
          have p1 := cell_of_block (off := 1) B1.out rfl; have q1 := cell_of_block (off := 1) C1.out rfl
          go_wp2_with fail
          refine (equal57_any b b' VO VO' _ (H1.out.new ((HNW.out _ _).then m0)) (K1.out.new ((HNW.out _ _).then m0)) HN1.out).mono ?_
          rw [E1.out]
          rintro e w1 ⟨rfl, m1⟩
          have B2 := Lib.hid (m1.keeps B1.out (by simp)); have C2 := Lib.hid (m1.keeps C1.out (by simp))
          have p2 := cell_of_block (off := 2) B2.out rfl; have q2 := cell_of_block (off := 2) C2.out rfl
          go_wp2_with fail
          refine (equal57_any c c' L L' _ (H2.out.new (((HNW.out _ _).then m0).then m1)) (K2.out.new (((HNW.out _ _).then m0).then m1)) HN2.out).mono ?_
          rw [E2.out]
          rintro e w2 ⟨rfl, m2⟩
          have B3 := Lib.hid (m2.keeps B2.out (by simp)); have C3 := Lib.hid (m2.keeps C2.out (by simp))
          have p3 := cell_of_block (off := 3) B3.out rfl; have q3 := cell_of_block (off := 3) C3.out rfl
          go_wp2_with fail
          refine (equal57_any d d' N N' _ (H3.out.new ((((HNW.out _ _).then m0).then m1).then m2)) (K3.out.new ((((HNW.out _ _).then m0).then m1).then m2)) HN3.out).mono ?_
          rw [E3.out]
          rintro e w3 ⟨rfl, m3⟩
          have B4 := Lib.hid (m3.keeps B3.out (by simp)); have C4 := Lib.hid (m3.keeps C3.out (by simp))
          have p4 := cell_of_block (off := 4) B4.out rfl; have q4 := cell_of_block (off := 4) C4.out rfl
          go_wp2_with fail
          refine bodyPost_ret (results_tmp rfl _ _ _) rfl ⟨rfl, (((((HNW.out _ _).then m0).then m1).then m2).then m3)⟩
      · have E2 := Lib.hid (show decide (L = L') = false by simpa using e2)
        have hf : r = false := by rw [hr]; simp [e2]
        subst hf
        clear hr e0 e1 e2
        have B0 := Lib.hid (block_alloc (block_new w (.cells #[a, b, c, d, .bool al] 44)) (.cells #[a', b', c', d', .bool al'] 44))
        have C0 := Lib.hid (block_new1 w (.cells #[a, b, c, d, .bool al] 44) (.cells #[a', b', c', d', .bool al'] 44))
        go_enter Try.func26, Try.ntmps26
        go_wp2_with fail
        refine (equal57_any a a' V V' _ (H0.out.new (HNW.out _ _)) (K0.out.new (HNW.out _ _)) HN0.out).mono ?_
        rw [E0.out]
        rintro e w0 ⟨rfl, m0⟩
        have B1 := Lib.hid (m0.keeps B0.out (by simp)); have C1 := Lib.hid (m0.keeps C0.out (by simp))
        have p1 := cell_of_block (off := 1) B1.out rfl; have q1 := cell_of_block (off := 1) C1.out rfl
        go_wp2_with fail
        refine (equal57_any b b' VO VO' _ (H1.out.new ((HNW.out _ _).then m0)) (K1.out.new ((HNW.out _ _).then m0)) HN1.out).mono ?_
        rw [E1.out]
        rintro e w1 ⟨rfl, m1⟩
        have B2 := Lib.hid (m1.keeps B1.out (by simp)); have C2 := Lib.hid (m1.keeps C1.out (by simp))
        have p2 := cell_of_block (off := 2) B2.out rfl; have q2 := cell_of_block (off := 2) C2.out rfl
        go_wp2_with fail
        refine (equal57_any c c' L L' _ (H2.out.new (((HNW.out _ _).then m0).then m1)) (K2.out.new (((HNW.out _ _).then m0).then m1)) HN2.out).mono ?_
        rw [E2.out]
        rintro e w2 ⟨rfl, m2⟩
        have B3 := Lib.hid (m2.keeps B2.out (by simp)); have C3 := Lib.hid (m2.keeps C2.out (by simp))
        go_wp2_with fail
        refine bodyPost_ret (results_tmp rfl _ _ _) rfl ⟨rfl, ((((HNW.out _ _).then m0).then m1).then m2)⟩
    · have E1 := Lib.hid (show decide (VO = VO') = false by simpa using e1)
      have hf : r = false := by rw [hr]; simp [e1]
      subst hf
      clear hr e0 e1
      have B0 := Lib.hid (block_alloc (block_new w (.cells #[a, b, c, d, .bool al] 44)) (.cells #[a', b', c', d', .bool al'] 44))
      have C0 := Lib.hid (block_new1 w (.cells #[a, b, c, d, .bool al] 44) (.cells #[a', b', c', d', .bool al'] 44))
      go_enter Try.func26, Try.ntmps26
      go_wp2_with fail
      refine (equal57_any a a' V V' _ (H0.out.new (HNW.out _ _)) (K0.out.new (HNW.out _ _)) HN0.out).mono ?_
      rw [E0.out]
      rintro e w0 ⟨rfl, m0⟩
      have B1 := Lib.hid (m0.keeps B0.out (by simp)); have C1 := Lib.hid (m0.keeps C0.out (by simp))
      have p1 := cell_of_block (off := 1) B1.out rfl; have q1 := cell_of_block (off := 1) C1.out rfl
      go_wp2_with fail
      refine (equal57_any b b' VO VO' _ (H1.out.new ((HNW.out _ _).then m0)) (K1.out.new ((HNW.out _ _).then m0)) HN1.out).mono ?_
      rw [E1.out]
      rintro e w1 ⟨rfl, m1⟩
      have B2 := Lib.hid (m1.keeps B1.out (by simp)); have C2 := Lib.hid (m1.keeps C1.out (by simp))
      go_wp2_with fail
      refine bodyPost_ret (results_tmp rfl _ _ _) rfl ⟨rfl, (((HNW.out _ _).then m0).then m1)⟩
  · have E0 := Lib.hid (show decide (V = V') = false by simpa using e0)
    have hf : r = false := by rw [hr]; simp [e0]
    subst hf
    clear hr e0
    have B0 := Lib.hid (block_alloc (block_new w (.cells #[a, b, c, d, .bool al] 44)) (.cells #[a', b', c', d', .bool al'] 44))
    have C0 := Lib.hid (block_new1 w (.cells #[a, b, c, d, .bool al] 44) (.cells #[a', b', c', d', .bool al'] 44))
    go_enter Try.func26, Try.ntmps26
    go_wp2_with fail
    refine (equal57_any a a' V V' _ (H0.out.new (HNW.out _ _)) (K0.out.new (HNW.out _ _)) HN0.out).mono ?_
    rw [E0.out]
    rintro e w0 ⟨rfl, m0⟩
    have B1 := Lib.hid (m0.keeps B0.out (by simp)); have C1 := Lib.hid (m0.keeps C0.out (by simp))
    go_wp2_with fail
    refine bodyPost_ret (results_tmp rfl _ _ _) rfl ⟨rfl, ((HNW.out _ _).then m0)⟩
end Go.Proofs.Ytcgccoigjcdjeaa
