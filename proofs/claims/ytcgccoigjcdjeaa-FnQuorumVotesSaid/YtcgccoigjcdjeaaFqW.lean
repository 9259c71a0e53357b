/- The walk of laws.FnQuorumVotes. Condition: what laws.piLive answers, as a hypothesis. -/
import Derived.Test.YtcgccoigjcdjeaaCoW
import Derived.Test.YtcgccoigjcdjeaaQvW
import Derived.IntWalk
namespace Go.Proofs.Ytcgccoigjcdjeaa
open Go.RowKit Go.Sort

theorem wrap_last : IntKind.u64.wrap (maxU + 1) = 0 := by unfold maxU; rw [IntKind.wrap_u64]; omega
theorem wrap_next {K : Int} (h0 : 0 ≤ K) (h1 : K ≤ maxU) (hne : K ≠ maxU) : IntKind.u64.wrap (K + 1) = K + 1 := by
  unfold maxU at *
  exact IntWalk.u64_in _ ⟨by omega, by omega⟩

set_option maxRecDepth 100000 in
set_option maxHeartbeats 3200000 in
theorem fqv_walk (hlive : LiveOk) (a b bv : Value) (l0 l1 : List Int) (B : List (Int × Int)) (w : World) (h0 : Us w a l0) (h1 : Us w b l1) (hv : Acs w bv B) (hA : ∀ p ∈ B, 0 ≤ p.2 ∧ p.2 ≤ maxU) (n0 : NilOk a) (n1 : NilOk b) (nv : NilOk bv) (c0 : CapOk a) (c1 : CapOk b) (cv : CapOk bv) (hBm : B.length ≤ maxLen) :
    Calls Try.prog 6 #[.agg #[a, b], bv] w (Held w) := by
  unfold maxLen at hBm
  have H0 := Lib.hid h0; have H1 := Lib.hid h1; have HV := Lib.hid hv; have N0 := Lib.hid n0; have N1 := Lib.hid n1; have NV := Lib.hid nv; have C0 := Lib.hid c0; have C1 := Lib.hid c1; have CV := Lib.hid cv; have HL := Lib.hid hlive; have HNN := Lib.hid hA
  obtain ⟨oa, ca, rfl, _⟩ := h0
  obtain ⟨ob, cb, rfl, _⟩ := h1
  obtain ⟨ov, cc, rfl, _⟩ := hv
  clear n0 n1 nv c0 c1 cv hlive hA
  have hfits : decide (l0.length ≤ 2147483647 ∧ l1.length ≤ 2147483647) = true ∨ decide (l0.length ≤ 2147483647 ∧ l1.length ≤ 2147483647) = false := by cases decide (l0.length ≤ 2147483647 ∧ l1.length ≤ 2147483647) <;> simp
  have hbxs : ∀ o1 o2 : Obj, ((w.alloc o1).alloc o2).heap[w.heap.size]? = some o1 ∧ ((w.alloc o1).alloc o2).heap[w.heap.size + 1]? = some o2 := fun o1 o2 => ⟨block_alloc (block_new w o1) o2, by have := block_new (w.alloc o1) o2; simpa only [World.size_alloc] using this⟩
  have n2 : ∀ o1 o2 : Obj, New w ((w.alloc o1).alloc o2) := fun o1 o2 => (Chg.alloc w _ _).then (Chg.alloc _ _ _)
  have HBXS := Lib.hid hbxs; have HN2 := Lib.hid n2
  clear hbxs n2
  rcases hfits with hf | hf
  · have hfl := of_decide_eq_true hf
    have HF := Lib.hid hf; have HFL := Lib.hid hfl
    clear hf hfl
    by_cases hb : B.length ≤ 2147483647
    · have hbd : decide ((2147483647 : Int) < (B.length : Int)) = false := by simp; omega
      go_enter Try.func6, Try.ntmps6
      go_wp2_with fail
      refine (fits22_any (.slice oa l0.length ca) (.slice ob l1.length cb) l0 l1 _ (H0.out.new (HN2.out _ _)) (H1.out.new (HN2.out _ _))).mono ?_
      rw [HF.out]
      rintro e w1 ⟨rfl, m1⟩
      have HB1 := Lib.hid (m1.keeps (HBXS.out _ _).1 (by simp)); have HC1 := Lib.hid (m1.keeps (HBXS.out _ _).2 (by simp))
      have NW1 := Lib.hid ((HN2.out _ _).then m1)
      clear m1
      have q0 := cell_of_block (off := 0) HB1.out rfl; have q1 := cell_of_block (off := 1) HB1.out rfl; have q2 := cell_of_block (off := 0) HC1.out rfl
      simp only [List.getElem_toArray, List.getElem_cons_zero, List.getElem_cons_succ] at q0 q1 q2
      cases hi0 : okIDs l0 with
      | false =>
        go_wp2_with (first
          | (go_at_call 9; refine (piids_any (.slice oa l0.length ca) l0 _ (H0.out.new NW1.out) C0.out HFL.out.1).mono ?_; rw [hi0]; rintro e w2 ⟨rfl, rfl⟩)
          | fail)
        refine bodyPost_ret (results_tmp rfl _ _ _) rfl ⟨rfl, NW1.out⟩
      | true =>
        have I0 := Lib.hid (okIDs_of hi0); have HI0 := Lib.hid hi0; clear hi0
        cases hi1 : okIDs l1 with
        | false =>
          have HI1 := Lib.hid hi1; clear hi1
          go_wp2_with fail
          refine (piids_any (.slice oa l0.length ca) l0 _ (H0.out.new NW1.out) C0.out HFL.out.1).mono ?_
          rw [HI0.out]; rintro e w2 ⟨rfl, rfl⟩
          go_wp2_with fail
          refine (piids_any (.slice ob l1.length cb) l1 _ (H1.out.new NW1.out) C1.out HFL.out.2).mono ?_
          rw [HI1.out]; rintro e w2 ⟨rfl, rfl⟩
          go_wp2_with fail
          refine bodyPost_ret (results_tmp rfl _ _ _) rfl ⟨rfl, NW1.out⟩
        | true =>
          have I1 := Lib.hid (okIDs_of hi1); have HI1 := Lib.hid hi1; clear hi1
          go_wp2_with fail
          refine (piids_any (.slice oa l0.length ca) l0 _ (H0.out.new NW1.out) C0.out HFL.out.1).mono ?_
          rw [HI0.out]; rintro e w2 ⟨rfl, rfl⟩
          go_wp2_with fail
          refine (piids_any (.slice ob l1.length cb) l1 _ (H1.out.new NW1.out) C1.out HFL.out.2).mono ?_
          rw [HI1.out]; rintro e w2 ⟨rfl, rfl⟩
          go_wp2_with fail
          refine (piacks_any (.slice ov B.length cc) B _ (HV.out.chg NW1.out) CV.out hb).mono ?_
          cases hib : okAcs B with
          | false =>
            rintro e w3 ⟨rfl, m3⟩
            have NW3 := Lib.hid (NW1.out.then m3); clear m3
            go_wp2_with fail
            refine bodyPost_ret (results_tmp rfl _ _ _) rfl ⟨rfl, NW3.out⟩
          | true =>
            have IB := Lib.hid (okAcs_of hib)
            rintro e w3 ⟨rfl, m3⟩
            have HB3 := Lib.hid (m3.keeps HB1.out (by simp)); have HC3 := Lib.hid (m3.keeps HC1.out (by simp))
            have NW3 := Lib.hid (NW1.out.then m3)
            clear m3 q0 q1 q2 hib
            have q0 := cell_of_block (off := 0) HB3.out rfl; have q1 := cell_of_block (off := 1) HB3.out rfl; have q2 := cell_of_block (off := 0) HC3.out rfl
            simp only [List.getElem_toArray, List.getElem_cons_zero, List.getElem_cons_succ] at q0 q1 q2
            have l12 : l0.length ≤ 12 := I0.out.2.2
            have l12' : l1.length ≤ 12 := I1.out.2.2
            by_cases hz : l0.length + l1.length = 0
            · have hzd : ((l0.length : Int) + (l1.length : Int) == 0) = true := by simp; omega
              go_wp2_with fail
              refine bodyPost_ret (results_tmp rfl _ _ _) rfl ⟨rfl, NW3.out⟩
            · have hzd : ((l0.length : Int) + (l1.length : Int) == 0) = false := by simp; omega
              have hpos := Lib.hid (show 0 < l0.length + l1.length by omega)
              have hwin := win_at HNN.out l0 l1 rfl
              have HWIN := Lib.hid hwin
              obtain ⟨K, hK⟩ : ∃ K, K = lessR (commR B l0) (commR B l1) := ⟨_, rfl⟩
              have HKK := Lib.hid hK
              have hk1 := hwin.1
              rw [← hK] at hk1
              have HK1 := Lib.hid hk1
              clear hwin hK hk1
              go_wp2_with fail
              have n1 : New w w3.drew := NW3.out.then (Chg.drew _ _)
              have HN1 := Lib.hid n1
              clear n1 hz hzd
              go_region_held3 (fun w' => w'.cell? ⟨w.heap.size, 0, none⟩ = some (.slice oa l0.length ca) ∧ w'.cell? ⟨w.heap.size, 1, none⟩ = some (.slice ob l1.length cb) ∧ w'.cell? ⟨w.heap.size + 1, 0, none⟩ = some (.slice ov B.length cc)) (go_keep)
                (first
                  | (go_at_call 13; ((with_reducible refine (pivoters_any (.slice oa l0.length ca) (.slice ob l1.length cb) l0 l1 _ (H0.out.new HN1.out) (H1.out.new HN1.out) N0.out N1.out (Nat.le_trans I0.out.2.2 (by decide)) (Nat.le_trans I1.out.2.2 (by decide))).mono ?_); rintro e w5 ⟨oa5, ca5, ob5, cb5, rfl, u5, v5, m5⟩; have k5 := m5.rule))
                  | (go_at_call 14; ((with_reducible refine (clone14_any (.slice ov B.length cc) B _ (HV.out.chg (HN1.out.then m5)) (Nat.le_trans IB.out.2 (by decide)) NV.out).mono ?_); rintro e w6 ⟨bv6, rfl, b6, m6⟩; have k6 := m6.rule))
                  | (go_at_call 12; ((with_reducible refine (committed_any (.slice oa5 l0.length ca5) (.slice ob5 l1.length cb5) bv6 l0 l1 B _ (u5.new m6) (v5.new m6) b6 I0.out.1 I1.out.1 IB.out.1 I0.out.2.2 I1.out.2.2 (Nat.le_trans IB.out.2 (by decide)) (fun p hp => (HNN.out p hp).1)).mono ?_); rw [← HKK.out]; rintro e w7 ⟨rfl, m7⟩; have k7 := m7.rule))
                  | fail)
              rename_i hH
              clear hH k5 k6 k7
              have nw7 := ((HN1.out.then m5).then m6).then m7
              have n37 : New w3 w7 := (((Chg.drew w3 _).then m5).then m6).then m7
              have HB7 := Lib.hid (n37.keeps HB3.out (by simp)); have HC7 := Lib.hid (n37.keeps HC3.out (by simp))
              have NW7 := Lib.hid nw7
              clear nw7 n37 m5 m6 m7 u5 v5 b6 q0 q1 q2
              by_cases hkm : K = maxU
              · have hwr : IntKind.u64.wrap (K + 1) = 0 := by rw [hkm]; exact wrap_last
                clear hkm
                go_wp2_with fail
                refine (HL.out _).mono ?_
                rintro e w8 ⟨rfl, m8⟩
                have NW8 := Lib.hid (NW7.out.then m8)
                clear m8
                go_wp2_with fail
                refine bodyPost_ret (results_tmp rfl _ _ _) rfl ⟨rfl, NW8.out⟩
              · have hk1 := HK1.out
                have hwr0 := wrap_next hk1.1 hk1.2 hkm
                have hw3 := HWIN.out.2.1
                have hw4 := HWIN.out.2.2
                rw [← HKK.out] at hw3 hw4
                have hw5 := hw4 hkm
                have hr1 : (joinR (voteR (balB B K (l0 ++ l1)) l0) (voteR (balB B K (l0 ++ l1)) l1) == 3) = true := by simpa using hw3
                obtain ⟨K1, hK1⟩ : ∃ K1, K1 = K + 1 := ⟨_, rfl⟩
                rw [← hK1] at hw5
                have hr2 : (joinR (voteR (balB B K1 (l0 ++ l1)) l0) (voteR (balB B K1 (l0 ++ l1)) l1) == 3) = false := by simpa using hw5
                have hwr : IntKind.u64.wrap (K + 1) = K1 := by rw [hwr0, hK1]
                have hk0 : (K1 == 0) = false := by have := hk1.1; simp; omega
                have HR1 := Lib.hid hr1; have HR2 := Lib.hid hr2
                clear hkm hwr0 hw3 hw4 hw5 hK1 hr1 hr2 hk1
                go_wp2_with fail
                refine (win28_any K w.heap.size (w.heap.size + 1) (.slice oa l0.length ca) (.slice ob l1.length cb) (.slice ov B.length cc) l0 l1 B _ HB7.out HC7.out (H0.out.new NW7.out) (H1.out.new NW7.out) (HV.out.chg NW7.out) N0.out N1.out I0.out.1 I1.out.1 I0.out.2.2 I1.out.2.2 (Nat.le_trans IB.out.2 (by decide)) IB.out.1 hpos.out).mono ?_
                rw [HR1.out]
                rintro e w8 ⟨rfl, m8⟩
                have HB8 := Lib.hid (m8.keeps HB7.out (by simp)); have HC8 := Lib.hid (m8.keeps HC7.out (by simp)); have NW8 := Lib.hid (NW7.out.then m8)
                clear m8
                go_wp2_with fail
                refine (win28_any K1 w.heap.size (w.heap.size + 1) (.slice oa l0.length ca) (.slice ob l1.length cb) (.slice ov B.length cc) l0 l1 B _ HB8.out HC8.out (H0.out.new NW8.out) (H1.out.new NW8.out) (HV.out.chg NW8.out) N0.out N1.out I0.out.1 I1.out.1 I0.out.2.2 I1.out.2.2 (Nat.le_trans IB.out.2 (by decide)) IB.out.1 hpos.out).mono ?_
                rw [HR2.out]
                rintro e w9 ⟨rfl, m9⟩
                have NW9 := Lib.hid (NW8.out.then m9)
                clear m9
                go_wp2_with fail
                refine (HL.out _).mono ?_
                rintro e w10 ⟨rfl, m10⟩
                have NW10 := Lib.hid (NW9.out.then m10)
                clear m10
                go_wp2_with fail
                refine bodyPost_ret (results_tmp rfl _ _ _) rfl ⟨rfl, NW10.out⟩
    · have hbd : decide ((2147483647 : Int) < (B.length : Int)) = true := by simp; omega
      go_enter Try.func6, Try.ntmps6
      go_wp2_with fail
      refine (fits22_any (.slice oa l0.length ca) (.slice ob l1.length cb) l0 l1 _ (H0.out.new (HN2.out _ _)) (H1.out.new (HN2.out _ _))).mono ?_
      rw [HF.out]
      rintro e w1 ⟨rfl, m1⟩
      have HC1 := Lib.hid (m1.keeps (HBXS.out _ _).2 (by simp))
      have NW1 := Lib.hid ((HN2.out _ _).then m1)
      clear m1
      have q2 := cell_of_block (off := 0) HC1.out rfl
      simp only [List.getElem_toArray, List.getElem_cons_zero] at q2
      go_wp2_with fail
      refine bodyPost_ret (results_tmp rfl _ _ _) rfl ⟨rfl, NW1.out⟩
  · have HF := Lib.hid hf
    clear hf
    go_enter Try.func6, Try.ntmps6
    go_wp2_with fail
    refine (fits22_any (.slice oa l0.length ca) (.slice ob l1.length cb) l0 l1 _ (H0.out.new (HN2.out _ _)) (H1.out.new (HN2.out _ _))).mono ?_
    rw [HF.out]
    rintro e w1 ⟨rfl, m1⟩
    have NW1 := Lib.hid ((HN2.out _ _).then m1)
    clear m1
    go_wp2_with fail
    refine bodyPost_ret (results_tmp rfl _ _ _) rfl ⟨rfl, NW1.out⟩
end Go.Proofs.Ytcgccoigjcdjeaa
