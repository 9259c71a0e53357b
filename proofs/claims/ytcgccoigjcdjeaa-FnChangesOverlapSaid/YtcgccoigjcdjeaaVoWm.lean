/- The walk of laws.FnVotes. Condition: what laws.piLive answers, as a hypothesis. -/
import Derived.Test.YtcgccoigjcdjeaaQuZ
import Derived.Test.YtcgccoigjcdjeaaOpZ
namespace Go.Proofs.Ytcgccoigjcdjeaa
open Go.RowKit Go.Sort

def LiveOk : Prop := ∀ w : World, Calls Try.prog 15 #[] w fun e w' => e = .returned (.bool true) ∧ New w w'
theorem UsIn.toUs {w : World} {v : Value} {l : List Int} (h : UsIn w v l) : Us w v l := h.us
theorem PairsIn.bas {w : World} {v : Value} {B : List (Int × Bool)} {Q : Int × Bool → Prop} (h : PairsIn (fun p => .int .u64 p.1) (fun p => .bool p.2) Q w v B) : Bas w v B := h.cells
/-- what a law leaves: true, and nothing that was there is turned -/
def Held (w : World) (e : Ending) (w' : World) : Prop := e = .returned (.bool true) ∧ New w w'
theorem okIDs_of {l : List Int} (h : okIDs l = true) : l.Nodup ∧ (∀ x ∈ l, 1 ≤ x) ∧ l.length ≤ 12 := of_decide_eq_true h
theorem okBas_of {l : List (Int × Bool)} (h : okBas l = true) : (l.map (·.1)).Nodup ∧ l.length ≤ 20 := of_decide_eq_true h

set_option maxRecDepth 100000 in
set_option maxHeartbeats 3200000 in
theorem fnvotes_walk (hlive : LiveOk) (a b bv : Value) (l0 l1 : List Int) (B : List (Int × Bool)) (w : World) (h0 : Us w a l0) (h1 : Us w b l1) (hv : Bas w bv B) (n0 : NilOk a) (n1 : NilOk b) (nv : NilOk bv) (c0 : CapOk a) (c1 : CapOk b) (cv : CapOk bv) (hBm : B.length ≤ maxLen) :
    Calls Try.prog 4 #[.agg #[a, b], bv] w (Held w) := by
  unfold maxLen at hBm
  have H0 := Lib.hid h0; have H1 := Lib.hid h1; have HV := Lib.hid hv; have N0 := Lib.hid n0; have N1 := Lib.hid n1; have NV := Lib.hid nv; have C0 := Lib.hid c0; have C1 := Lib.hid c1; have CV := Lib.hid cv; have HL := Lib.hid hlive
  obtain ⟨oa, ca, rfl, _⟩ := h0
  obtain ⟨ob, cb, rfl, _⟩ := h1
  obtain ⟨ov, cc, rfl, _⟩ := hv
  clear n0 n1 nv c0 c1 cv hlive
  have hfits : decide (l0.length ≤ 2147483647 ∧ l1.length ≤ 2147483647) = true ∨ decide (l0.length ≤ 2147483647 ∧ l1.length ≤ 2147483647) = false := by cases decide (l0.length ≤ 2147483647 ∧ l1.length ≤ 2147483647) <;> simp
  rcases hfits with hf | hf
  · have hfl := of_decide_eq_true hf
    have HF := Lib.hid hf; have HFL := Lib.hid hfl
    clear hf hfl
    by_cases hb : B.length ≤ 2147483647
    · have hbd : decide ((2147483647 : Int) < (B.length : Int)) = false := by simp; omega
      go_enter Try.func4, Try.ntmps4
      go_wp2_with fail
      refine (fits22_any (.slice oa l0.length ca) (.slice ob l1.length cb) l0 l1 _ (H0.out.new (Chg.alloc _ _ _)) (H1.out.new (Chg.alloc _ _ _))).mono ?_
      rw [HF.out]
      rintro e w1 ⟨rfl, m1⟩
      have HB1 := Lib.hid (m1.keeps (block_new w (.cells #[.slice oa l0.length ca, .slice ob l1.length cb] 23)) (by simp))
      have NW1 := Lib.hid ((Chg.alloc w _ _).then m1)
      have HO := Lib.hid (of_decide_eq_true (p := l0.length ≤ 2147483647 ∧ l1.length ≤ 2147483647) HF.out)
      clear m1
      have q0 := cell_of_block (off := 0) HB1.out rfl; have q1 := cell_of_block (off := 1) HB1.out rfl
      simp only [List.getElem_toArray, List.getElem_cons_zero, List.getElem_cons_succ] at q0 q1
      cases hi0 : okIDs l0 with
      | false =>
        go_wp2_with (first
          | (go_at_call 9; refine (piids_any (.slice oa l0.length ca) l0 _ (H0.out.new NW1.out) C0.out HFL.out.1).mono ?_; rw [hi0]; rintro e w2 ⟨rfl, rfl⟩)
          | fail)
        refine bodyPost_ret (results_tmp rfl _ _ _) rfl ⟨rfl, NW1.out⟩
      | true =>
        have I0 := Lib.hid (okIDs_of hi0); have HI0 := Lib.hid hi0; clear hi0
        cases hi1 : okIDs l1 with
        | false =>
          have HI1 := Lib.hid hi1; clear hi1
          go_wp2_with fail
          refine (piids_any (.slice oa l0.length ca) l0 _ (H0.out.new NW1.out) C0.out HFL.out.1).mono ?_
          rw [HI0.out]; rintro e w2 ⟨rfl, rfl⟩
          go_wp2_with fail
          refine (piids_any (.slice ob l1.length cb) l1 _ (H1.out.new NW1.out) C1.out HFL.out.2).mono ?_
          rw [HI1.out]; rintro e w2 ⟨rfl, rfl⟩
          go_wp2_with fail
          refine bodyPost_ret (results_tmp rfl _ _ _) rfl ⟨rfl, NW1.out⟩
        | true =>
          have I1 := Lib.hid (okIDs_of hi1); have HI1 := Lib.hid hi1; clear hi1
          go_wp2_with fail
          refine (piids_any (.slice oa l0.length ca) l0 _ (H0.out.new NW1.out) C0.out HFL.out.1).mono ?_
          rw [HI0.out]; rintro e w2 ⟨rfl, rfl⟩
          go_wp2_with fail
          refine (piids_any (.slice ob l1.length cb) l1 _ (H1.out.new NW1.out) C1.out HFL.out.2).mono ?_
          rw [HI1.out]; rintro e w2 ⟨rfl, rfl⟩
          go_wp2_with fail
          refine (piballots_any (.slice ov B.length cc) B _ (HV.out.chg NW1.out) CV.out hb).mono ?_
          cases hib : okBas B with
          | false =>
            rintro e w3 ⟨rfl, m3⟩
            have NW3 := Lib.hid (NW1.out.then m3); clear m3
            go_wp2_with fail
            refine bodyPost_ret (results_tmp rfl _ _ _) rfl ⟨rfl, NW3.out⟩
          | true =>
            have IB := Lib.hid (okBas_of hib)
            rintro e w3 ⟨rfl, m3⟩
            have HB3 := Lib.hid (m3.keeps HB1.out (by simp))
            have NW3 := Lib.hid (NW1.out.then m3)
            clear m3 q0 q1 hib
            have q0 := cell_of_block (off := 0) HB3.out rfl; have q1 := cell_of_block (off := 1) HB3.out rfl
            simp only [List.getElem_toArray, List.getElem_cons_zero, List.getElem_cons_succ] at q0 q1
            go_wp2_with fail
            refine (svoted_any (.slice oa l0.length ca) (.slice ob l1.length cb) (.slice ov B.length cc) l0 l1 B _ (H0.out.new NW3.out) (H1.out.new NW3.out) (HV.out.chg NW3.out) IB.out.1 (Nat.le_trans I0.out.2.2 (by decide)) (Nat.le_trans I1.out.2.2 (by decide)) (Nat.le_trans IB.out.2 (by decide))).mono ?_
            obtain ⟨r, hr⟩ : ∃ r, r = joinR (voteR B l0) (voteR B l1) := ⟨_, rfl⟩
            rw [← hr]
            rintro e w4 ⟨rfl, m4⟩
            have HR := Lib.hid hr
            have HB4 := Lib.hid (m4.keeps HB3.out (by simp))
            have NW4 := Lib.hid (NW3.out.then m4)
            clear m4 q0 q1 hr
            have q0 := cell_of_block (off := 0) HB4.out rfl; have q1 := cell_of_block (off := 1) HB4.out rfl
            simp only [List.getElem_toArray, List.getElem_cons_zero, List.getElem_cons_succ] at q0 q1
            go_wp2_with fail
            refine (pivoters_any (.slice oa l0.length ca) (.slice ob l1.length cb) l0 l1 _ (H0.out.new NW4.out) (H1.out.new NW4.out) N0.out N1.out (Nat.le_trans I0.out.2.2 (by decide)) (Nat.le_trans I1.out.2.2 (by decide))).mono ?_
            rintro e w5 ⟨oa5, ca5, ob5, cb5, rfl, u5, v5, m5⟩
            have U5 := Lib.hid u5; have V5 := Lib.hid v5
            have NW5 := Lib.hid (NW4.out.then m5)
            clear m5 u5 v5 q0 q1
            go_wp2_with fail
            refine (clone19_any (.slice ov B.length cc) B _ (HV.out.chg NW5.out) (Nat.le_trans IB.out.2 (by decide)) NV.out).mono ?_
            rintro e w6 ⟨bv6, rfl, b6, m6⟩
            have U6 := Lib.hid (U5.out.new m6); have V6 := Lib.hid (V5.out.new m6); have B6 := Lib.hid b6
            have NW6 := Lib.hid (NW5.out.then m6)
            clear m6 b6
            go_wp2_with fail
            refine (voted_any (.slice oa5 l0.length ca5) (.slice ob5 l1.length cb5) bv6 l0 l1 B _ U6.out V6.out B6.out I0.out.1 I1.out.1 IB.out.1 (Nat.le_trans I0.out.2.2 (by decide)) (Nat.le_trans I1.out.2.2 (by decide)) (Nat.le_trans IB.out.2 (by decide))).mono ?_
            rw [← HR.out]
            rintro e w7 ⟨rfl, m7⟩
            have NW7 := Lib.hid (NW6.out.then m7)
            clear m7
            have hrr : (r == r) = true := by simp
            go_wp2_with fail
            refine (HL.out _).mono ?_
            rintro e w8 ⟨rfl, m8⟩
            have NW8 := Lib.hid (NW7.out.then m8)
            clear m8
            go_wp2_with fail
            refine bodyPost_ret (results_tmp rfl _ _ _) rfl ⟨rfl, NW8.out⟩
    · have hbd : decide ((2147483647 : Int) < (B.length : Int)) = true := by simp; omega
      go_enter Try.func4, Try.ntmps4
      go_wp2_with fail
      refine (fits22_any (.slice oa l0.length ca) (.slice ob l1.length cb) l0 l1 _ (H0.out.new (Chg.alloc _ _ _)) (H1.out.new (Chg.alloc _ _ _))).mono ?_
      rw [HF.out]
      rintro e w1 ⟨rfl, m1⟩
      have NW1 := Lib.hid ((Chg.alloc w _ _).then m1)
      clear m1
      go_wp2_with fail
      refine bodyPost_ret (results_tmp rfl _ _ _) rfl ⟨rfl, NW1.out⟩
  · have HF := Lib.hid hf
    clear hf
    go_enter Try.func4, Try.ntmps4
    go_wp2_with fail
    refine (fits22_any (.slice oa l0.length ca) (.slice ob l1.length cb) l0 l1 _ (H0.out.new (Chg.alloc _ _ _)) (H1.out.new (Chg.alloc _ _ _))).mono ?_
    rw [HF.out]
    rintro e w1 ⟨rfl, m1⟩
    have NW1 := Lib.hid ((Chg.alloc w _ _).then m1)
    clear m1
    go_wp2_with fail
    refine bodyPost_ret (results_tmp rfl _ _ _) rfl ⟨rfl, NW1.out⟩
end Go.Proofs.Ytcgccoigjcdjeaa
