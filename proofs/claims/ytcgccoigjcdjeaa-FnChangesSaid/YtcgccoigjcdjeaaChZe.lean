/- Whatever the configuration, the way and the changes: laws.FnChanges returns true, and its arguments read behind the call as they read before. No condition. -/
import Derived.Test.YtcgccoigjcdjeaaChWm
import Derived.Test.YtcgccoigjcdjeaaChSm
import Derived.Test.YtcgccoigjcdjeaaVoWm
import Derived.Test.YtcgccoigjcdjeaaOpZ
import Derived.Test.YtcgccoigjcdjeaaQuZb
namespace Go.Proofs.Ytcgccoigjcdjeaa
open Go.RowKit Go.Sort

set_option maxRecDepth 100000 in
set_option maxHeartbeats 3200000 in
theorem chg_walk (hlive : LiveOk) (cv sv : Value) (V VO L N : List Int) (al : Bool) (way : Int) (l : List (Int × Int)) (w : World) (h : Cfv w cv V VO L N al) (hl : Chs w sv l) (hns : NilOk sv) (hl0 : ∀ x ∈ l, 0 ≤ x.2) (hlm : l.length ≤ maxLen) :
    Calls Try.prog 5 #[cv, .int .i64 way, sv] w (Held w) := by
  unfold maxLen at hlm
  obtain ⟨a, b, c, d, rfl, ⟨h0, m0⟩, ⟨h1, m1⟩, ⟨h2, m2⟩, ⟨h3, m3⟩⟩ := h
  have H0 := Lib.hid h0; have H1 := Lib.hid h1; have H2 := Lib.hid h2; have H3 := Lib.hid h3; have M0 := Lib.hid m0; have M1 := Lib.hid m1; have M2 := Lib.hid m2; have M3 := Lib.hid m3
  have HL := Lib.hid hl; have HNS := Lib.hid hns; have HL0 := Lib.hid hl0; have HLV := Lib.hid hlive
  obtain ⟨oa, ca, rfl, -⟩ := h0
  obtain ⟨ob, cb, rfl, -⟩ := h1
  obtain ⟨oc, cc, rfl, -⟩ := h2
  obtain ⟨od, cd, rfl, -⟩ := h3
  obtain ⟨ol, cl, rfl, -⟩ := hl
  have B0 := Lib.hid (block_new w (.cells #[.slice oa V.length ca, .slice ob VO.length cb, .slice oc L.length cc, .slice od N.length cd, .bool al] 44))
  have NA := Lib.hid (show New w (w.alloc (.cells #[.slice oa V.length ca, .slice ob VO.length cb, .slice oc L.length cc, .slice od N.length cd, .bool al] 44)) from Chg.alloc _ _ _)
  clear m0 m1 m2 m3 hns hl0 hlive
  have hfits : decide (V.length ≤ 2147483647 ∧ VO.length ≤ 2147483647 ∧ L.length ≤ 2147483647 ∧ N.length ≤ 2147483647) = true ∨ decide (V.length ≤ 2147483647 ∧ VO.length ≤ 2147483647 ∧ L.length ≤ 2147483647 ∧ N.length ≤ 2147483647) = false := by cases decide (V.length ≤ 2147483647 ∧ VO.length ≤ 2147483647 ∧ L.length ≤ 2147483647 ∧ N.length ≤ 2147483647) <;> simp
  have HFT := Lib.hid hfits; clear hfits
  go_enter Try.func5, Try.ntmps5
  go_wp2_with fail
  refine (fits23_any _ _ _ _ V VO L N al _ (H0.out.new NA.out) (H1.out.new NA.out) (H2.out.new NA.out) (H3.out.new NA.out)).mono ?_
  rcases HFT.out with hf | hf
  · have HFL := Lib.hid (of_decide_eq_true hf)
    rw [hf]
    clear hf HFT
    rintro e w1 ⟨rfl, p1⟩
    have B1 := Lib.hid (p1.keeps B0.out (by simp)); have NW1 := Lib.hid (NA.out.then p1)
    clear p1
    have q0 := cell_of_block (off := 0) B1.out rfl; have q1 := cell_of_block (off := 1) B1.out rfl; have q2 := cell_of_block (off := 2) B1.out rfl; have q3 := cell_of_block (off := 3) B1.out rfl; have q4 := cell_of_block (off := 4) B1.out rfl
    simp only [List.getElem_toArray, List.getElem_cons_zero, List.getElem_cons_succ] at q0 q1 q2 q3 q4
    by_cases hb : l.length ≤ 2147483647
    · have hbd : decide ((2147483647 : Int) < (l.length : Int)) = false := decide_eq_false (by omega)
      go_wp2_with fail
      refine (asked21_any _ _ _ _ _ V VO L N al way l _ (H0.out.new NW1.out) (H1.out.new NW1.out) (H2.out.new NW1.out) (H3.out.new NW1.out) (HL.out.new NW1.out) HFL.out.1 HFL.out.2.1 HFL.out.2.2.1 HFL.out.2.2.2 hb).mono ?_
      rintro e w2 ⟨⟨r, rfl, hr⟩, p2⟩
      have B2 := Lib.hid (p2.keeps B1.out (by simp)); have NW2 := Lib.hid (NW1.out.then p2); have HR := Lib.hid hr
      clear p2 q0 q1 q2 q3 q4 hr
      have q0 := cell_of_block (off := 0) B2.out rfl; have q1 := cell_of_block (off := 1) B2.out rfl; have q2 := cell_of_block (off := 2) B2.out rfl; have q3 := cell_of_block (off := 3) B2.out rfl; have q4 := cell_of_block (off := 4) B2.out rfl
      simp only [List.getElem_toArray, List.getElem_cons_zero, List.getElem_cons_succ] at q0 q1 q2 q3 q4
      cases r
      · clear HR
        go_wp2_with fail
        refine bodyPost_ret (results_tmp rfl _ _ _) rfl ⟨rfl, NW2.out⟩
      · have HA := Lib.hid (HR.out.1 rfl)
        clear HR hbd
        go_wp2_with fail
        refine (piconf_any _ V VO L N al _ ⟨_, _, _, _, rfl, ⟨H0.out.new NW2.out, M0.out⟩, ⟨H1.out.new NW2.out, M1.out⟩, ⟨H2.out.new NW2.out, M2.out⟩, ⟨H3.out.new NW2.out, M3.out⟩⟩ (Nat.le_trans HA.out.v (by decide)) (Nat.le_trans HA.out.vo (by decide)) (Nat.le_trans HA.out.lr (by decide)) (Nat.le_trans HA.out.n (by decide))).mono ?_
        rintro e w3 ⟨cv3, rfl, k3, p3⟩
        have K3 := Lib.hid k3.cfv; have B3 := Lib.hid (p3.keeps B2.out (by simp)); have NW3 := Lib.hid (NW2.out.then p3)
        clear k3 p3 q0 q1 q2 q3 q4
        go_wp2_with fail
        refine (spec_ask HA.out cv3 _ _ K3.out (HL.out.new NW3.out)).mono ?_
        rintro e w4 ⟨p4, hres⟩
        have B4 := Lib.hid (p4.keeps B3.out (by simp)); have NW4 := Lib.hid (NW3.out.then p4)
        clear p4
        have q0 := cell_of_block (off := 0) B4.out rfl; have q1 := cell_of_block (off := 1) B4.out rfl; have q2 := cell_of_block (off := 2) B4.out rfl; have q3 := cell_of_block (off := 3) B4.out rfl; have q4 := cell_of_block (off := 4) B4.out rfl
        simp only [List.getElem_toArray, List.getElem_cons_zero, List.getElem_cons_succ] at q0 q1 q2 q3 q4
        rcases hres with ⟨c, cw, hc, rfl, hcw⟩ | ⟨hc, rfl⟩
        · obtain ⟨a1, b1, c1, d1, rfl, ⟨g0, -⟩, ⟨g1, -⟩, ⟨g2, -⟩, ⟨g3, -⟩⟩ := hcw
          have G0 := Lib.hid g0; have G1 := Lib.hid g1; have G2 := Lib.hid g2; have G3 := Lib.hid g3; have HC := Lib.hid hc
          obtain ⟨oa1, ca1, rfl, -⟩ := g0
          obtain ⟨ob1, cb1, rfl, -⟩ := g1
          obtain ⟨oc1, cc1, rfl, -⟩ := g2
          obtain ⟨od1, cd1, rfl, -⟩ := g3
          clear hc
          have NZ := Lib.hid (show New w4 (w4.alloc (.cells #[.slice oa1 c.V.length ca1, .slice ob1 c.VO.length cb1, .slice oc1 c.L.length cc1, .slice od1 c.N.length cd1, .bool c.al] 44)) from Chg.alloc _ _ _)
          have BW := Lib.hid (block_new w4 (.cells #[.slice oa1 c.V.length ca1, .slice ob1 c.VO.length cb1, .slice oc1 c.L.length cc1, .slice od1 c.N.length cd1, .bool c.al] 44))
          go_upto_region 6 with fail
          obtain ⟨w5, hw5⟩ : ∃ w5, w5 = w4.alloc (.cells #[.slice oa1 c.V.length ca1, .slice ob1 c.VO.length cb1, .slice oc1 c.L.length cc1, .slice od1 c.N.length cd1, .bool c.al] 44) := ⟨_, rfl⟩
          rw [← hw5] at NZ BW ⊢
          clear hw5 q0 q1 q2 q3 q4
          have B5 := Lib.hid (NZ.out.keeps B4.out (by simp)); have NW5 := Lib.hid (NW4.out.then NZ.out)
          have q0 := cell_of_block (off := 0) B5.out rfl; have q1 := cell_of_block (off := 1) B5.out rfl; have q2 := cell_of_block (off := 2) B5.out rfl; have q3 := cell_of_block (off := 3) B5.out rfl; have q4 := cell_of_block (off := 4) B5.out rfl
          simp only [List.getElem_toArray, List.getElem_cons_zero, List.getElem_cons_succ] at q0 q1 q2 q3 q4
          go_wp2_with fail
          refine (piconf_any _ V VO L N al _ ⟨_, _, _, _, rfl, ⟨H0.out.new NW5.out, M0.out⟩, ⟨H1.out.new NW5.out, M1.out⟩, ⟨H2.out.new NW5.out, M2.out⟩, ⟨H3.out.new NW5.out, M3.out⟩⟩ (Nat.le_trans HA.out.v (by decide)) (Nat.le_trans HA.out.vo (by decide)) (Nat.le_trans HA.out.lr (by decide)) (Nat.le_trans HA.out.n (by decide))).mono ?_
          rintro e w6 ⟨cv6, rfl, k6, p6⟩
          have K6 := Lib.hid k6.cfv; have P6 := Lib.hid p6; have NW6 := Lib.hid (NW5.out.then p6)
          clear k6 p6 q0 q1 q2 q3 q4
          go_wp2_with fail
          refine (clone25_any _ l _ (HL.out.new NW6.out) (Nat.le_trans HA.out.ln (by decide)) HNS.out).mono ?_
          rintro e w7 ⟨sv7, rfl, k7, p7⟩
          have K7 := Lib.hid k7; have NW7 := Lib.hid (NW6.out.then p7); have P7 := Lib.hid p7
          clear k7 p7
          go_wp2_with fail
          obtain ⟨a6, b6, c6, d6, rfl, t0, t1, t2, t3⟩ := id K6.out
          refine (impl_ask HA.out HL0.out _ sv7 _ ⟨a6, b6, c6, d6, rfl, ⟨t0.1.new P7.out, t0.2⟩, ⟨t1.1.new P7.out, t1.2⟩, ⟨t2.1.new P7.out, t2.2⟩, ⟨t3.1.new P7.out, t3.2⟩⟩ K7.out).mono ?_
          clear t0 t1 t2 t3
          rintro e w8 ⟨p8, hres⟩
          have NW8 := Lib.hid (NW7.out.then p8); have PW8 := Lib.hid ((P6.out.then P7.out).then p8)
          clear p8
          rcases hres with ⟨c', cw2, hc2, rfl, hcw2⟩ | ⟨hc2, rfl⟩
          · rw [HC.out] at hc2
            cases hc2
            obtain ⟨a2, b2, c2, d2, rfl, g0, g1, g2, g3⟩ := hcw2
            have U0 := Lib.hid g0.us; have U1 := Lib.hid g1.us; have U2 := Lib.hid g2.us; have U3 := Lib.hid g3.us
            obtain ⟨oa2, ca2, rfl, -⟩ := g0.us
            obtain ⟨ob2, cb2, rfl, -⟩ := g1.us
            obtain ⟨oc2, cc2, rfl, -⟩ := g2.us
            obtain ⟨od2, cd2, rfl, -⟩ := g3.us
            clear g0 g1 g2 g3
            have NY := Lib.hid (show New w8 (w8.alloc (.cells #[.slice oa2 c.V.length ca2, .slice ob2 c.VO.length cb2, .slice oc2 c.L.length cc2, .slice od2 c.N.length cd2, .bool c.al] 44)) from Chg.alloc _ _ _)
            have BY := Lib.hid (block_new w8 (.cells #[.slice oa2 c.V.length ca2, .slice ob2 c.VO.length cb2, .slice oc2 c.L.length cc2, .slice od2 c.N.length cd2, .bool c.al] 44))
            go_upto_region 7 with fail
            obtain ⟨w9, hw9⟩ : ∃ w9, w9 = w8.alloc (.cells #[.slice oa2 c.V.length ca2, .slice ob2 c.VO.length cb2, .slice oc2 c.L.length cc2, .slice od2 c.N.length cd2, .bool c.al] 44) := ⟨_, rfl⟩
            rw [← hw9] at NY BY ⊢
            clear hw9
            have BW9 := Lib.hid ((PW8.out.then NY.out).keeps BW.out (by simp)); have NW9 := Lib.hid (NW8.out.then NY.out)
            have N49 := Lib.hid (NZ.out.then (PW8.out.then NY.out))
            have q0 := cell_of_block (off := 0) BW9.out rfl; have q1 := cell_of_block (off := 1) BW9.out rfl; have q2 := cell_of_block (off := 2) BW9.out rfl; have q3 := cell_of_block (off := 3) BW9.out rfl; have q4 := cell_of_block (off := 4) BW9.out rfl
            have r0 := cell_of_block (off := 0) BY.out rfl; have r1 := cell_of_block (off := 1) BY.out rfl; have r2 := cell_of_block (off := 2) BY.out rfl; have r3 := cell_of_block (off := 3) BY.out rfl; have r4 := cell_of_block (off := 4) BY.out rfl
            simp only [List.getElem_toArray, List.getElem_cons_zero, List.getElem_cons_succ] at q0 q1 q2 q3 q4 r0 r1 r2 r3 r4
            have SO := Lib.hid (spec_ok HA.out HL0.out HC.out)
            go_wp2_with fail
            refine (same26_any _ _ _ _ _ _ _ _ c.V c.VO c.L c.N c.V c.VO c.L c.N c.al c.al _ (U0.out.new NY.out) (U1.out.new NY.out) (U2.out.new NY.out) (U3.out.new NY.out) (G0.out.new N49.out) (G1.out.new N49.out) (G2.out.new N49.out) (G3.out.new N49.out) (Nat.le_trans SO.out.2.1 (by decide)) (Nat.le_trans SO.out.2.2.1 (by decide)) (Nat.le_trans SO.out.2.2.2.1 (by decide)) (Nat.le_trans SO.out.2.2.2.2 (by decide))).mono ?_
            rw [decide_eq_true (show c.V = c.V ∧ c.VO = c.VO ∧ c.L = c.L ∧ c.N = c.N ∧ c.al = c.al from ⟨rfl, rfl, rfl, rfl, rfl⟩)]
            rintro e w10 ⟨rfl, p10⟩
            have BY10 := Lib.hid (p10.keeps BY.out (by simp)); have NW10 := Lib.hid (NW9.out.then p10); have NY10 := Lib.hid (NY.out.then p10)
            clear p10 q0 q1 q2 q3 q4 r0 r1 r2 r3 r4
            have r0 := cell_of_block (off := 0) BY10.out rfl; have r1 := cell_of_block (off := 1) BY10.out rfl; have r2 := cell_of_block (off := 2) BY10.out rfl; have r3 := cell_of_block (off := 3) BY10.out rfl; have r4 := cell_of_block (off := 4) BY10.out rfl
            simp only [List.getElem_toArray, List.getElem_cons_zero, List.getElem_cons_succ] at r0 r1 r2 r3 r4
            go_wp2_with fail
            refine (proper27_any _ _ _ _ c.V c.VO c.L c.N c.al _ (U0.out.new NY10.out) (U1.out.new NY10.out) (U2.out.new NY10.out) (U3.out.new NY10.out) (Nat.le_trans SO.out.2.1 (by decide)) (Nat.le_trans SO.out.2.2.1 (by decide)) (Nat.le_trans SO.out.2.2.2.1 (by decide)) (Nat.le_trans SO.out.2.2.2.2 (by decide))).mono ?_
            rintro e w11 ⟨⟨r, rfl, hr⟩, p11⟩
            have hrt := hr.2 SO.out.1
            subst hrt
            have NW11 := Lib.hid (NW10.out.then p11)
            clear p11 hr r0 r1 r2 r3 r4
            go_wp2_with fail
            refine (HLV.out _).mono ?_
            rintro e w12 ⟨rfl, p12⟩
            have NW12 := Lib.hid (NW11.out.then p12)
            clear p12
            go_wp2_with fail
            refine bodyPost_ret (results_tmp rfl _ _ _) rfl ⟨rfl, NW12.out⟩
          · rw [HC.out] at hc2
            cases hc2
        · have HC := Lib.hid hc
          clear hc
          go_upto_region 6 with fail
          have NZ := Lib.hid (show New w4 (w4.alloc zeroCells) from Chg.alloc _ _ _)
          obtain ⟨w5, hw5⟩ : ∃ w5, w5 = w4.alloc zeroCells := ⟨_, rfl⟩
          rw [← hw5] at NZ ⊢
          clear hw5 q0 q1 q2 q3 q4
          have B5 := Lib.hid (NZ.out.keeps B4.out (by simp)); have NW5 := Lib.hid (NW4.out.then NZ.out)
          have q0 := cell_of_block (off := 0) B5.out rfl; have q1 := cell_of_block (off := 1) B5.out rfl; have q2 := cell_of_block (off := 2) B5.out rfl; have q3 := cell_of_block (off := 3) B5.out rfl; have q4 := cell_of_block (off := 4) B5.out rfl
          simp only [List.getElem_toArray, List.getElem_cons_zero, List.getElem_cons_succ] at q0 q1 q2 q3 q4
          go_wp2_with fail
          refine (piconf_any _ V VO L N al _ ⟨_, _, _, _, rfl, ⟨H0.out.new NW5.out, M0.out⟩, ⟨H1.out.new NW5.out, M1.out⟩, ⟨H2.out.new NW5.out, M2.out⟩, ⟨H3.out.new NW5.out, M3.out⟩⟩ (Nat.le_trans HA.out.v (by decide)) (Nat.le_trans HA.out.vo (by decide)) (Nat.le_trans HA.out.lr (by decide)) (Nat.le_trans HA.out.n (by decide))).mono ?_
          rintro e w6 ⟨cv6, rfl, k6, p6⟩
          have K6 := Lib.hid k6.cfv; have P6 := Lib.hid p6; have NW6 := Lib.hid (NW5.out.then p6)
          clear k6 p6 q0 q1 q2 q3 q4
          go_wp2_with fail
          refine (clone25_any _ l _ (HL.out.new NW6.out) (Nat.le_trans HA.out.ln (by decide)) HNS.out).mono ?_
          rintro e w7 ⟨sv7, rfl, k7, p7⟩
          have K7 := Lib.hid k7; have NW7 := Lib.hid (NW6.out.then p7); have P7 := Lib.hid p7
          clear k7 p7
          go_wp2_with fail
          obtain ⟨a6, b6, c6, d6, rfl, t0, t1, t2, t3⟩ := id K6.out
          refine (impl_ask HA.out HL0.out _ sv7 _ ⟨a6, b6, c6, d6, rfl, ⟨t0.1.new P7.out, t0.2⟩, ⟨t1.1.new P7.out, t1.2⟩, ⟨t2.1.new P7.out, t2.2⟩, ⟨t3.1.new P7.out, t3.2⟩⟩ K7.out).mono ?_
          clear t0 t1 t2 t3
          rintro e w8 ⟨p8, hres⟩
          have NW8 := Lib.hid (NW7.out.then p8)
          clear p8
          rcases hres with ⟨c', cw2, hc2, rfl, hcw2⟩ | ⟨hc2, rfl⟩
          · rw [HC.out] at hc2
            cases hc2
          · clear hc2
            have NY := Lib.hid (show New w8 (w8.alloc zeroCells) from Chg.alloc _ _ _)
            go_upto_region 7 with fail
            obtain ⟨w9, hw9⟩ : ∃ w9, w9 = w8.alloc zeroCells := ⟨_, rfl⟩
            rw [← hw9] at NY ⊢
            clear hw9
            have NW9 := Lib.hid (NW8.out.then NY.out)
            go_wp2_with fail
            refine (HLV.out _).mono ?_
            rintro e w12 ⟨rfl, p12⟩
            have NW12 := Lib.hid (NW9.out.then p12)
            clear p12
            go_wp2_with fail
            refine bodyPost_ret (results_tmp rfl _ _ _) rfl ⟨rfl, NW12.out⟩
    · have hbd : decide ((2147483647 : Int) < (l.length : Int)) = true := decide_eq_true (by omega)
      go_wp2_with fail
      refine bodyPost_ret (results_tmp rfl _ _ _) rfl ⟨rfl, NW1.out⟩
  · rw [hf]
    clear hf HFT
    rintro e w1 ⟨rfl, p1⟩
    have NW1 := Lib.hid (NA.out.then p1)
    clear p1
    go_wp2_with fail
    refine bodyPost_ret (results_tmp rfl _ _ _) rfl ⟨rfl, NW1.out⟩
end Go.Proofs.Ytcgccoigjcdjeaa
namespace Go.Proofs.Ytcgccoigjcdjeaa
open Go.ChangeShapes Go.WideShapes Go.ChangeAt Go.RowKit
open Go.ChangeMaps (open_string shut_string)
set_option linter.unusedVariables false

theorem Held.belowC {w w' : World} {e : Ending} (h : Held w e w') : Below w.heap.size w w' := h.2.below (Nat.le_refl _) (by simp)
set_option maxRecDepth 100000 in
theorem chg_lifted (os : Os) (started : os.Started) (H : Type) (enc : TypeId × Value → H) :
    ReturnsInHanded {} Try.checked os 5 .any (Rows.fnChangesSpec.pre6 enc Try.prog Try.f5 Rows.fnChangesRow.domain false) (Rows.fnChangesSpec.post enc Try.prog Try.f5 false true false false) := by
  refine returnsInHanded_of_change (C := Try.checked) own started (by kernel_rfl) Try.func5
    (ChangeSpec.witness6 (enc := enc) (C := Try.checked) false ⟨#[], #[.agg #[.slice none 0 0, .slice none 0 0, .slice none 0 0, .slice none 0 0, .bool false], .int .i64 0, .slice none 0 0], []⟩ 8 (by kernel_rfl) (by kernel_rfl) (by kernel_rfl) (by kernel_rfl)) ?_
  intro W base args ds gs before hval0 hW hcnd _
  have hval : ∀ (j : Nat) t v, Try.f5.params[j]? = some t → args[j]? = some v → Value.okWide Try.prog W .any base t v := hval0
  have hW' := hW
  obtain ⟨p, q, hA0, hV, rfl, hfz, hnd⟩ := hW
  have hA : DataW.TrodAll enc Try.prog W 0 (fun _ => true) true Try.f5.params.toList args.toList ds p := hA0
  rw [Try.params5] at hA hval
  obtain ⟨v0, vs0, d0, ds0, p0, q0, hargs, rfl, rfl, h0, r0⟩ := trodAll_cons hA
  obtain ⟨v1, vs1, d1, ds1, p1, q1, rfl, rfl, rfl, h1, r1⟩ := trodAll_cons r0
  obtain ⟨v2, vs2, d2, ds2, p2, q2, rfl, rfl, rfl, h2, r2⟩ := trodAll_cons r1
  obtain ⟨rfl, rfl, rfl⟩ := trodAll_nil r2
  obtain rfl : args = #[v0, v1, v2] := by cases args; simp_all
  obtain ⟨rfl, rfl⟩ := trodVars_none hV
  have k0 := h0
  have lt0 : ∀ x ∈ p0, x.block < W.heap.size := by obtain ⟨m, hm⟩ := k0; exact DataW.trod_lt m _ _ _ hm
  have k1 := h1
  have lt1 : ∀ x ∈ p1, x.block < W.heap.size := by obtain ⟨m, hm⟩ := k1; exact DataW.trod_lt m _ _ _ hm
  have k2 := h2
  have lt2 : ∀ x ∈ p2, x.block < W.heap.size := by obtain ⟨m, hm⟩ := k2; exact DataW.trod_lt m _ _ _ hm
  obtain ⟨V, VO, L, N, al, hci⟩ := conf_in (hval 0 44 v0 rfl rfl) h0
  obtain ⟨a, b, c, d, rfl, u0, u1, u2, u3⟩ := hci.ex
  obtain ⟨way, rfl⟩ := okWide_int Try.underlying3 (hval 1 3 v1 rfl rfl)
  obtain ⟨ov, len, cap, rfl⟩ := okWide_slice Try.underlying45 (hval 2 45 v2 rfl rfl)
  obtain ⟨B, hB⟩ : ∃ B, PairsIn (fun p : Int × Int => .int .i64 p.1) (fun p => .int .u64 p.2) (fun p => (Lit.int .i64 p.1).wf = true ∧ (Lit.int .u64 p.2).wf = true) W (.slice ov len cap) B := by
    obtain ⟨fuel, hf⟩ := h2
    obtain ⟨v, B, e, hB⟩ := pairs_in Try.underlying45 cells53 dec53 hf
    simp [Value.cells] at e
    subst e
    exact ⟨B, hB⟩
  clear hA0 hval0
  refine (chg_walk live_any _ _ V VO L N al way B W ⟨a, b, c, d, rfl, ⟨u0.us, u0.nil⟩, ⟨u1.us, u1.nil⟩, ⟨u2.us, u2.nil⟩, ⟨u3.us, u3.nil⟩⟩ hB.cells hB.nil (fun p hp => (wf_u64 (hB.ok p hp).2).1) hB.len).mono fun e W' hh => ?_
  have bel := hh.belowC
  obtain ⟨rfl, _⟩ := hh
  exact ⟨_, rfl, _, _, _, [], _, [], hW', trodAll_mk1 (shut_bool Try.underlying4 _), (trodAll_cons_mk (Below.trod laidOut (by kernel_rfl) (of_decide_eq_true (by kernel_rfl)) k0 bel lt0) (trodAll_cons_mk (Below.trod laidOut (by kernel_rfl) (of_decide_eq_true (by kernel_rfl)) k1 bel lt1) (trodAll_cons_mk (Below.trod laidOut (by kernel_rfl) (of_decide_eq_true (by kernel_rfl)) k2 bel lt2) trodAll_mk0))), rfl, bel.frame _, fun h => by cases h⟩

theorem chg_over : Rows.fnChangesRow.holds Try.pinned (OpenSpec.ofChange Rows.fnChangesSpec) :=
  OpenClaim.holds_of_wide 5 Try.f5 rfl rfl rfl rfl rfl rfl rfl ⟨rfl, rfl, rfl, rfl, rfl⟩ rfl rfl rfl rfl rfl (by kernel_rfl) Try.func5 (by kernel_rfl)
    (of_decide_eq_true (by kernel_rfl)) (by unfold Func.isWrapper; first | (rw [if_pos (by decide +kernel)]; kernel_rfl) | (rw [if_neg (by decide +kernel)]; exact ⟨rfl, rfl⟩))
    (fun os started H enc _ => chg_lifted os started H enc)
/-- the statement -/
theorem changes_hold : Rows.FnChangesSaid := chg_over
#print axioms changes_hold
end Go.Proofs.Ytcgccoigjcdjeaa
