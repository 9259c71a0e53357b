/- The library's sort at numbers: partitionEqualOrdered. Condition: a slice at the head of its block, of fewer than 2^60 numbers. -/
import Derived.Test.YtcgccoigjcdjeaaSortB
import Derived.Sort.LotC
namespace Go.Proofs.Ytcgccoigjcdjeaa
open Go.RowKit Go.Sort

theorem scanUp_go {p : Int → Bool} {d : Array Int} {i j : Nat} (h : i ≤ j) (hp : p d[i]! = true) : scanUp p d j i = scanUp p d j (i + 1) := by rw [scanUp, if_pos (by simp [h, hp])]
theorem scanUp_stop {p : Int → Bool} {d : Array Int} {i j : Nat} (h : i ≤ j → p d[i]! = false) : scanUp p d j i = i := by
  rw [scanUp, if_neg]
  intro hc
  simp only [Bool.and_eq_true, decide_eq_true_eq] at hc
  rw [h hc.1] at hc
  exact absurd hc.2 (by simp)
theorem scanDown_go {p : Int → Bool} {d : Array Int} {i j : Nat} (h0 : 0 < j) (h : i ≤ j) (hp : p d[j]! = true) : scanDown p d i j = scanDown p d i (j - 1) := by
  cases j with
  | zero => omega
  | succ j => rw [scanDown, if_pos (by simp [h, hp])]; rfl
theorem scanDown_stop {p : Int → Bool} {d : Array Int} {i j : Nat} (h : i ≤ j → p d[j]! = false) : scanDown p d i j = j := by
  cases j with
  | zero => rw [scanDown]
  | succ j =>
    rw [scanDown, if_neg]
    intro hc
    simp only [Bool.and_eq_true, decide_eq_true_eq] at hc
    rw [h hc.1] at hc
    exact absurd hc.2 (by simp)
/-- one round of partitionEqual's loop, where the scans have stopped -/
theorem peq_stop {a i j i2 j2 : Nat} {d : Array Int} (h1 : scanUp (fun x => !ltInt d[a]! x) d j i = i2) (h2 : scanDown (fun x => ltInt d[a]! x) d i2 j = j2) (h : i2 > j2) : partEqLoop ltInt a i j d = (i2, d) := by
  rw [partEqLoop_eq, h1, h2, if_pos h]
theorem peq_go {a i j i2 j2 : Nat} {d : Array Int} (h1 : scanUp (fun x => !ltInt d[a]! x) d j i = i2) (h2 : scanDown (fun x => ltInt d[a]! x) d i2 j = j2) (h : ¬ i2 > j2) : partEqLoop ltInt a i j d = partEqLoop ltInt a (i2 + 1) (j2 - 1) (swp d i2 j2) := by
  rw [partEqLoop_eq, h1, h2, if_neg h]

set_option maxRecDepth 100000 in
set_option maxHeartbeats 3200000 in
theorem peq_any (g e cap a b pv : Nat) (d : Array Int) (rest : List Value) (w : World) (hr : RowV w g e d rest) (h1 : a ≤ pv) (h2 : pv < b) (hb : b ≤ d.size) (hsz : d.size < 1152921504606846976) :
    Calls Try.prog 94 #[.slice (some ⟨g, 0, none⟩) d.size cap, .int .i64 a, .int .i64 b, .int .i64 pv] w fun e' w' => e' = .returned (.int .i64 (partitionEqual ltInt d a b pv).1) ∧ RowV w' g e (partitionEqual ltInt d a b pv).2 rest ∧ Chg w w' (fun i => i = g) := by
  have HR := Lib.hid hr; clear hr
  obtain ⟨D, hD⟩ : ∃ D, D = partitionEqual ltInt d a b pv := ⟨_, rfl⟩
  rw [← hD]
  have hD2 : partEqLoop ltInt a (a + 1) (b - 1) (swp d a pv) = D := by rw [hD]; rfl
  have HD := Lib.hid hD2
  clear hD hD2
  have ca := HR.out.cell (t := a) (by omega)
  have cp := HR.out.cell (t := pv) (by omega)
  have fa := HR.out.free a
  have fp := HR.out.free pv
  obtain ⟨x, hx⟩ : ∃ x, x = d[a]! := ⟨_, rfl⟩
  obtain ⟨y, hy⟩ : ∃ y, y = d[pv]! := ⟨_, rfl⟩
  rw [← hx] at ca; rw [← hy] at cp
  have HX := Lib.hid hx; have HY := Lib.hid hy
  clear hx hy
  have hai : (a : Int) < (d.size : Int) := by omega
  have hpi : (pv : Int) < (d.size : Int) := by omega
  have hxy : a = pv → x = y := fun e => by rw [HX.out, HY.out, e]
  have HXY := Lib.hid hxy; clear hxy
  by_cases hap : a = pv
  · have := HXY.out hap
    subst hap
    subst this
    clear cp fp hpi
    go_enter Try.func94, Try.ntmps94
    go_wp2_with fail
    go_region
    go_wp2_with fail
    go_loopg [9, 10] (b - 1 + 1 - (a + 1) + 1) (fun n vi vj wr => ∃ (i j : Nat) (dk : Array Int), vi = .int .i64 i ∧ vj = .int .i64 j ∧ j + 2 ≤ n + i ∧ a < i ∧ i ≤ j + 1 ∧ j < b ∧ dk.size = d.size ∧ RowV wr g e dk rest ∧ Chg w wr (fun i => i = g) ∧ partEqLoop ltInt a i j dk = D)
    case atStart => exact ⟨a + 1, b - 1, swp d a a, by go_num, by congr 1; omega, by omega, by omega, by omega, by omega, by rw [size_swp'], (HR.out.swapTo (Chg.refl w _) (by omega) (by omega) HX.out HX.out).chg (Chg.drew _ (fun _ => False)) (by simp), (Chg.swapTo (Chg.refl w _) _ _ _ _ _).then (Chg.drew _ _), HD.out⟩
    case round =>
      clear ca fa
      obtain ⟨i, j, dk, rfl, rfl, hg, hai, hij, hjb, hsk, hrk, hck, hS⟩ := hrel
      have HS := Lib.hid hS; have HRK := Lib.hid hrk; have HCK := Lib.hid hck; have HG := Lib.hid hg
      clear hS hrk hck hg
      obtain ⟨wo, rfl⟩ : ∃ wo : World, wo = wr := ⟨_, rfl⟩
      obtain ⟨g0, rfl⟩ : ∃ g0 : Nat, g0 = gk := ⟨_, rfl⟩
      have hal : a < dk.size := by omega
      obtain ⟨pa, hpa⟩ : ∃ x, x = dk[a]! := ⟨_, rfl⟩
      have HPA := Lib.hid hpa
      clear hpa
      go_wp2_with fail
      go_loopg [9] (j + 2 - i) (fun n vi wr => ∃ (i1 : Nat), vi = .int .i64 i1 ∧ j + 2 ≤ n + i1 ∧ i ≤ i1 ∧ i1 ≤ j + 1 ∧ RowV wr g e dk rest ∧ Chg w wr (fun i => i = g) ∧ scanUp (fun x => !ltInt pa x) dk j i1 = scanUp (fun x => !ltInt pa x) dk j i)
      case atStart => exact ⟨i, rfl, by omega, by omega, hij, HRK.out, HCK.out, rfl⟩
      case round =>
        clear HRK HCK
        obtain ⟨i1, rfl, hg1, hii, hi1j, hrk, hck, hU⟩ := hrel
        have HU := Lib.hid hU; have HRK := Lib.hid hrk; have HCK := Lib.hid hck; have HG1 := Lib.hid hg1
        clear hU hrk hck hg1
        have ca := HRK.out.cell (t := a) hal
        rw [← HPA.out] at ca
        by_cases hle : i1 ≤ j
        · have c1 := HRK.out.cell (t := i1) (by omega)
          obtain ⟨x1, hx1⟩ : ∃ x, x = dk[i1]! := ⟨_, rfl⟩
          rw [← hx1] at c1
          have HX1 := Lib.hid hx1
          clear hx1
          have hdl : decide ((i1 : Int) ≤ (j : Int)) = true := by simp; omega
          have hi1s : (i1 : Int) < (d.size : Int) := by omega
          cases hl : ltInt pa x1
          · go_wp2_with fail
            go_quiet (first | (go_at_call 93; refine Calls.quiet_of_same (less_any _ _ _)))
            go_wp2_with fail
            go_roundg (gk - 1)
            case measure => have := HG1.out; omega
            case rel => exact ⟨i1 + 1, by go_num, by have := HG1.out; omega, by omega, by omega, HRK.out.chg (Chg.drewN _ _ (fun _ => False)) (by simp), HCK.out.then (Chg.drewN _ _ _), by rw [← HU.out, scanUp_go hle (by show (!ltInt pa dk[i1]!) = true; rw [← HX1.out, hl]; rfl)]⟩
          · have hst : scanUp (fun x => !ltInt pa x) dk j i = i1 := by rw [← HU.out]; exact scanUp_stop (fun _ => by show (!ltInt pa dk[i1]!) = false; rw [← HX1.out, hl]; rfl)
            have HST := Lib.hid hst
            clear hst
            go_wp2_with fail
            go_quiet (first | (go_at_call 93; refine Calls.quiet_of_same (less_any _ _ _)))
            go_wp2_with fail
            have hrq := HRK.out.chg (Chg.drewN wr nq (fun _ => False)) (by simp)
            have hcq := HCK.out.then (Chg.drewN wr nq _)
            have HRQ := Lib.hid hrq; have HCQ := Lib.hid hcq; have HL := Lib.hid hl
            clear hrq hcq HRK HCK HG1 ca c1 hl hdl hi1s
            go_loopg [10] (j + 2 - i1) (fun n vj wr => ∃ (j1 : Nat), vj = .int .i64 j1 ∧ j1 + 1 ≤ n + i1 ∧ i1 ≤ j1 + 1 ∧ j1 ≤ j ∧ RowV wr g e dk rest ∧ Chg w wr (fun i => i = g) ∧ scanDown (fun x => ltInt pa x) dk i1 j1 = scanDown (fun x => ltInt pa x) dk i1 j)
            case atStart => exact ⟨j, rfl, by omega, by omega, Nat.le_refl _, HRQ.out, HCQ.out, rfl⟩
            case round =>
              clear HRQ HCQ
              obtain ⟨j1, rfl, hg2, hij1, hjj, hrk, hck, hV⟩ := hrel
              have HV := Lib.hid hV; have HRK := Lib.hid hrk; have HCK := Lib.hid hck; have HG2 := Lib.hid hg2
              clear hV hrk hck hg2
              have ca := HRK.out.cell (t := a) hal
              rw [← HPA.out] at ca
              by_cases hle2 : i1 ≤ j1
              · have c2 := HRK.out.cell (t := j1) (by omega)
                obtain ⟨x2, hx2⟩ : ∃ x, x = dk[j1]! := ⟨_, rfl⟩
                rw [← hx2] at c2
                have HX2 := Lib.hid hx2
                clear hx2
                have hdl : decide ((i1 : Int) ≤ (j1 : Int)) = true := by simp; omega
                have hj1s : (j1 : Int) < (d.size : Int) := by omega
                cases hl : ltInt pa x2
                · have hst : scanDown (fun x => ltInt pa x) dk i1 j = j1 := by rw [← HV.out]; exact scanDown_stop (fun _ => by show ltInt pa dk[j1]! = false; rw [← HX2.out, hl])
                  have hgo := peq_go (a := a) (d := dk) (i := i) (j := j) (i2 := i1) (j2 := j1) (by rw [← HPA.out]; exact HST.out) (by rw [← HPA.out]; exact hst) (by omega)
                  have HGO := Lib.hid hgo
                  have hne : i1 ≠ j1 := fun e => by have h1 := HL.out; rw [HX1.out, e, ← HX2.out, hl] at h1; cases h1
                  have hgt : decide ((j1 : Int) < (i1 : Int)) = false := by simp; omega
                  have c1 := HRK.out.cell (t := i1) (by omega)
                  rw [← HX1.out] at c1
                  have f1 := HRK.out.free i1
                  have f2 := HRK.out.free j1
                  have hi1s : (i1 : Int) < (d.size : Int) := by omega
                  clear hst hgo
                  go_wp2_with fail
                  go_quiet (first | (go_at_call 93; refine Calls.quiet_of_same (less_any _ _ _)))
                  go_wp2_with fail
                  go_region
                  go_wp2_with fail
                  go_roundg (g0 - 1)
                  case measure => have := HG.out; omega
                  case rel => exact ⟨i1 + 1, j1 - 1, swp dk i1 j1, by go_num, by congr 1; omega, by have := HG.out; omega, by omega, by omega, by omega, by rw [size_swp']; exact hsk, HRK.out.swapTo (by first | exact (Chg.drewN _ _ _).then (Chg.drewN _ _ _) | exact Chg.drewN _ _ _) (by omega) (by omega) HX2.out HX1.out, HCK.out.then (Chg.swapTo (by first | exact (Chg.drewN _ _ _).then (Chg.drewN _ _ _) | exact Chg.drewN _ _ _) _ _ _ _ _), by rw [← HS.out, HGO.out]⟩
                · go_wp2_with fail
                  go_quiet (first | (go_at_call 93; refine Calls.quiet_of_same (less_any _ _ _)))
                  go_wp2_with fail
                  go_roundg (gk - 1)
                  case measure => have := HG2.out; omega
                  case rel => exact ⟨j1 - 1, by congr 1; omega, by have := HG2.out; omega, by omega, by omega, HRK.out.chg (Chg.drewN _ _ (fun _ => False)) (by simp), HCK.out.then (Chg.drewN _ _ _), by rw [← HV.out, scanDown_go (by omega) hle2 (by show ltInt pa dk[j1]! = true; rw [← HX2.out, hl])]⟩
              · have hst : scanDown (fun x => ltInt pa x) dk i1 j = j1 := by rw [← HV.out]; exact scanDown_stop (fun h => absurd h hle2)
                have hgo := peq_stop (a := a) (d := dk) (i := i) (j := j) (i2 := i1) (j2 := j1) (by rw [← HPA.out]; exact HST.out) (by rw [← HPA.out]; exact hst) (by omega)
                have HGO := Lib.hid hgo
                have hdl : decide ((i1 : Int) ≤ (j1 : Int)) = false := by simp; omega
                have hgt : decide ((j1 : Int) < (i1 : Int)) = true := by simp; omega
                have hDe : D = (i1, dk) := by rw [← HS.out, HGO.out]
                have HDE := Lib.hid hDe
                clear hst hgo hDe
                go_wp2_with fail
                go_quiet (first | (go_at_call 93; refine Calls.quiet_of_same (less_any _ _ _)))
                go_wp2_with fail
                refine bodyPost_ret (results_tmp rfl _ _ _) rfl ⟨by rw [HDE.out]; rfl, by rw [HDE.out]; exact HRK.out.chg (Chg.drewN _ _ (fun _ => False)) (by simp), HCK.out.then (Chg.drewN _ _ _)⟩
        · have hst : scanUp (fun x => !ltInt pa x) dk j i = i1 := by rw [← HU.out]; exact scanUp_stop (fun h => absurd h hle)
          have hst2 : scanDown (fun x => ltInt pa x) dk i1 j = j := scanDown_stop (fun h => absurd h hle)
          have hgo := peq_stop (a := a) (d := dk) (i := i) (j := j) (i2 := i1) (j2 := j) (by rw [← HPA.out]; exact hst) (by rw [← HPA.out]; exact hst2) (by omega)
          have hDe : D = (i1, dk) := by rw [← HS.out, hgo]
          have HDE := Lib.hid hDe
          have hdl : decide ((i1 : Int) ≤ (j : Int)) = false := by simp; omega
          have hgt : decide ((j : Int) < (i1 : Int)) = true := by simp; omega
          clear hst hst2 hgo hDe
          go_wp2_with fail
          go_quiet (first | (go_at_call 93; refine Calls.quiet_of_same (less_any _ _ _)))
          go_wp2_with fail
          refine wp_loop_rounds 1 ?_
          rw [rounds_succ]
          go_wp2_with fail
          go_quiet (first | (go_at_call 93; refine Calls.quiet_of_same (less_any _ _ _)))
          go_wp2_with fail
          refine bodyPost_ret (results_tmp rfl _ _ _) rfl ⟨by rw [HDE.out]; rfl, by rw [HDE.out]; exact HRK.out.chg (by first | exact Chg.drewN _ _ (fun _ => False) | exact (Chg.drewN _ _ (fun _ => False)).then (Chg.drewN _ _ _)) (by simp), HCK.out.then (by first | exact Chg.drewN _ _ _ | exact (Chg.drewN _ _ _).then (Chg.drewN _ _ _))⟩
  · go_enter Try.func94, Try.ntmps94
    go_wp2_with fail
    go_region
    go_wp2_with fail
    go_loopg [9, 10] (b - 1 + 1 - (a + 1) + 1) (fun n vi vj wr => ∃ (i j : Nat) (dk : Array Int), vi = .int .i64 i ∧ vj = .int .i64 j ∧ j + 2 ≤ n + i ∧ a < i ∧ i ≤ j + 1 ∧ j < b ∧ dk.size = d.size ∧ RowV wr g e dk rest ∧ Chg w wr (fun i => i = g) ∧ partEqLoop ltInt a i j dk = D)
    case atStart => exact ⟨a + 1, b - 1, swp d a pv, by go_num, by congr 1; omega, by omega, by omega, by omega, by omega, by rw [size_swp'], (HR.out.swapTo (Chg.refl w _) (by omega) (by omega) HY.out HX.out).chg (Chg.drew _ (fun _ => False)) (by simp), (Chg.swapTo (Chg.refl w _) _ _ _ _ _).then (Chg.drew _ _), HD.out⟩
    case round =>
      clear ca cp fa fp
      obtain ⟨i, j, dk, rfl, rfl, hg, hai, hij, hjb, hsk, hrk, hck, hS⟩ := hrel
      have HS := Lib.hid hS; have HRK := Lib.hid hrk; have HCK := Lib.hid hck; have HG := Lib.hid hg
      clear hS hrk hck hg
      obtain ⟨wo, rfl⟩ : ∃ wo : World, wo = wr := ⟨_, rfl⟩
      obtain ⟨g0, rfl⟩ : ∃ g0 : Nat, g0 = gk := ⟨_, rfl⟩
      have hal : a < dk.size := by omega
      obtain ⟨pa, hpa⟩ : ∃ x, x = dk[a]! := ⟨_, rfl⟩
      have HPA := Lib.hid hpa
      clear hpa
      go_wp2_with fail
      go_loopg [9] (j + 2 - i) (fun n vi wr => ∃ (i1 : Nat), vi = .int .i64 i1 ∧ j + 2 ≤ n + i1 ∧ i ≤ i1 ∧ i1 ≤ j + 1 ∧ RowV wr g e dk rest ∧ Chg w wr (fun i => i = g) ∧ scanUp (fun x => !ltInt pa x) dk j i1 = scanUp (fun x => !ltInt pa x) dk j i)
      case atStart => exact ⟨i, rfl, by omega, by omega, hij, HRK.out, HCK.out, rfl⟩
      case round =>
        clear HRK HCK
        obtain ⟨i1, rfl, hg1, hii, hi1j, hrk, hck, hU⟩ := hrel
        have HU := Lib.hid hU; have HRK := Lib.hid hrk; have HCK := Lib.hid hck; have HG1 := Lib.hid hg1
        clear hU hrk hck hg1
        have ca := HRK.out.cell (t := a) hal
        rw [← HPA.out] at ca
        by_cases hle : i1 ≤ j
        · have c1 := HRK.out.cell (t := i1) (by omega)
          obtain ⟨x1, hx1⟩ : ∃ x, x = dk[i1]! := ⟨_, rfl⟩
          rw [← hx1] at c1
          have HX1 := Lib.hid hx1
          clear hx1
          have hdl : decide ((i1 : Int) ≤ (j : Int)) = true := by simp; omega
          have hi1s : (i1 : Int) < (d.size : Int) := by omega
          cases hl : ltInt pa x1
          · go_wp2_with fail
            go_quiet (first | (go_at_call 93; refine Calls.quiet_of_same (less_any _ _ _)))
            go_wp2_with fail
            go_roundg (gk - 1)
            case measure => have := HG1.out; omega
            case rel => exact ⟨i1 + 1, by go_num, by have := HG1.out; omega, by omega, by omega, HRK.out.chg (Chg.drewN _ _ (fun _ => False)) (by simp), HCK.out.then (Chg.drewN _ _ _), by rw [← HU.out, scanUp_go hle (by show (!ltInt pa dk[i1]!) = true; rw [← HX1.out, hl]; rfl)]⟩
          · have hst : scanUp (fun x => !ltInt pa x) dk j i = i1 := by rw [← HU.out]; exact scanUp_stop (fun _ => by show (!ltInt pa dk[i1]!) = false; rw [← HX1.out, hl]; rfl)
            have HST := Lib.hid hst
            clear hst
            go_wp2_with fail
            go_quiet (first | (go_at_call 93; refine Calls.quiet_of_same (less_any _ _ _)))
            go_wp2_with fail
            have hrq := HRK.out.chg (Chg.drewN wr nq (fun _ => False)) (by simp)
            have hcq := HCK.out.then (Chg.drewN wr nq _)
            have HRQ := Lib.hid hrq; have HCQ := Lib.hid hcq; have HL := Lib.hid hl
            clear hrq hcq HRK HCK HG1 ca c1 hl hdl hi1s
            go_loopg [10] (j + 2 - i1) (fun n vj wr => ∃ (j1 : Nat), vj = .int .i64 j1 ∧ j1 + 1 ≤ n + i1 ∧ i1 ≤ j1 + 1 ∧ j1 ≤ j ∧ RowV wr g e dk rest ∧ Chg w wr (fun i => i = g) ∧ scanDown (fun x => ltInt pa x) dk i1 j1 = scanDown (fun x => ltInt pa x) dk i1 j)
            case atStart => exact ⟨j, rfl, by omega, by omega, Nat.le_refl _, HRQ.out, HCQ.out, rfl⟩
            case round =>
              clear HRQ HCQ
              obtain ⟨j1, rfl, hg2, hij1, hjj, hrk, hck, hV⟩ := hrel
              have HV := Lib.hid hV; have HRK := Lib.hid hrk; have HCK := Lib.hid hck; have HG2 := Lib.hid hg2
              clear hV hrk hck hg2
              have ca := HRK.out.cell (t := a) hal
              rw [← HPA.out] at ca
              by_cases hle2 : i1 ≤ j1
              · have c2 := HRK.out.cell (t := j1) (by omega)
                obtain ⟨x2, hx2⟩ : ∃ x, x = dk[j1]! := ⟨_, rfl⟩
                rw [← hx2] at c2
                have HX2 := Lib.hid hx2
                clear hx2
                have hdl : decide ((i1 : Int) ≤ (j1 : Int)) = true := by simp; omega
                have hj1s : (j1 : Int) < (d.size : Int) := by omega
                cases hl : ltInt pa x2
                · have hst : scanDown (fun x => ltInt pa x) dk i1 j = j1 := by rw [← HV.out]; exact scanDown_stop (fun _ => by show ltInt pa dk[j1]! = false; rw [← HX2.out, hl])
                  have hgo := peq_go (a := a) (d := dk) (i := i) (j := j) (i2 := i1) (j2 := j1) (by rw [← HPA.out]; exact HST.out) (by rw [← HPA.out]; exact hst) (by omega)
                  have HGO := Lib.hid hgo
                  have hne : i1 ≠ j1 := fun e => by have h1 := HL.out; rw [HX1.out, e, ← HX2.out, hl] at h1; cases h1
                  have hgt : decide ((j1 : Int) < (i1 : Int)) = false := by simp; omega
                  have c1 := HRK.out.cell (t := i1) (by omega)
                  rw [← HX1.out] at c1
                  have f1 := HRK.out.free i1
                  have f2 := HRK.out.free j1
                  have hi1s : (i1 : Int) < (d.size : Int) := by omega
                  clear hst hgo
                  go_wp2_with fail
                  go_quiet (first | (go_at_call 93; refine Calls.quiet_of_same (less_any _ _ _)))
                  go_wp2_with fail
                  go_region
                  go_wp2_with fail
                  go_roundg (g0 - 1)
                  case measure => have := HG.out; omega
                  case rel => exact ⟨i1 + 1, j1 - 1, swp dk i1 j1, by go_num, by congr 1; omega, by have := HG.out; omega, by omega, by omega, by omega, by rw [size_swp']; exact hsk, HRK.out.swapTo (by first | exact (Chg.drewN _ _ _).then (Chg.drewN _ _ _) | exact Chg.drewN _ _ _) (by omega) (by omega) HX2.out HX1.out, HCK.out.then (Chg.swapTo (by first | exact (Chg.drewN _ _ _).then (Chg.drewN _ _ _) | exact Chg.drewN _ _ _) _ _ _ _ _), by rw [← HS.out, HGO.out]⟩
                · go_wp2_with fail
                  go_quiet (first | (go_at_call 93; refine Calls.quiet_of_same (less_any _ _ _)))
                  go_wp2_with fail
                  go_roundg (gk - 1)
                  case measure => have := HG2.out; omega
                  case rel => exact ⟨j1 - 1, by congr 1; omega, by have := HG2.out; omega, by omega, by omega, HRK.out.chg (Chg.drewN _ _ (fun _ => False)) (by simp), HCK.out.then (Chg.drewN _ _ _), by rw [← HV.out, scanDown_go (by omega) hle2 (by show ltInt pa dk[j1]! = true; rw [← HX2.out, hl])]⟩
              · have hst : scanDown (fun x => ltInt pa x) dk i1 j = j1 := by rw [← HV.out]; exact scanDown_stop (fun h => absurd h hle2)
                have hgo := peq_stop (a := a) (d := dk) (i := i) (j := j) (i2 := i1) (j2 := j1) (by rw [← HPA.out]; exact HST.out) (by rw [← HPA.out]; exact hst) (by omega)
                have HGO := Lib.hid hgo
                have hdl : decide ((i1 : Int) ≤ (j1 : Int)) = false := by simp; omega
                have hgt : decide ((j1 : Int) < (i1 : Int)) = true := by simp; omega
                have hDe : D = (i1, dk) := by rw [← HS.out, HGO.out]
                have HDE := Lib.hid hDe
                clear hst hgo hDe
                go_wp2_with fail
                go_quiet (first | (go_at_call 93; refine Calls.quiet_of_same (less_any _ _ _)))
                go_wp2_with fail
                refine bodyPost_ret (results_tmp rfl _ _ _) rfl ⟨by rw [HDE.out]; rfl, by rw [HDE.out]; exact HRK.out.chg (Chg.drewN _ _ (fun _ => False)) (by simp), HCK.out.then (Chg.drewN _ _ _)⟩
        · have hst : scanUp (fun x => !ltInt pa x) dk j i = i1 := by rw [← HU.out]; exact scanUp_stop (fun h => absurd h hle)
          have hst2 : scanDown (fun x => ltInt pa x) dk i1 j = j := scanDown_stop (fun h => absurd h hle)
          have hgo := peq_stop (a := a) (d := dk) (i := i) (j := j) (i2 := i1) (j2 := j) (by rw [← HPA.out]; exact hst) (by rw [← HPA.out]; exact hst2) (by omega)
          have hDe : D = (i1, dk) := by rw [← HS.out, hgo]
          have HDE := Lib.hid hDe
          have hdl : decide ((i1 : Int) ≤ (j : Int)) = false := by simp; omega
          have hgt : decide ((j : Int) < (i1 : Int)) = true := by simp; omega
          clear hst hst2 hgo hDe
          go_wp2_with fail
          go_quiet (first | (go_at_call 93; refine Calls.quiet_of_same (less_any _ _ _)))
          go_wp2_with fail
          refine wp_loop_rounds 1 ?_
          rw [rounds_succ]
          go_wp2_with fail
          go_quiet (first | (go_at_call 93; refine Calls.quiet_of_same (less_any _ _ _)))
          go_wp2_with fail
          refine bodyPost_ret (results_tmp rfl _ _ _) rfl ⟨by rw [HDE.out]; rfl, by rw [HDE.out]; exact HRK.out.chg (by first | exact Chg.drewN _ _ (fun _ => False) | exact (Chg.drewN _ _ (fun _ => False)).then (Chg.drewN _ _ _)) (by simp), HCK.out.then (by first | exact Chg.drewN _ _ _ | exact (Chg.drewN _ _ _).then (Chg.drewN _ _ _))⟩
end Go.Proofs.Ytcgccoigjcdjeaa
