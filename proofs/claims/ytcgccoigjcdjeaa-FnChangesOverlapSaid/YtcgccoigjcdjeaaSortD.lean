/- The library's sort at numbers: partitionOrdered. Condition: a slice at the head of its block, of fewer than 2^60 numbers. -/
import Derived.Test.YtcgccoigjcdjeaaSortC
namespace Go.Proofs.Ytcgccoigjcdjeaa
open Go.RowKit Go.Sort

theorem part_stop {a b pv i2 j2 : Nat} {d d0 : Array Int} (h0 : d0 = swp d a pv) (h1 : scanUp (fun x => ltInt x d0[a]!) d0 (b - 1) (a + 1) = i2) (h2 : scanDown (fun x => !ltInt x d0[a]!) d0 i2 (b - 1) = j2) (h : i2 > j2) : partition ltInt d a b pv = (j2, true, swp d0 j2 a) := by
  subst h0
  unfold partition
  simp only [h1, h2]
  rw [if_pos h]
theorem part_go {a b pv i2 j2 : Nat} {d d0 : Array Int} (h0 : d0 = swp d a pv) (h1 : scanUp (fun x => ltInt x d0[a]!) d0 (b - 1) (a + 1) = i2) (h2 : scanDown (fun x => !ltInt x d0[a]!) d0 i2 (b - 1) = j2) (h : ¬ i2 > j2) : partition ltInt d a b pv = ((partLoop ltInt a (i2 + 1) (j2 - 1) (swp d0 i2 j2)).1, false, swp (partLoop ltInt a (i2 + 1) (j2 - 1) (swp d0 i2 j2)).2 (partLoop ltInt a (i2 + 1) (j2 - 1) (swp d0 i2 j2)).1 a) := by
  subst h0
  unfold partition
  simp only [h1, h2]
  rw [if_neg h]
theorem pl_stop {a i j i2 j2 : Nat} {d : Array Int} (h1 : scanUp (fun x => ltInt x d[a]!) d j i = i2) (h2 : scanDown (fun x => !ltInt x d[a]!) d i2 j = j2) (h : i2 > j2) : partLoop ltInt a i j d = (j2, d) := by
  rw [partLoop_eq, h1, h2, if_pos h]
theorem pl_go {a i j i2 j2 : Nat} {d : Array Int} (h1 : scanUp (fun x => ltInt x d[a]!) d j i = i2) (h2 : scanDown (fun x => !ltInt x d[a]!) d i2 j = j2) (h : ¬ i2 > j2) : partLoop ltInt a i j d = partLoop ltInt a (i2 + 1) (j2 - 1) (swp d i2 j2) := by
  rw [partLoop_eq, h1, h2, if_neg h]
/-- what the swap of a place with itself, of two places, leaves -/
theorem RowV.selfTo {w w' : World} {g e : Nat} {d : Array Int} {rest : List Value} {j : Nat} {x : Int} (h : RowV w g e d rest) (c : Chg w w' (fun _ => False)) (hj : j < d.size) (hx : x = d[j]!) :
    RowV ((w'.setCell ⟨g, j, none⟩ (.int .u64 x)).setCell ⟨g, j, none⟩ (.int .u64 x)) g e (swp d j j) rest := h.swapTo c hj hj hx hx

set_option maxRecDepth 100000 in
set_option maxHeartbeats 6400000 in
theorem part_any (g e cap a b pv : Nat) (d : Array Int) (rest : List Value) (w : World) (hr : RowV w g e d rest) (h1 : a ≤ pv) (h2 : pv < b) (hb : b ≤ d.size) (hsz : d.size < 1152921504606846976) :
    Calls Try.prog 95 #[.slice (some ⟨g, 0, none⟩) d.size cap, .int .i64 a, .int .i64 b, .int .i64 pv] w fun e' w' => e' = .returned (.tuple #[.int .i64 (partition ltInt d a b pv).1, .bool (partition ltInt d a b pv).2.1]) ∧ RowV w' g e (partition ltInt d a b pv).2.2 rest ∧ Chg w w' (fun i => i = g) := by
  have HR := Lib.hid hr; clear hr
  obtain ⟨D, hD⟩ : ∃ D, D = partition ltInt d a b pv := ⟨_, rfl⟩
  rw [← hD]
  have HD := Lib.hid hD
  clear hD
  have ca := HR.out.cell (t := a) (by omega)
  have cp := HR.out.cell (t := pv) (by omega)
  have fa := HR.out.free a
  have fp := HR.out.free pv
  obtain ⟨x, hx⟩ : ∃ x, x = d[a]! := ⟨_, rfl⟩
  obtain ⟨y, hy⟩ : ∃ y, y = d[pv]! := ⟨_, rfl⟩
  rw [← hx] at ca; rw [← hy] at cp
  have HX := Lib.hid hx; have HY := Lib.hid hy
  clear hx hy
  have hai : (a : Int) < (d.size : Int) := by omega
  have hpi : (pv : Int) < (d.size : Int) := by omega
  have hxy : a = pv → x = y := fun e => by rw [HX.out, HY.out, e]
  have HXY := Lib.hid hxy; clear hxy
  obtain ⟨j0, hj0⟩ : ∃ j0 : Nat, j0 = b - 1 := ⟨_, rfl⟩
  have hj0I : (b : Int) - 1 = (j0 : Int) := by omega
  have hj0b : j0 < b := by omega
  have haj0 : a ≤ j0 := by omega
  obtain ⟨d0, hd0⟩ : ∃ d0, d0 = swp d a pv := ⟨_, rfl⟩
  have hds : d0.size = d.size := by rw [hd0, size_swp']
  obtain ⟨pa, hpa⟩ : ∃ x, x = d0[a]! := ⟨_, rfl⟩
  have HJ0 := Lib.hid hj0; have HD0 := Lib.hid hd0; have HPA0 := Lib.hid hpa
  clear hj0 hd0 hpa
  by_cases hap : a = pv
  · have := HXY.out hap
    subst hap
    subst this
    clear cp fp hpi
    go_enter Try.func95, Try.ntmps95
    go_wp2_with fail
    go_region
    go_wp2_with fail
    go_loopg [10] (j0 + 2) (fun n vi wr => ∃ (i1 : Nat), vi = .int .i64 i1 ∧ j0 + 2 ≤ n + i1 ∧ a + 1 ≤ i1 ∧ i1 ≤ j0 + 1 ∧ RowV wr g e d0 rest ∧ Chg w wr (fun i => i = g) ∧ scanUp (fun x => ltInt x pa) d0 j0 i1 = scanUp (fun x => ltInt x pa) d0 j0 (a + 1))
    case atStart => exact ⟨a + 1, by go_num, by omega, by omega, by omega, by rw [HD0.out]; exact (HR.out.swapTo (Chg.refl w _) (by omega) (by omega) HX.out HX.out).chg (Chg.drew _ (fun _ => False)) (by simp), (Chg.swapTo (Chg.refl w _) _ _ _ _ _).then (Chg.drew _ _), rfl⟩
    case round =>
      clear ca fa
      obtain ⟨i1, rfl, hg1, hii, hi1j, hrk, hck, hU⟩ := hrel
      have HU := Lib.hid hU; have HRK := Lib.hid hrk; have HCK := Lib.hid hck; have HG1 := Lib.hid hg1; have HPA := Lib.hid HPA0.out
      clear hU hrk hck hg1
      obtain ⟨g1, rfl⟩ : ∃ g1 : Nat, g1 = gk := ⟨_, rfl⟩
      have hal : a < d0.size := by omega
      have ca := HRK.out.cell (t := a) hal
      rw [← HPA.out] at ca
      by_cases hle : i1 ≤ j0
      · have c1 := HRK.out.cell (t := i1) (by omega)
        obtain ⟨x1, hx1⟩ : ∃ x, x = d0[i1]! := ⟨_, rfl⟩
        rw [← hx1] at c1
        have HX1 := Lib.hid hx1
        clear hx1
        have hdl : decide ((i1 : Int) ≤ (j0 : Int)) = true := by simp; omega
        have hi1s : (i1 : Int) < (d.size : Int) := by omega
        cases hl : ltInt x1 pa
        · have hst : scanUp (fun x => ltInt x pa) d0 j0 (a + 1) = i1 := by rw [← HU.out]; exact scanUp_stop (fun _ => by show ltInt d0[i1]! pa = false; rw [← HX1.out, hl])
          have HST := Lib.hid hst
          clear hst
          go_wp2_with fail
          go_quiet (first | (go_at_call 93; refine Calls.quiet_of_same (less_any _ _ _)) | (go_at_call 93; exact quiet_add_same (less_any _ _ _)))
          go_wp2_with fail
          have hrq := HRK.out.chg (Chg.drewN wr nq (fun _ => False)) (by simp)
          have hcq := HCK.out.then (Chg.drewN wr nq _)
          have HRQ := Lib.hid hrq; have HCQ := Lib.hid hcq; have HL := Lib.hid hl
          clear hrq hcq HRK HCK HG1 ca c1 hl hdl hi1s
          go_loopg [11] (j0 + 2 - i1) (fun n vj wr => ∃ (j1 : Nat), vj = .int .i64 j1 ∧ j1 + 1 ≤ n + i1 ∧ i1 ≤ j1 + 1 ∧ j1 ≤ j0 ∧ RowV wr g e d0 rest ∧ Chg w wr (fun i => i = g) ∧ scanDown (fun x => !ltInt x pa) d0 i1 j1 = scanDown (fun x => !ltInt x pa) d0 i1 j0)
          case atStart => exact ⟨j0, rfl, by omega, by omega, Nat.le_refl _, HRQ.out, HCQ.out, rfl⟩
          case round =>
            clear HRQ HCQ
            obtain ⟨j1, rfl, hg2, hij1, hjj, hrk, hck, hV⟩ := hrel
            have HV := Lib.hid hV; have HRK := Lib.hid hrk; have HCK := Lib.hid hck; have HG2 := Lib.hid hg2
            clear hV hrk hck hg2
            have ca := HRK.out.cell (t := a) hal
            rw [← HPA.out] at ca
            by_cases hle2 : i1 ≤ j1
            · have c2 := HRK.out.cell (t := j1) (by omega)
              obtain ⟨x2, hx2⟩ : ∃ x, x = d0[j1]! := ⟨_, rfl⟩
              rw [← hx2] at c2
              have HX2 := Lib.hid hx2
              clear hx2
              have hdl : decide ((i1 : Int) ≤ (j1 : Int)) = true := by simp; omega
              have hj1s : (j1 : Int) < (d.size : Int) := by omega
              cases hl : ltInt x2 pa
              · go_wp2_with fail
                go_quiet (first | (go_at_call 93; refine Calls.quiet_of_same (less_any _ _ _)) | (go_at_call 93; exact quiet_add_same (less_any _ _ _)))
                go_wp2_with fail
                go_roundg (gk - 1)
                case measure => have := HG2.out; omega
                case rel => exact ⟨j1 - 1, by congr 1; omega, by have := HG2.out; omega, by omega, by omega, HRK.out.chg (Chg.drewN _ _ (fun _ => False)) (by simp), HCK.out.then (Chg.drewN _ _ _), by rw [← HV.out, scanDown_go (by omega) hle2 (by show (!ltInt d0[j1]! pa) = true; rw [← HX2.out, hl]; rfl)]⟩
              · have hst : scanDown (fun x => !ltInt x pa) d0 i1 j0 = j1 := by rw [← HV.out]; exact scanDown_stop (fun _ => by show (!ltInt d0[j1]! pa) = false; rw [← HX2.out, hl]; rfl)
                have hgo := part_go (a := a) (b := b) (pv := a) (d := d) (d0 := d0) (i2 := i1) (j2 := j1) HD0.out (by rw [← HJ0.out, ← HPA.out]; exact HST.out) (by rw [← HJ0.out, ← HPA.out]; exact hst) (by omega)
                rw [← HD.out] at hgo
                have HGO := Lib.hid hgo
                have hne : i1 ≠ j1 := fun e => by have h1 := HL.out; rw [HX1.out, e, ← HX2.out, hl] at h1; cases h1
                have hgt : decide ((j1 : Int) < (i1 : Int)) = false := by simp; omega
                have c1 := HRK.out.cell (t := i1) (by omega)
                rw [← HX1.out] at c1
                have f1 := HRK.out.free i1
                have f2 := HRK.out.free j1
                have hi1s : (i1 : Int) < (d.size : Int) := by omega
                clear hst hgo
                go_wp2_with fail
                go_quiet (first | (go_at_call 93; refine Calls.quiet_of_same (less_any _ _ _)) | (go_at_call 93; exact quiet_add_same (less_any _ _ _)))
                go_wp2_with fail
                go_region
                go_wp2_with fail
                obtain ⟨R, hR⟩ : ∃ R, R = partLoop ltInt a (i1 + 1) (j1 - 1) (swp d0 i1 j1) := ⟨_, rfl⟩
                have hDR := HGO.out
                rw [← hR] at hDR
                have HDR := Lib.hid hDR; have HRR := Lib.hid hR.symm
                clear hR hDR
                go_loopg [10, 11] (j1 + 2) (fun n vi vj wr => ∃ (i j : Nat) (dk : Array Int), vi = .int .i64 i ∧ vj = .int .i64 j ∧ j + 2 ≤ n + i ∧ a < i ∧ i ≤ j + 1 ∧ j < b ∧ dk.size = d.size ∧ RowV wr g e dk rest ∧ Chg w wr (fun i => i = g) ∧ partLoop ltInt a i j dk = R)
                case atStart => exact ⟨i1 + 1, j1 - 1, swp d0 i1 j1, by go_num, by congr 1; omega, by omega, by omega, by omega, by omega, by rw [size_swp']; exact hds, HRK.out.swapTo (by first | exact (Chg.drewN _ _ _).then (Chg.drewN _ _ _) | exact Chg.drewN _ _ _) (by omega) (by omega) HX2.out HX1.out, HCK.out.then (Chg.swapTo (by first | exact (Chg.drewN _ _ _).then (Chg.drewN _ _ _) | exact Chg.drewN _ _ _) _ _ _ _ _), HRR.out⟩
                case round =>
                  clear HRK HCK HPA HST HU HV HG2 HX1 HX2 HGO HL ca c1 c2 f1 f2 hl hle hle2 hne hgt hi1s hj1s hdl hal
                  obtain ⟨i, j, dk, rfl, rfl, hg, hai2, hij, hjb, hsk, hrk, hck, hS⟩ := hrel
                  have HS := Lib.hid hS; have HRK := Lib.hid hrk; have HCK := Lib.hid hck; have HG := Lib.hid hg
                  clear hS hrk hck hg
                  obtain ⟨wo, rfl⟩ : ∃ wo : World, wo = wr := ⟨_, rfl⟩
                  obtain ⟨g0, rfl⟩ : ∃ g0 : Nat, g0 = gk := ⟨_, rfl⟩
                  clear HPA0
                  obtain ⟨pa, hpa⟩ : ∃ x, x = dk[a]! := ⟨_, rfl⟩
                  have HPA0 := Lib.hid hpa
                  clear hpa
                  go_wp2_with fail
                  go_loopg [10] (j + 2 - i) (fun n vi wr => ∃ (i1 : Nat), vi = .int .i64 i1 ∧ j + 2 ≤ n + i1 ∧ i ≤ i1 ∧ i1 ≤ j + 1 ∧ RowV wr g e dk rest ∧ Chg w wr (fun i => i = g) ∧ scanUp (fun x => ltInt x pa) dk j i1 = scanUp (fun x => ltInt x pa) dk j i)
                  case atStart => exact ⟨i, rfl, by omega, by omega, hij, HRK.out, HCK.out, rfl⟩
                  case round =>
                    clear HRK HCK
                    obtain ⟨i1, rfl, hg1, hii, hi1j, hrk, hck, hU⟩ := hrel
                    have HU := Lib.hid hU; have HRK := Lib.hid hrk; have HCK := Lib.hid hck; have HG1 := Lib.hid hg1; have HPA := Lib.hid HPA0.out
                    clear hU hrk hck hg1
                    have hal : a < dk.size := by omega
                    have ca := HRK.out.cell (t := a) hal
                    rw [← HPA.out] at ca
                    by_cases hle : i1 ≤ j
                    · have c1 := HRK.out.cell (t := i1) (by omega)
                      obtain ⟨x1, hx1⟩ : ∃ x, x = dk[i1]! := ⟨_, rfl⟩
                      rw [← hx1] at c1
                      have HX1 := Lib.hid hx1
                      clear hx1
                      have hdl : decide ((i1 : Int) ≤ (j : Int)) = true := by simp; omega
                      have hi1s : (i1 : Int) < (d.size : Int) := by omega
                      cases hl : ltInt x1 pa
                      · have hst : scanUp (fun x => ltInt x pa) dk j i = i1 := by rw [← HU.out]; exact scanUp_stop (fun _ => by show ltInt dk[i1]! pa = false; rw [← HX1.out, hl])
                        have HST := Lib.hid hst
                        clear hst
                        go_wp2_with fail
                        go_quiet (first | (go_at_call 93; refine Calls.quiet_of_same (less_any _ _ _)) | (go_at_call 93; exact quiet_add_same (less_any _ _ _)))
                        go_wp2_with fail
                        have hrq := HRK.out.chg (Chg.drewN wr nq (fun _ => False)) (by simp)
                        have hcq := HCK.out.then (Chg.drewN wr nq _)
                        have HRQ := Lib.hid hrq; have HCQ := Lib.hid hcq; have HL := Lib.hid hl
                        clear hrq hcq HRK HCK HG1 ca c1 hl hdl hi1s
                        go_loopg [11] (j + 2 - i1) (fun n vj wr => ∃ (j1 : Nat), vj = .int .i64 j1 ∧ j1 + 1 ≤ n + i1 ∧ i1 ≤ j1 + 1 ∧ j1 ≤ j ∧ RowV wr g e dk rest ∧ Chg w wr (fun i => i = g) ∧ scanDown (fun x => !ltInt x pa) dk i1 j1 = scanDown (fun x => !ltInt x pa) dk i1 j)
                        case atStart => exact ⟨j, rfl, by omega, by omega, Nat.le_refl _, HRQ.out, HCQ.out, rfl⟩
                        case round =>
                          clear HRQ HCQ
                          obtain ⟨j1, rfl, hg2, hij1, hjj, hrk, hck, hV⟩ := hrel
                          have HV := Lib.hid hV; have HRK := Lib.hid hrk; have HCK := Lib.hid hck; have HG2 := Lib.hid hg2
                          clear hV hrk hck hg2
                          have ca := HRK.out.cell (t := a) hal
                          rw [← HPA.out] at ca
                          by_cases hle2 : i1 ≤ j1
                          · have c2 := HRK.out.cell (t := j1) (by omega)
                            obtain ⟨x2, hx2⟩ : ∃ x, x = dk[j1]! := ⟨_, rfl⟩
                            rw [← hx2] at c2
                            have HX2 := Lib.hid hx2
                            clear hx2
                            have hdl : decide ((i1 : Int) ≤ (j1 : Int)) = true := by simp; omega
                            have hj1s : (j1 : Int) < (d.size : Int) := by omega
                            cases hl : ltInt x2 pa
                            · go_wp2_with fail
                              go_quiet (first | (go_at_call 93; refine Calls.quiet_of_same (less_any _ _ _)) | (go_at_call 93; exact quiet_add_same (less_any _ _ _)))
                              go_wp2_with fail
                              go_roundg (gk - 1)
                              case measure => have := HG2.out; omega
                              case rel => exact ⟨j1 - 1, by congr 1; omega, by have := HG2.out; omega, by omega, by omega, HRK.out.chg (Chg.drewN _ _ (fun _ => False)) (by simp), HCK.out.then (Chg.drewN _ _ _), by rw [← HV.out, scanDown_go (by omega) hle2 (by show (!ltInt dk[j1]! pa) = true; rw [← HX2.out, hl]; rfl)]⟩
                            · have hst : scanDown (fun x => !ltInt x pa) dk i1 j = j1 := by rw [← HV.out]; exact scanDown_stop (fun _ => by show (!ltInt dk[j1]! pa) = false; rw [← HX2.out, hl]; rfl)
                              have hgo := pl_go (a := a) (d := dk) (i := i) (j := j) (i2 := i1) (j2 := j1) (by rw [← HPA.out]; exact HST.out) (by rw [← HPA.out]; exact hst) (by omega)
                              have HGO := Lib.hid hgo
                              have hne : i1 ≠ j1 := fun e => by have h1 := HL.out; rw [HX1.out, e, ← HX2.out, hl] at h1; cases h1
                              have hgt : decide ((j1 : Int) < (i1 : Int)) = false := by simp; omega
                              have c1 := HRK.out.cell (t := i1) (by omega)
                              rw [← HX1.out] at c1
                              have f1 := HRK.out.free i1
                              have f2 := HRK.out.free j1
                              have hi1s : (i1 : Int) < (d.size : Int) := by omega
                              clear hst hgo
                              go_wp2_with fail
                              go_quiet (first | (go_at_call 93; refine Calls.quiet_of_same (less_any _ _ _)) | (go_at_call 93; exact quiet_add_same (less_any _ _ _)))
                              go_wp2_with fail
                              go_region
                              go_wp2_with fail
                              go_roundg (g0 - 1)
                              case measure => have := HG.out; omega
                              case rel => exact ⟨i1 + 1, j1 - 1, swp dk i1 j1, by go_num, by congr 1; omega, by have := HG.out; omega, by omega, by omega, by omega, by rw [size_swp']; exact hsk, HRK.out.swapTo (by first | exact (Chg.drewN _ _ _).then (Chg.drewN _ _ _) | exact Chg.drewN _ _ _) (by omega) (by omega) HX2.out HX1.out, HCK.out.then (Chg.swapTo (by first | exact (Chg.drewN _ _ _).then (Chg.drewN _ _ _) | exact Chg.drewN _ _ _) _ _ _ _ _), by rw [← HS.out, HGO.out]⟩
                          · have hst : scanDown (fun x => !ltInt x pa) dk i1 j = j1 := by rw [← HV.out]; exact scanDown_stop (fun h => absurd h hle2)
                            have hgo := pl_stop (a := a) (d := dk) (i := i) (j := j) (i2 := i1) (j2 := j1) (by rw [← HPA.out]; exact HST.out) (by rw [← HPA.out]; exact hst) (by omega)
                            have hDe : D = (j1, false, swp dk j1 a) := by rw [HDR.out, ← HS.out, hgo]
                            clear hgo
                            have HDE := Lib.hid hDe
                            have hdl : decide ((i1 : Int) ≤ (j1 : Int)) = false := by simp; omega
                            have hgt : decide ((j1 : Int) < (i1 : Int)) = true := by simp; omega
                            clear hst hDe
                            go_wp2_with fail
                            go_quiet (first | (go_at_call 93; refine Calls.quiet_of_same (less_any _ _ _)) | (go_at_call 93; exact quiet_add_same (less_any _ _ _)))
                            go_wp2_with fail
                            have cJ := HRK.out.cell (t := j1) (by omega)
                            have fJ := HRK.out.free j1
                            have fA := HRK.out.free a
                            obtain ⟨xj, hxj⟩ : ∃ x, x = dk[j1]! := ⟨_, rfl⟩
                            rw [← hxj] at cJ
                            have HXJ := Lib.hid hxj
                            clear hxj
                            have hJs : (j1 : Int) < (d.size : Int) := by omega
                            have hjj : j1 = a → xj = pa := fun e => by rw [HXJ.out, HPA.out, e]
                            have HJJ := Lib.hid hjj; clear hjj
                            by_cases hJa : j1 = a
                            · have hjj := HJJ.out hJa
                              subst hjj
                              clear cJ fJ
                              have hJ2 : (j1 : Int) = (a : Int) := by omega
                              have HJE := Lib.hid hJa; clear hJa
                              go_region
                              all_goals
                                go_wp2_with fail
                                go_ret2
                                have hsw := HRK.out.swapTo (j := a) (k := a) (Chg.refl wr _) (by omega) (by omega) HPA.out HPA.out
                                exact ⟨by first | (rw [HDE.out, HJE.out]; rfl) | rw [HDE.out, HJE.out], by rw [HDE.out, HJE.out]; exact hsw.chg (by first | exact Chg.drew _ (fun _ => False) | exact Chg.drewN _ _ (fun _ => False) | exact (Chg.drewN _ _ (fun _ => False)).then (Chg.drewN _ _ _) | exact Chg.refl _ (fun _ => False)) (by simp), HCK.out.then ((Chg.swapTo (Chg.refl wr _) _ _ _ _ _).then (by first | exact Chg.drew _ _ | exact Chg.drewN _ _ _ | exact (Chg.drewN _ _ _).then (Chg.drewN _ _ _) | exact Chg.refl _ _))⟩
                            · have hJn : ¬ a = j1 := fun e => hJa e.symm
                              go_region
                              all_goals
                                go_wp2_with fail
                                go_ret2
                                have hsw := HRK.out.swapTo (j := j1) (k := a) (Chg.refl wr _) (by omega) (by omega) HPA.out HXJ.out
                                exact ⟨by first | (rw [HDE.out]; rfl) | rw [HDE.out], by rw [HDE.out]; exact hsw.chg (by first | exact Chg.drew _ (fun _ => False) | exact Chg.drewN _ _ (fun _ => False) | exact (Chg.drewN _ _ (fun _ => False)).then (Chg.drewN _ _ _) | exact Chg.refl _ (fun _ => False)) (by simp), HCK.out.then ((Chg.swapTo (Chg.refl wr _) _ _ _ _ _).then (by first | exact Chg.drew _ _ | exact Chg.drewN _ _ _ | exact (Chg.drewN _ _ _).then (Chg.drewN _ _ _) | exact Chg.refl _ _))⟩
                      · go_wp2_with fail
                        go_quiet (first | (go_at_call 93; refine Calls.quiet_of_same (less_any _ _ _)) | (go_at_call 93; exact quiet_add_same (less_any _ _ _)))
                        go_wp2_with fail
                        go_roundg (gk - 1)
                        case measure => have := HG1.out; omega
                        case rel => exact ⟨i1 + 1, by go_num, by have := HG1.out; omega, by omega, by omega, HRK.out.chg (Chg.drewN _ _ (fun _ => False)) (by simp), HCK.out.then (Chg.drewN _ _ _), by rw [← HU.out, scanUp_go hle (by show ltInt dk[i1]! pa = true; rw [← HX1.out, hl])]⟩
                    · have hst : scanUp (fun x => ltInt x pa) dk j i = i1 := by rw [← HU.out]; exact scanUp_stop (fun h => absurd h hle)
                      have hst2 : scanDown (fun x => !ltInt x pa) dk i1 j = j := scanDown_stop (fun h => absurd h hle)
                      have hgo := pl_stop (a := a) (d := dk) (i := i) (j := j) (i2 := i1) (j2 := j) (by rw [← HPA.out]; exact hst) (by rw [← HPA.out]; exact hst2) (by omega)
                      have hDe : D = (j, false, swp dk j a) := by rw [HDR.out, ← HS.out, hgo]
                      clear hgo
                      have HDE := Lib.hid hDe
                      have hdl : decide ((i1 : Int) ≤ (j : Int)) = false := by simp; omega
                      have hgt : decide ((j : Int) < (i1 : Int)) = true := by simp; omega
                      clear hst hst2 hDe
                      go_wp2_with fail
                      go_quiet (first | (go_at_call 93; refine Calls.quiet_of_same (less_any _ _ _)) | (go_at_call 93; exact quiet_add_same (less_any _ _ _)))
                      go_wp2_with fail
                      refine wp_loop_rounds 1 ?_
                      rw [rounds_succ]
                      go_wp2_with fail
                      go_quiet (first | (go_at_call 93; refine Calls.quiet_of_same (less_any _ _ _)) | (go_at_call 93; exact quiet_add_same (less_any _ _ _)))
                      go_wp2_with fail
                      have cJ := HRK.out.cell (t := j) (by omega)
                      have fJ := HRK.out.free j
                      have fA := HRK.out.free a
                      obtain ⟨xj, hxj⟩ : ∃ x, x = dk[j]! := ⟨_, rfl⟩
                      rw [← hxj] at cJ
                      have HXJ := Lib.hid hxj
                      clear hxj
                      have hJs : (j : Int) < (d.size : Int) := by omega
                      have hjj : j = a → xj = pa := fun e => by rw [HXJ.out, HPA.out, e]
                      have HJJ := Lib.hid hjj; clear hjj
                      by_cases hJa : j = a
                      · have hjj := HJJ.out hJa
                        subst hjj
                        clear cJ fJ
                        have hJ2 : (j : Int) = (a : Int) := by omega
                        have HJE := Lib.hid hJa; clear hJa
                        go_region
                        all_goals
                          go_wp2_with fail
                          go_ret2
                          have hsw := HRK.out.swapTo (j := a) (k := a) (Chg.refl wr _) (by omega) (by omega) HPA.out HPA.out
                          exact ⟨by first | (rw [HDE.out, HJE.out]; rfl) | rw [HDE.out, HJE.out], by rw [HDE.out, HJE.out]; exact hsw.chg (by first | exact Chg.drew _ (fun _ => False) | exact Chg.drewN _ _ (fun _ => False) | exact (Chg.drewN _ _ (fun _ => False)).then (Chg.drewN _ _ _) | exact Chg.refl _ (fun _ => False)) (by simp), HCK.out.then ((Chg.swapTo (Chg.refl wr _) _ _ _ _ _).then (by first | exact Chg.drew _ _ | exact Chg.drewN _ _ _ | exact (Chg.drewN _ _ _).then (Chg.drewN _ _ _) | exact Chg.refl _ _))⟩
                      · have hJn : ¬ a = j := fun e => hJa e.symm
                        go_region
                        all_goals
                          go_wp2_with fail
                          go_ret2
                          have hsw := HRK.out.swapTo (j := j) (k := a) (Chg.refl wr _) (by omega) (by omega) HPA.out HXJ.out
                          exact ⟨by first | (rw [HDE.out]; rfl) | rw [HDE.out], by rw [HDE.out]; exact hsw.chg (by first | exact Chg.drew _ (fun _ => False) | exact Chg.drewN _ _ (fun _ => False) | exact (Chg.drewN _ _ (fun _ => False)).then (Chg.drewN _ _ _) | exact Chg.refl _ (fun _ => False)) (by simp), HCK.out.then ((Chg.swapTo (Chg.refl wr _) _ _ _ _ _).then (by first | exact Chg.drew _ _ | exact Chg.drewN _ _ _ | exact (Chg.drewN _ _ _).then (Chg.drewN _ _ _) | exact Chg.refl _ _))⟩
            · have hst : scanDown (fun x => !ltInt x pa) d0 i1 j0 = j1 := by rw [← HV.out]; exact scanDown_stop (fun h => absurd h hle2)
              have hDe := part_stop (a := a) (b := b) (pv := a) (d := d) (d0 := d0) (i2 := i1) (j2 := j1) HD0.out (by rw [← HJ0.out, ← HPA.out]; exact HST.out) (by rw [← HJ0.out, ← HPA.out]; exact hst) (by omega)
              rw [← HD.out] at hDe
              have HDE := Lib.hid hDe
              have hdl : decide ((i1 : Int) ≤ (j1 : Int)) = false := by simp; omega
              have hgt : decide ((j1 : Int) < (i1 : Int)) = true := by simp; omega
              clear hst hDe
              go_wp2_with fail
              go_quiet (first | (go_at_call 93; refine Calls.quiet_of_same (less_any _ _ _)) | (go_at_call 93; exact quiet_add_same (less_any _ _ _)))
              go_wp2_with fail
              have cJ := HRK.out.cell (t := j1) (by omega)
              have fJ := HRK.out.free j1
              have fA := HRK.out.free a
              obtain ⟨xj, hxj⟩ : ∃ x, x = d0[j1]! := ⟨_, rfl⟩
              rw [← hxj] at cJ
              have HXJ := Lib.hid hxj
              clear hxj
              have hJs : (j1 : Int) < (d.size : Int) := by omega
              have hjj : j1 = a → xj = pa := fun e => by rw [HXJ.out, HPA.out, e]
              have HJJ := Lib.hid hjj; clear hjj
              by_cases hJa : j1 = a
              · have hjj := HJJ.out hJa
                subst hjj
                clear cJ fJ
                have hJ2 : (j1 : Int) = (a : Int) := by omega
                have HJE := Lib.hid hJa; clear hJa
                go_region
                all_goals
                  go_wp2_with fail
                  go_ret2
                  have hsw := HRK.out.swapTo (j := a) (k := a) (Chg.refl wr _) (by omega) (by omega) HPA.out HPA.out
                  exact ⟨by first | (rw [HDE.out, HJE.out]; rfl) | rw [HDE.out, HJE.out], by rw [HDE.out, HJE.out]; exact hsw.chg (by first | exact Chg.drew _ (fun _ => False) | exact Chg.drewN _ _ (fun _ => False) | exact (Chg.drewN _ _ (fun _ => False)).then (Chg.drewN _ _ _) | exact Chg.refl _ (fun _ => False)) (by simp), HCK.out.then ((Chg.swapTo (Chg.refl wr _) _ _ _ _ _).then (by first | exact Chg.drew _ _ | exact Chg.drewN _ _ _ | exact (Chg.drewN _ _ _).then (Chg.drewN _ _ _) | exact Chg.refl _ _))⟩
              · have hJn : ¬ a = j1 := fun e => hJa e.symm
                go_region
                all_goals
                  go_wp2_with fail
                  go_ret2
                  have hsw := HRK.out.swapTo (j := j1) (k := a) (Chg.refl wr _) (by omega) (by omega) HPA.out HXJ.out
                  exact ⟨by first | (rw [HDE.out]; rfl) | rw [HDE.out], by rw [HDE.out]; exact hsw.chg (by first | exact Chg.drew _ (fun _ => False) | exact Chg.drewN _ _ (fun _ => False) | exact (Chg.drewN _ _ (fun _ => False)).then (Chg.drewN _ _ _) | exact Chg.refl _ (fun _ => False)) (by simp), HCK.out.then ((Chg.swapTo (Chg.refl wr _) _ _ _ _ _).then (by first | exact Chg.drew _ _ | exact Chg.drewN _ _ _ | exact (Chg.drewN _ _ _).then (Chg.drewN _ _ _) | exact Chg.refl _ _))⟩
        · go_wp2_with fail
          go_quiet (first | (go_at_call 93; refine Calls.quiet_of_same (less_any _ _ _)) | (go_at_call 93; exact quiet_add_same (less_any _ _ _)))
          go_wp2_with fail
          go_roundg (g1 - 1)
          case measure => have := HG1.out; omega
          case rel => exact ⟨i1 + 1, by go_num, by have := HG1.out; omega, by omega, by omega, HRK.out.chg (Chg.drewN _ _ (fun _ => False)) (by simp), HCK.out.then (Chg.drewN _ _ _), by rw [← HU.out, scanUp_go hle (by show ltInt d0[i1]! pa = true; rw [← HX1.out, hl])]⟩
      · have hst : scanUp (fun x => ltInt x pa) d0 j0 (a + 1) = i1 := by rw [← HU.out]; exact scanUp_stop (fun h => absurd h hle)
        have hst2 : scanDown (fun x => !ltInt x pa) d0 i1 j0 = j0 := scanDown_stop (fun h => absurd h hle)
        have hDe := part_stop (a := a) (b := b) (pv := a) (d := d) (d0 := d0) (i2 := i1) (j2 := j0) HD0.out (by rw [← HJ0.out, ← HPA.out]; exact hst) (by rw [← HJ0.out, ← HPA.out]; exact hst2) (by omega)
        rw [← HD.out] at hDe
        have HDE := Lib.hid hDe
        have hdl : decide ((i1 : Int) ≤ (j0 : Int)) = false := by simp; omega
        have hgt : decide ((j0 : Int) < (i1 : Int)) = true := by simp; omega
        clear hst hst2 hDe
        go_wp2_with fail
        go_quiet (first | (go_at_call 93; refine Calls.quiet_of_same (less_any _ _ _)) | (go_at_call 93; exact quiet_add_same (less_any _ _ _)))
        go_wp2_with fail
        refine wp_loop_rounds 1 ?_
        rw [rounds_succ]
        go_wp2_with fail
        go_quiet (first | (go_at_call 93; refine Calls.quiet_of_same (less_any _ _ _)) | (go_at_call 93; exact quiet_add_same (less_any _ _ _)))
        go_wp2_with fail
        have cJ := HRK.out.cell (t := j0) (by omega)
        have fJ := HRK.out.free j0
        have fA := HRK.out.free a
        obtain ⟨xj, hxj⟩ : ∃ x, x = d0[j0]! := ⟨_, rfl⟩
        rw [← hxj] at cJ
        have HXJ := Lib.hid hxj
        clear hxj
        have hJs : (j0 : Int) < (d.size : Int) := by omega
        have hjj : j0 = a → xj = pa := fun e => by rw [HXJ.out, HPA.out, e]
        have HJJ := Lib.hid hjj; clear hjj
        by_cases hJa : j0 = a
        · have hjj := HJJ.out hJa
          subst hjj
          clear cJ fJ
          have hJ2 : (j0 : Int) = (a : Int) := by omega
          have HJE := Lib.hid hJa; clear hJa
          go_region
          all_goals
            go_wp2_with fail
            go_ret2
            have hsw := HRK.out.swapTo (j := a) (k := a) (Chg.refl wr _) (by omega) (by omega) HPA.out HPA.out
            exact ⟨by first | (rw [HDE.out, HJE.out]; rfl) | rw [HDE.out, HJE.out], by rw [HDE.out, HJE.out]; exact hsw.chg (by first | exact Chg.drew _ (fun _ => False) | exact Chg.drewN _ _ (fun _ => False) | exact (Chg.drewN _ _ (fun _ => False)).then (Chg.drewN _ _ _) | exact Chg.refl _ (fun _ => False)) (by simp), HCK.out.then ((Chg.swapTo (Chg.refl wr _) _ _ _ _ _).then (by first | exact Chg.drew _ _ | exact Chg.drewN _ _ _ | exact (Chg.drewN _ _ _).then (Chg.drewN _ _ _) | exact Chg.refl _ _))⟩
        · have hJn : ¬ a = j0 := fun e => hJa e.symm
          go_region
          all_goals
            go_wp2_with fail
            go_ret2
            have hsw := HRK.out.swapTo (j := j0) (k := a) (Chg.refl wr _) (by omega) (by omega) HPA.out HXJ.out
            exact ⟨by first | (rw [HDE.out]; rfl) | rw [HDE.out], by rw [HDE.out]; exact hsw.chg (by first | exact Chg.drew _ (fun _ => False) | exact Chg.drewN _ _ (fun _ => False) | exact (Chg.drewN _ _ (fun _ => False)).then (Chg.drewN _ _ _) | exact Chg.refl _ (fun _ => False)) (by simp), HCK.out.then ((Chg.swapTo (Chg.refl wr _) _ _ _ _ _).then (by first | exact Chg.drew _ _ | exact Chg.drewN _ _ _ | exact (Chg.drewN _ _ _).then (Chg.drewN _ _ _) | exact Chg.refl _ _))⟩
  · go_enter Try.func95, Try.ntmps95
    go_wp2_with fail
    go_region
    go_wp2_with fail
    go_loopg [10] (j0 + 2) (fun n vi wr => ∃ (i1 : Nat), vi = .int .i64 i1 ∧ j0 + 2 ≤ n + i1 ∧ a + 1 ≤ i1 ∧ i1 ≤ j0 + 1 ∧ RowV wr g e d0 rest ∧ Chg w wr (fun i => i = g) ∧ scanUp (fun x => ltInt x pa) d0 j0 i1 = scanUp (fun x => ltInt x pa) d0 j0 (a + 1))
    case atStart => exact ⟨a + 1, by go_num, by omega, by omega, by omega, by rw [HD0.out]; exact (HR.out.swapTo (Chg.refl w _) (by omega) (by omega) HY.out HX.out).chg (Chg.drew _ (fun _ => False)) (by simp), (Chg.swapTo (Chg.refl w _) _ _ _ _ _).then (Chg.drew _ _), rfl⟩
    case round =>
      clear ca cp fa fp
      obtain ⟨i1, rfl, hg1, hii, hi1j, hrk, hck, hU⟩ := hrel
      have HU := Lib.hid hU; have HRK := Lib.hid hrk; have HCK := Lib.hid hck; have HG1 := Lib.hid hg1; have HPA := Lib.hid HPA0.out
      clear hU hrk hck hg1
      obtain ⟨g1, rfl⟩ : ∃ g1 : Nat, g1 = gk := ⟨_, rfl⟩
      have hal : a < d0.size := by omega
      have ca := HRK.out.cell (t := a) hal
      rw [← HPA.out] at ca
      by_cases hle : i1 ≤ j0
      · have c1 := HRK.out.cell (t := i1) (by omega)
        obtain ⟨x1, hx1⟩ : ∃ x, x = d0[i1]! := ⟨_, rfl⟩
        rw [← hx1] at c1
        have HX1 := Lib.hid hx1
        clear hx1
        have hdl : decide ((i1 : Int) ≤ (j0 : Int)) = true := by simp; omega
        have hi1s : (i1 : Int) < (d.size : Int) := by omega
        cases hl : ltInt x1 pa
        · have hst : scanUp (fun x => ltInt x pa) d0 j0 (a + 1) = i1 := by rw [← HU.out]; exact scanUp_stop (fun _ => by show ltInt d0[i1]! pa = false; rw [← HX1.out, hl])
          have HST := Lib.hid hst
          clear hst
          go_wp2_with fail
          go_quiet (first | (go_at_call 93; refine Calls.quiet_of_same (less_any _ _ _)) | (go_at_call 93; exact quiet_add_same (less_any _ _ _)))
          go_wp2_with fail
          have hrq := HRK.out.chg (Chg.drewN wr nq (fun _ => False)) (by simp)
          have hcq := HCK.out.then (Chg.drewN wr nq _)
          have HRQ := Lib.hid hrq; have HCQ := Lib.hid hcq; have HL := Lib.hid hl
          clear hrq hcq HRK HCK HG1 ca c1 hl hdl hi1s
          go_loopg [11] (j0 + 2 - i1) (fun n vj wr => ∃ (j1 : Nat), vj = .int .i64 j1 ∧ j1 + 1 ≤ n + i1 ∧ i1 ≤ j1 + 1 ∧ j1 ≤ j0 ∧ RowV wr g e d0 rest ∧ Chg w wr (fun i => i = g) ∧ scanDown (fun x => !ltInt x pa) d0 i1 j1 = scanDown (fun x => !ltInt x pa) d0 i1 j0)
          case atStart => exact ⟨j0, rfl, by omega, by omega, Nat.le_refl _, HRQ.out, HCQ.out, rfl⟩
          case round =>
            clear HRQ HCQ
            obtain ⟨j1, rfl, hg2, hij1, hjj, hrk, hck, hV⟩ := hrel
            have HV := Lib.hid hV; have HRK := Lib.hid hrk; have HCK := Lib.hid hck; have HG2 := Lib.hid hg2
            clear hV hrk hck hg2
            have ca := HRK.out.cell (t := a) hal
            rw [← HPA.out] at ca
            by_cases hle2 : i1 ≤ j1
            · have c2 := HRK.out.cell (t := j1) (by omega)
              obtain ⟨x2, hx2⟩ : ∃ x, x = d0[j1]! := ⟨_, rfl⟩
              rw [← hx2] at c2
              have HX2 := Lib.hid hx2
              clear hx2
              have hdl : decide ((i1 : Int) ≤ (j1 : Int)) = true := by simp; omega
              have hj1s : (j1 : Int) < (d.size : Int) := by omega
              cases hl : ltInt x2 pa
              · go_wp2_with fail
                go_quiet (first | (go_at_call 93; refine Calls.quiet_of_same (less_any _ _ _)) | (go_at_call 93; exact quiet_add_same (less_any _ _ _)))
                go_wp2_with fail
                go_roundg (gk - 1)
                case measure => have := HG2.out; omega
                case rel => exact ⟨j1 - 1, by congr 1; omega, by have := HG2.out; omega, by omega, by omega, HRK.out.chg (Chg.drewN _ _ (fun _ => False)) (by simp), HCK.out.then (Chg.drewN _ _ _), by rw [← HV.out, scanDown_go (by omega) hle2 (by show (!ltInt d0[j1]! pa) = true; rw [← HX2.out, hl]; rfl)]⟩
              · have hst : scanDown (fun x => !ltInt x pa) d0 i1 j0 = j1 := by rw [← HV.out]; exact scanDown_stop (fun _ => by show (!ltInt d0[j1]! pa) = false; rw [← HX2.out, hl]; rfl)
                have hgo := part_go (a := a) (b := b) (pv := pv) (d := d) (d0 := d0) (i2 := i1) (j2 := j1) HD0.out (by rw [← HJ0.out, ← HPA.out]; exact HST.out) (by rw [← HJ0.out, ← HPA.out]; exact hst) (by omega)
                rw [← HD.out] at hgo
                have HGO := Lib.hid hgo
                have hne : i1 ≠ j1 := fun e => by have h1 := HL.out; rw [HX1.out, e, ← HX2.out, hl] at h1; cases h1
                have hgt : decide ((j1 : Int) < (i1 : Int)) = false := by simp; omega
                have c1 := HRK.out.cell (t := i1) (by omega)
                rw [← HX1.out] at c1
                have f1 := HRK.out.free i1
                have f2 := HRK.out.free j1
                have hi1s : (i1 : Int) < (d.size : Int) := by omega
                clear hst hgo
                go_wp2_with fail
                go_quiet (first | (go_at_call 93; refine Calls.quiet_of_same (less_any _ _ _)) | (go_at_call 93; exact quiet_add_same (less_any _ _ _)))
                go_wp2_with fail
                go_region
                go_wp2_with fail
                obtain ⟨R, hR⟩ : ∃ R, R = partLoop ltInt a (i1 + 1) (j1 - 1) (swp d0 i1 j1) := ⟨_, rfl⟩
                have hDR := HGO.out
                rw [← hR] at hDR
                have HDR := Lib.hid hDR; have HRR := Lib.hid hR.symm
                clear hR hDR
                go_loopg [10, 11] (j1 + 2) (fun n vi vj wr => ∃ (i j : Nat) (dk : Array Int), vi = .int .i64 i ∧ vj = .int .i64 j ∧ j + 2 ≤ n + i ∧ a < i ∧ i ≤ j + 1 ∧ j < b ∧ dk.size = d.size ∧ RowV wr g e dk rest ∧ Chg w wr (fun i => i = g) ∧ partLoop ltInt a i j dk = R)
                case atStart => exact ⟨i1 + 1, j1 - 1, swp d0 i1 j1, by go_num, by congr 1; omega, by omega, by omega, by omega, by omega, by rw [size_swp']; exact hds, HRK.out.swapTo (by first | exact (Chg.drewN _ _ _).then (Chg.drewN _ _ _) | exact Chg.drewN _ _ _) (by omega) (by omega) HX2.out HX1.out, HCK.out.then (Chg.swapTo (by first | exact (Chg.drewN _ _ _).then (Chg.drewN _ _ _) | exact Chg.drewN _ _ _) _ _ _ _ _), HRR.out⟩
                case round =>
                  clear HRK HCK HPA HST HU HV HG2 HX1 HX2 HGO HL ca c1 c2 f1 f2 hl hle hle2 hne hgt hi1s hj1s hdl hal
                  obtain ⟨i, j, dk, rfl, rfl, hg, hai2, hij, hjb, hsk, hrk, hck, hS⟩ := hrel
                  have HS := Lib.hid hS; have HRK := Lib.hid hrk; have HCK := Lib.hid hck; have HG := Lib.hid hg
                  clear hS hrk hck hg
                  obtain ⟨wo, rfl⟩ : ∃ wo : World, wo = wr := ⟨_, rfl⟩
                  obtain ⟨g0, rfl⟩ : ∃ g0 : Nat, g0 = gk := ⟨_, rfl⟩
                  clear HPA0
                  obtain ⟨pa, hpa⟩ : ∃ x, x = dk[a]! := ⟨_, rfl⟩
                  have HPA0 := Lib.hid hpa
                  clear hpa
                  go_wp2_with fail
                  go_loopg [10] (j + 2 - i) (fun n vi wr => ∃ (i1 : Nat), vi = .int .i64 i1 ∧ j + 2 ≤ n + i1 ∧ i ≤ i1 ∧ i1 ≤ j + 1 ∧ RowV wr g e dk rest ∧ Chg w wr (fun i => i = g) ∧ scanUp (fun x => ltInt x pa) dk j i1 = scanUp (fun x => ltInt x pa) dk j i)
                  case atStart => exact ⟨i, rfl, by omega, by omega, hij, HRK.out, HCK.out, rfl⟩
                  case round =>
                    clear HRK HCK
                    obtain ⟨i1, rfl, hg1, hii, hi1j, hrk, hck, hU⟩ := hrel
                    have HU := Lib.hid hU; have HRK := Lib.hid hrk; have HCK := Lib.hid hck; have HG1 := Lib.hid hg1; have HPA := Lib.hid HPA0.out
                    clear hU hrk hck hg1
                    have hal : a < dk.size := by omega
                    have ca := HRK.out.cell (t := a) hal
                    rw [← HPA.out] at ca
                    by_cases hle : i1 ≤ j
                    · have c1 := HRK.out.cell (t := i1) (by omega)
                      obtain ⟨x1, hx1⟩ : ∃ x, x = dk[i1]! := ⟨_, rfl⟩
                      rw [← hx1] at c1
                      have HX1 := Lib.hid hx1
                      clear hx1
                      have hdl : decide ((i1 : Int) ≤ (j : Int)) = true := by simp; omega
                      have hi1s : (i1 : Int) < (d.size : Int) := by omega
                      cases hl : ltInt x1 pa
                      · have hst : scanUp (fun x => ltInt x pa) dk j i = i1 := by rw [← HU.out]; exact scanUp_stop (fun _ => by show ltInt dk[i1]! pa = false; rw [← HX1.out, hl])
                        have HST := Lib.hid hst
                        clear hst
                        go_wp2_with fail
                        go_quiet (first | (go_at_call 93; refine Calls.quiet_of_same (less_any _ _ _)) | (go_at_call 93; exact quiet_add_same (less_any _ _ _)))
                        go_wp2_with fail
                        have hrq := HRK.out.chg (Chg.drewN wr nq (fun _ => False)) (by simp)
                        have hcq := HCK.out.then (Chg.drewN wr nq _)
                        have HRQ := Lib.hid hrq; have HCQ := Lib.hid hcq; have HL := Lib.hid hl
                        clear hrq hcq HRK HCK HG1 ca c1 hl hdl hi1s
                        go_loopg [11] (j + 2 - i1) (fun n vj wr => ∃ (j1 : Nat), vj = .int .i64 j1 ∧ j1 + 1 ≤ n + i1 ∧ i1 ≤ j1 + 1 ∧ j1 ≤ j ∧ RowV wr g e dk rest ∧ Chg w wr (fun i => i = g) ∧ scanDown (fun x => !ltInt x pa) dk i1 j1 = scanDown (fun x => !ltInt x pa) dk i1 j)
                        case atStart => exact ⟨j, rfl, by omega, by omega, Nat.le_refl _, HRQ.out, HCQ.out, rfl⟩
                        case round =>
                          clear HRQ HCQ
                          obtain ⟨j1, rfl, hg2, hij1, hjj, hrk, hck, hV⟩ := hrel
                          have HV := Lib.hid hV; have HRK := Lib.hid hrk; have HCK := Lib.hid hck; have HG2 := Lib.hid hg2
                          clear hV hrk hck hg2
                          have ca := HRK.out.cell (t := a) hal
                          rw [← HPA.out] at ca
                          by_cases hle2 : i1 ≤ j1
                          · have c2 := HRK.out.cell (t := j1) (by omega)
                            obtain ⟨x2, hx2⟩ : ∃ x, x = dk[j1]! := ⟨_, rfl⟩
                            rw [← hx2] at c2
                            have HX2 := Lib.hid hx2
                            clear hx2
                            have hdl : decide ((i1 : Int) ≤ (j1 : Int)) = true := by simp; omega
                            have hj1s : (j1 : Int) < (d.size : Int) := by omega
                            cases hl : ltInt x2 pa
                            · go_wp2_with fail
                              go_quiet (first | (go_at_call 93; refine Calls.quiet_of_same (less_any _ _ _)) | (go_at_call 93; exact quiet_add_same (less_any _ _ _)))
                              go_wp2_with fail
                              go_roundg (gk - 1)
                              case measure => have := HG2.out; omega
                              case rel => exact ⟨j1 - 1, by congr 1; omega, by have := HG2.out; omega, by omega, by omega, HRK.out.chg (Chg.drewN _ _ (fun _ => False)) (by simp), HCK.out.then (Chg.drewN _ _ _), by rw [← HV.out, scanDown_go (by omega) hle2 (by show (!ltInt dk[j1]! pa) = true; rw [← HX2.out, hl]; rfl)]⟩
                            · have hst : scanDown (fun x => !ltInt x pa) dk i1 j = j1 := by rw [← HV.out]; exact scanDown_stop (fun _ => by show (!ltInt dk[j1]! pa) = false; rw [← HX2.out, hl]; rfl)
                              have hgo := pl_go (a := a) (d := dk) (i := i) (j := j) (i2 := i1) (j2 := j1) (by rw [← HPA.out]; exact HST.out) (by rw [← HPA.out]; exact hst) (by omega)
                              have HGO := Lib.hid hgo
                              have hne : i1 ≠ j1 := fun e => by have h1 := HL.out; rw [HX1.out, e, ← HX2.out, hl] at h1; cases h1
                              have hgt : decide ((j1 : Int) < (i1 : Int)) = false := by simp; omega
                              have c1 := HRK.out.cell (t := i1) (by omega)
                              rw [← HX1.out] at c1
                              have f1 := HRK.out.free i1
                              have f2 := HRK.out.free j1
                              have hi1s : (i1 : Int) < (d.size : Int) := by omega
                              clear hst hgo
                              go_wp2_with fail
                              go_quiet (first | (go_at_call 93; refine Calls.quiet_of_same (less_any _ _ _)) | (go_at_call 93; exact quiet_add_same (less_any _ _ _)))
                              go_wp2_with fail
                              go_region
                              go_wp2_with fail
                              go_roundg (g0 - 1)
                              case measure => have := HG.out; omega
                              case rel => exact ⟨i1 + 1, j1 - 1, swp dk i1 j1, by go_num, by congr 1; omega, by have := HG.out; omega, by omega, by omega, by omega, by rw [size_swp']; exact hsk, HRK.out.swapTo (by first | exact (Chg.drewN _ _ _).then (Chg.drewN _ _ _) | exact Chg.drewN _ _ _) (by omega) (by omega) HX2.out HX1.out, HCK.out.then (Chg.swapTo (by first | exact (Chg.drewN _ _ _).then (Chg.drewN _ _ _) | exact Chg.drewN _ _ _) _ _ _ _ _), by rw [← HS.out, HGO.out]⟩
                          · have hst : scanDown (fun x => !ltInt x pa) dk i1 j = j1 := by rw [← HV.out]; exact scanDown_stop (fun h => absurd h hle2)
                            have hgo := pl_stop (a := a) (d := dk) (i := i) (j := j) (i2 := i1) (j2 := j1) (by rw [← HPA.out]; exact HST.out) (by rw [← HPA.out]; exact hst) (by omega)
                            have hDe : D = (j1, false, swp dk j1 a) := by rw [HDR.out, ← HS.out, hgo]
                            clear hgo
                            have HDE := Lib.hid hDe
                            have hdl : decide ((i1 : Int) ≤ (j1 : Int)) = false := by simp; omega
                            have hgt : decide ((j1 : Int) < (i1 : Int)) = true := by simp; omega
                            clear hst hDe
                            go_wp2_with fail
                            go_quiet (first | (go_at_call 93; refine Calls.quiet_of_same (less_any _ _ _)) | (go_at_call 93; exact quiet_add_same (less_any _ _ _)))
                            go_wp2_with fail
                            have cJ := HRK.out.cell (t := j1) (by omega)
                            have fJ := HRK.out.free j1
                            have fA := HRK.out.free a
                            obtain ⟨xj, hxj⟩ : ∃ x, x = dk[j1]! := ⟨_, rfl⟩
                            rw [← hxj] at cJ
                            have HXJ := Lib.hid hxj
                            clear hxj
                            have hJs : (j1 : Int) < (d.size : Int) := by omega
                            have hjj : j1 = a → xj = pa := fun e => by rw [HXJ.out, HPA.out, e]
                            have HJJ := Lib.hid hjj; clear hjj
                            by_cases hJa : j1 = a
                            · have hjj := HJJ.out hJa
                              subst hjj
                              clear cJ fJ
                              have hJ2 : (j1 : Int) = (a : Int) := by omega
                              have HJE := Lib.hid hJa; clear hJa
                              go_region
                              all_goals
                                go_wp2_with fail
                                go_ret2
                                have hsw := HRK.out.swapTo (j := a) (k := a) (Chg.refl wr _) (by omega) (by omega) HPA.out HPA.out
                                exact ⟨by first | (rw [HDE.out, HJE.out]; rfl) | rw [HDE.out, HJE.out], by rw [HDE.out, HJE.out]; exact hsw.chg (by first | exact Chg.drew _ (fun _ => False) | exact Chg.drewN _ _ (fun _ => False) | exact (Chg.drewN _ _ (fun _ => False)).then (Chg.drewN _ _ _) | exact Chg.refl _ (fun _ => False)) (by simp), HCK.out.then ((Chg.swapTo (Chg.refl wr _) _ _ _ _ _).then (by first | exact Chg.drew _ _ | exact Chg.drewN _ _ _ | exact (Chg.drewN _ _ _).then (Chg.drewN _ _ _) | exact Chg.refl _ _))⟩
                            · have hJn : ¬ a = j1 := fun e => hJa e.symm
                              go_region
                              all_goals
                                go_wp2_with fail
                                go_ret2
                                have hsw := HRK.out.swapTo (j := j1) (k := a) (Chg.refl wr _) (by omega) (by omega) HPA.out HXJ.out
                                exact ⟨by first | (rw [HDE.out]; rfl) | rw [HDE.out], by rw [HDE.out]; exact hsw.chg (by first | exact Chg.drew _ (fun _ => False) | exact Chg.drewN _ _ (fun _ => False) | exact (Chg.drewN _ _ (fun _ => False)).then (Chg.drewN _ _ _) | exact Chg.refl _ (fun _ => False)) (by simp), HCK.out.then ((Chg.swapTo (Chg.refl wr _) _ _ _ _ _).then (by first | exact Chg.drew _ _ | exact Chg.drewN _ _ _ | exact (Chg.drewN _ _ _).then (Chg.drewN _ _ _) | exact Chg.refl _ _))⟩
                      · go_wp2_with fail
                        go_quiet (first | (go_at_call 93; refine Calls.quiet_of_same (less_any _ _ _)) | (go_at_call 93; exact quiet_add_same (less_any _ _ _)))
                        go_wp2_with fail
                        go_roundg (gk - 1)
                        case measure => have := HG1.out; omega
                        case rel => exact ⟨i1 + 1, by go_num, by have := HG1.out; omega, by omega, by omega, HRK.out.chg (Chg.drewN _ _ (fun _ => False)) (by simp), HCK.out.then (Chg.drewN _ _ _), by rw [← HU.out, scanUp_go hle (by show ltInt dk[i1]! pa = true; rw [← HX1.out, hl])]⟩
                    · have hst : scanUp (fun x => ltInt x pa) dk j i = i1 := by rw [← HU.out]; exact scanUp_stop (fun h => absurd h hle)
                      have hst2 : scanDown (fun x => !ltInt x pa) dk i1 j = j := scanDown_stop (fun h => absurd h hle)
                      have hgo := pl_stop (a := a) (d := dk) (i := i) (j := j) (i2 := i1) (j2 := j) (by rw [← HPA.out]; exact hst) (by rw [← HPA.out]; exact hst2) (by omega)
                      have hDe : D = (j, false, swp dk j a) := by rw [HDR.out, ← HS.out, hgo]
                      clear hgo
                      have HDE := Lib.hid hDe
                      have hdl : decide ((i1 : Int) ≤ (j : Int)) = false := by simp; omega
                      have hgt : decide ((j : Int) < (i1 : Int)) = true := by simp; omega
                      clear hst hst2 hDe
                      go_wp2_with fail
                      go_quiet (first | (go_at_call 93; refine Calls.quiet_of_same (less_any _ _ _)) | (go_at_call 93; exact quiet_add_same (less_any _ _ _)))
                      go_wp2_with fail
                      refine wp_loop_rounds 1 ?_
                      rw [rounds_succ]
                      go_wp2_with fail
                      go_quiet (first | (go_at_call 93; refine Calls.quiet_of_same (less_any _ _ _)) | (go_at_call 93; exact quiet_add_same (less_any _ _ _)))
                      go_wp2_with fail
                      have cJ := HRK.out.cell (t := j) (by omega)
                      have fJ := HRK.out.free j
                      have fA := HRK.out.free a
                      obtain ⟨xj, hxj⟩ : ∃ x, x = dk[j]! := ⟨_, rfl⟩
                      rw [← hxj] at cJ
                      have HXJ := Lib.hid hxj
                      clear hxj
                      have hJs : (j : Int) < (d.size : Int) := by omega
                      have hjj : j = a → xj = pa := fun e => by rw [HXJ.out, HPA.out, e]
                      have HJJ := Lib.hid hjj; clear hjj
                      by_cases hJa : j = a
                      · have hjj := HJJ.out hJa
                        subst hjj
                        clear cJ fJ
                        have hJ2 : (j : Int) = (a : Int) := by omega
                        have HJE := Lib.hid hJa; clear hJa
                        go_region
                        all_goals
                          go_wp2_with fail
                          go_ret2
                          have hsw := HRK.out.swapTo (j := a) (k := a) (Chg.refl wr _) (by omega) (by omega) HPA.out HPA.out
                          exact ⟨by first | (rw [HDE.out, HJE.out]; rfl) | rw [HDE.out, HJE.out], by rw [HDE.out, HJE.out]; exact hsw.chg (by first | exact Chg.drew _ (fun _ => False) | exact Chg.drewN _ _ (fun _ => False) | exact (Chg.drewN _ _ (fun _ => False)).then (Chg.drewN _ _ _) | exact Chg.refl _ (fun _ => False)) (by simp), HCK.out.then ((Chg.swapTo (Chg.refl wr _) _ _ _ _ _).then (by first | exact Chg.drew _ _ | exact Chg.drewN _ _ _ | exact (Chg.drewN _ _ _).then (Chg.drewN _ _ _) | exact Chg.refl _ _))⟩
                      · have hJn : ¬ a = j := fun e => hJa e.symm
                        go_region
                        all_goals
                          go_wp2_with fail
                          go_ret2
                          have hsw := HRK.out.swapTo (j := j) (k := a) (Chg.refl wr _) (by omega) (by omega) HPA.out HXJ.out
                          exact ⟨by first | (rw [HDE.out]; rfl) | rw [HDE.out], by rw [HDE.out]; exact hsw.chg (by first | exact Chg.drew _ (fun _ => False) | exact Chg.drewN _ _ (fun _ => False) | exact (Chg.drewN _ _ (fun _ => False)).then (Chg.drewN _ _ _) | exact Chg.refl _ (fun _ => False)) (by simp), HCK.out.then ((Chg.swapTo (Chg.refl wr _) _ _ _ _ _).then (by first | exact Chg.drew _ _ | exact Chg.drewN _ _ _ | exact (Chg.drewN _ _ _).then (Chg.drewN _ _ _) | exact Chg.refl _ _))⟩
            · have hst : scanDown (fun x => !ltInt x pa) d0 i1 j0 = j1 := by rw [← HV.out]; exact scanDown_stop (fun h => absurd h hle2)
              have hDe := part_stop (a := a) (b := b) (pv := pv) (d := d) (d0 := d0) (i2 := i1) (j2 := j1) HD0.out (by rw [← HJ0.out, ← HPA.out]; exact HST.out) (by rw [← HJ0.out, ← HPA.out]; exact hst) (by omega)
              rw [← HD.out] at hDe
              have HDE := Lib.hid hDe
              have hdl : decide ((i1 : Int) ≤ (j1 : Int)) = false := by simp; omega
              have hgt : decide ((j1 : Int) < (i1 : Int)) = true := by simp; omega
              clear hst hDe
              go_wp2_with fail
              go_quiet (first | (go_at_call 93; refine Calls.quiet_of_same (less_any _ _ _)) | (go_at_call 93; exact quiet_add_same (less_any _ _ _)))
              go_wp2_with fail
              have cJ := HRK.out.cell (t := j1) (by omega)
              have fJ := HRK.out.free j1
              have fA := HRK.out.free a
              obtain ⟨xj, hxj⟩ : ∃ x, x = d0[j1]! := ⟨_, rfl⟩
              rw [← hxj] at cJ
              have HXJ := Lib.hid hxj
              clear hxj
              have hJs : (j1 : Int) < (d.size : Int) := by omega
              have hjj : j1 = a → xj = pa := fun e => by rw [HXJ.out, HPA.out, e]
              have HJJ := Lib.hid hjj; clear hjj
              by_cases hJa : j1 = a
              · have hjj := HJJ.out hJa
                subst hjj
                clear cJ fJ
                have hJ2 : (j1 : Int) = (a : Int) := by omega
                have HJE := Lib.hid hJa; clear hJa
                go_region
                all_goals
                  go_wp2_with fail
                  go_ret2
                  have hsw := HRK.out.swapTo (j := a) (k := a) (Chg.refl wr _) (by omega) (by omega) HPA.out HPA.out
                  exact ⟨by first | (rw [HDE.out, HJE.out]; rfl) | rw [HDE.out, HJE.out], by rw [HDE.out, HJE.out]; exact hsw.chg (by first | exact Chg.drew _ (fun _ => False) | exact Chg.drewN _ _ (fun _ => False) | exact (Chg.drewN _ _ (fun _ => False)).then (Chg.drewN _ _ _) | exact Chg.refl _ (fun _ => False)) (by simp), HCK.out.then ((Chg.swapTo (Chg.refl wr _) _ _ _ _ _).then (by first | exact Chg.drew _ _ | exact Chg.drewN _ _ _ | exact (Chg.drewN _ _ _).then (Chg.drewN _ _ _) | exact Chg.refl _ _))⟩
              · have hJn : ¬ a = j1 := fun e => hJa e.symm
                go_region
                all_goals
                  go_wp2_with fail
                  go_ret2
                  have hsw := HRK.out.swapTo (j := j1) (k := a) (Chg.refl wr _) (by omega) (by omega) HPA.out HXJ.out
                  exact ⟨by first | (rw [HDE.out]; rfl) | rw [HDE.out], by rw [HDE.out]; exact hsw.chg (by first | exact Chg.drew _ (fun _ => False) | exact Chg.drewN _ _ (fun _ => False) | exact (Chg.drewN _ _ (fun _ => False)).then (Chg.drewN _ _ _) | exact Chg.refl _ (fun _ => False)) (by simp), HCK.out.then ((Chg.swapTo (Chg.refl wr _) _ _ _ _ _).then (by first | exact Chg.drew _ _ | exact Chg.drewN _ _ _ | exact (Chg.drewN _ _ _).then (Chg.drewN _ _ _) | exact Chg.refl _ _))⟩
        · go_wp2_with fail
          go_quiet (first | (go_at_call 93; refine Calls.quiet_of_same (less_any _ _ _)) | (go_at_call 93; exact quiet_add_same (less_any _ _ _)))
          go_wp2_with fail
          go_roundg (g1 - 1)
          case measure => have := HG1.out; omega
          case rel => exact ⟨i1 + 1, by go_num, by have := HG1.out; omega, by omega, by omega, HRK.out.chg (Chg.drewN _ _ (fun _ => False)) (by simp), HCK.out.then (Chg.drewN _ _ _), by rw [← HU.out, scanUp_go hle (by show ltInt d0[i1]! pa = true; rw [← HX1.out, hl])]⟩
      · have hst : scanUp (fun x => ltInt x pa) d0 j0 (a + 1) = i1 := by rw [← HU.out]; exact scanUp_stop (fun h => absurd h hle)
        have hst2 : scanDown (fun x => !ltInt x pa) d0 i1 j0 = j0 := scanDown_stop (fun h => absurd h hle)
        have hDe := part_stop (a := a) (b := b) (pv := pv) (d := d) (d0 := d0) (i2 := i1) (j2 := j0) HD0.out (by rw [← HJ0.out, ← HPA.out]; exact hst) (by rw [← HJ0.out, ← HPA.out]; exact hst2) (by omega)
        rw [← HD.out] at hDe
        have HDE := Lib.hid hDe
        have hdl : decide ((i1 : Int) ≤ (j0 : Int)) = false := by simp; omega
        have hgt : decide ((j0 : Int) < (i1 : Int)) = true := by simp; omega
        clear hst hst2 hDe
        go_wp2_with fail
        go_quiet (first | (go_at_call 93; refine Calls.quiet_of_same (less_any _ _ _)) | (go_at_call 93; exact quiet_add_same (less_any _ _ _)))
        go_wp2_with fail
        refine wp_loop_rounds 1 ?_
        rw [rounds_succ]
        go_wp2_with fail
        go_quiet (first | (go_at_call 93; refine Calls.quiet_of_same (less_any _ _ _)) | (go_at_call 93; exact quiet_add_same (less_any _ _ _)))
        go_wp2_with fail
        have cJ := HRK.out.cell (t := j0) (by omega)
        have fJ := HRK.out.free j0
        have fA := HRK.out.free a
        obtain ⟨xj, hxj⟩ : ∃ x, x = d0[j0]! := ⟨_, rfl⟩
        rw [← hxj] at cJ
        have HXJ := Lib.hid hxj
        clear hxj
        have hJs : (j0 : Int) < (d.size : Int) := by omega
        have hjj : j0 = a → xj = pa := fun e => by rw [HXJ.out, HPA.out, e]
        have HJJ := Lib.hid hjj; clear hjj
        by_cases hJa : j0 = a
        · have hjj := HJJ.out hJa
          subst hjj
          clear cJ fJ
          have hJ2 : (j0 : Int) = (a : Int) := by omega
          have HJE := Lib.hid hJa; clear hJa
          go_region
          all_goals
            go_wp2_with fail
            go_ret2
            have hsw := HRK.out.swapTo (j := a) (k := a) (Chg.refl wr _) (by omega) (by omega) HPA.out HPA.out
            exact ⟨by first | (rw [HDE.out, HJE.out]; rfl) | rw [HDE.out, HJE.out], by rw [HDE.out, HJE.out]; exact hsw.chg (by first | exact Chg.drew _ (fun _ => False) | exact Chg.drewN _ _ (fun _ => False) | exact (Chg.drewN _ _ (fun _ => False)).then (Chg.drewN _ _ _) | exact Chg.refl _ (fun _ => False)) (by simp), HCK.out.then ((Chg.swapTo (Chg.refl wr _) _ _ _ _ _).then (by first | exact Chg.drew _ _ | exact Chg.drewN _ _ _ | exact (Chg.drewN _ _ _).then (Chg.drewN _ _ _) | exact Chg.refl _ _))⟩
        · have hJn : ¬ a = j0 := fun e => hJa e.symm
          go_region
          all_goals
            go_wp2_with fail
            go_ret2
            have hsw := HRK.out.swapTo (j := j0) (k := a) (Chg.refl wr _) (by omega) (by omega) HPA.out HXJ.out
            exact ⟨by first | (rw [HDE.out]; rfl) | rw [HDE.out], by rw [HDE.out]; exact hsw.chg (by first | exact Chg.drew _ (fun _ => False) | exact Chg.drewN _ _ (fun _ => False) | exact (Chg.drewN _ _ (fun _ => False)).then (Chg.drewN _ _ _) | exact Chg.refl _ (fun _ => False)) (by simp), HCK.out.then ((Chg.swapTo (Chg.refl wr _) _ _ _ _ _).then (by first | exact Chg.drew _ _ | exact Chg.drewN _ _ _ | exact (Chg.drewN _ _ _).then (Chg.drewN _ _ _) | exact Chg.refl _ _))⟩
end Go.Proofs.Ytcgccoigjcdjeaa
