/- The library's sort at numbers: pdqsortOrdered, slices.Sort. Condition: a slice at the head of its block, at most 49 numbers. -/
import Derived.Test.YtcgccoigjcdjeaaSortD
import Derived.Test.YtcgccoigjcdjeaaSoZ
import Derived.Sort.LotD3
import Derived.Deep.CutRange
namespace Go.Proofs.Ytcgccoigjcdjeaa
open Go.RowKit Go.Sort

/-- what a sort of a part leaves -/
def PartS (w : World) (g e a b : Nat) (d : Array Int) (rest : List Value) (e' : Ending) (w' : World) : Prop :=
  e' = .returned (.tuple #[]) ∧ (∃ d' : Array Int, RowV w' g e d' rest ∧ PermIn a b d d' ∧ SortedIn ltInt a b d') ∧ Chg w w' (fun i => i = g)
/-- whatever sorted permutation of the part that is left comes back, the whole is one -/
def Rest (a b a' b' : Nat) (d dk : Array Int) : Prop := ∀ R, PermIn a' b' dk R → SortedIn ltInt a' b' R → PermIn a b d R ∧ SortedIn ltInt a b R

set_option maxRecDepth 100000 in
set_option maxHeartbeats 1600000 in
theorem pdq_any : ∀ (M g e cap a b limit : Nat) (d : Array Int) (rest : List Value) (w : World), b - a < M → RowV w g e d rest → a ≤ b → b < a + 50 → b ≤ d.size → d.size < 1152921504606846976 → limit < 1152921504606846976 → Below ltInt a b d →
    Calls Try.prog 60 #[.slice (some ⟨g, 0, none⟩) d.size cap, .int .i64 a, .int .i64 b, .int .i64 limit] w (PartS w g e a b d rest) := by
  intro M
  induction M with
  | zero => intro _ _ _ _ _ _ _ _ _ h; exact absurd h (Nat.not_lt_zero _)
  | succ M ih =>
    intro g e cap a b limit d rest w hM hr hab hab50 hb hsz hlimit hBel0
    have HR := Lib.hid hr; have HB0 := Lib.hid hBel0; have IH := Lib.hid ih
    clear hr hBel0 ih
    unfold PartS
    go_enter Try.func60, Try.ntmps60
    go_wp2_with fail
    go_loopg [1, 2, 3, 8, 9] (b - a) (fun n s1 s2 s3 s8 s9 wr => ∃ (a' b' lim : Nat) (wb wp : Bool) (dk : Array Int), s1 = .int .i64 a' ∧ s2 = .int .i64 b' ∧ s3 = .int .i64 lim ∧ s8 = .bool wb ∧ s9 = .bool wp ∧
      a' ≤ b' ∧ a ≤ a' ∧ b' ≤ b ∧ b' - a' ≤ n ∧ lim ≤ limit ∧ dk.size = d.size ∧ Below ltInt a' b' dk ∧ RowV wr g e dk rest ∧ Chg w wr (fun i => i = g) ∧ Rest a b a' b' d dk)
    case atStart => exact ⟨a, b, limit, true, true, d, rfl, rfl, rfl, rfl, rfl, hab, Nat.le_refl _, Nat.le_refl _, Nat.le_refl _, Nat.le_refl _, rfl, HB0.out, HR.out, Chg.refl _ _, fun R h1 h2 => ⟨h1, h2⟩⟩
    case round =>
      clear HR HB0
      obtain ⟨a', b', lim, wb, wp, dk, rfl, rfl, rfl, rfl, rfl, hab', haa, hbb, hk, hlim, hds, hBel, hrk, hck, hrest⟩ := hrel
      have HRK := Lib.hid hrk; have HCK := Lib.hid hck; have HBEL := Lib.hid hBel; have HREST := Lib.hid hrest; have HK := Lib.hid hk; have HLIM := Lib.hid hlim
      clear hrk hck hBel hrest hk hlim
      by_cases h12 : b' - a' ≤ 12
      · have h12z : decide ((b' : Int) - (a' : Int) ≤ 12) = true := by simp; omega
        have hc := insertion_any g e cap a' b' dk rest wr HRK.out hab' (by omega) (by omega)
        rw [hds] at hc
        go_wp2_with (go_at_call 87; refine hc.mono ?_; rintro e w1 ⟨rfl, hr1, hc1⟩)
        obtain ⟨h1, h2⟩ := insertionSort_holds swo_ltInt dk a' b' hab' (by omega)
        obtain ⟨h3, h4⟩ := HREST.out _ h1 h2
        refine bodyPost_ret (results_none rfl _ _ _) rfl ⟨rfl, ⟨_, hr1, h3, h4⟩, HCK.out.then hc1⟩
      · have h12z : decide ((b' : Int) - (a' : Int) ≤ 12) = false := by simp; omega
        by_cases hl0 : lim = 0
        · subst hl0
          have hc := heap_any g e cap a' b' dk rest wr HRK.out (by omega) (by omega) (by omega)
          rw [hds] at hc
          go_wp2_with (go_at_call 88; refine hc.mono ?_; rintro e w1 ⟨rfl, hr1, hc1⟩)
          obtain ⟨h1, h2⟩ := heapSort_holds (lt := ltInt) swo_ltInt dk a' b' hab' (by omega)
          obtain ⟨h3, h4⟩ := HREST.out _ h1 h2
          refine bodyPost_ret (results_none rfl _ _ _) rfl ⟨rfl, ⟨_, hr1, h3, h4⟩, HCK.out.then hc1⟩
        · have hl0z : ((lim : Int) == 0) = false := by simpa using hl0
          have HL0 := Lib.hid hl0; clear hl0
          go_upto_if 35 with fail
          go_cut [3] from 19 to 133 (fun s3 wc => ∃ (l2 : Nat) (d2 : Array Int), s3 = .int .i64 l2 ∧ l2 ≤ limit ∧ PermIn a' b' dk d2 ∧ RowV wc g e d2 rest ∧ Chg w wc (fun i => i = g))
          case first =>
            cases wb
            · obtain ⟨l1, hl1, hl1I⟩ : ∃ l1 : Nat, l1 ≤ limit ∧ (lim : Int) - 1 = (l1 : Int) := ⟨lim - 1, by have := HLIM.out; omega, by have := HL0.out; omega⟩
              have hc := break_any g e cap a' b' dk rest wr HRK.out (by omega) (by omega) (by omega) (by omega)
              rw [hds] at hc
              go_wp2_with (go_at_call 89; refine hc.mono ?_; rintro e w1 ⟨rfl, ⟨d2, hr1, hp1⟩, hc1⟩)
              go_meet
              case rel => exact ⟨l1, d2, rfl, hl1, hp1, hr1, HCK.out.then hc1⟩
            · go_wp2_with fail
              go_meet
              case rel => exact ⟨lim, dk, rfl, HLIM.out, permIn_refl dk a' b', HRK.out, HCK.out⟩
          case rest =>
            obtain ⟨l2, d2, rfl, hl2, hp2, hr2, hc2⟩ := hcut
            have hds2 : d2.size = d.size := hp2.1.trans hds
            have hB2 := HBEL.out.perm (by omega) hp2
            have HP2 := Lib.hid hp2; have HR2 := Lib.hid hr2; have HC2 := Lib.hid hc2; have HB2 := Lib.hid hB2; have HL2 := Lib.hid hl2
            clear hp2 hr2 hc2 hB2 hl2 HLIM HL0 hl0z
            have hc := pivot_any g e cap a' b' d2 rest wc HR2.out (by omega) (by omega) (by omega) (by omega)
            rw [hds2] at hc
            go_upto_if 50 with (go_at_call 90; refine hc.mono ?_; rintro e w3 ⟨⟨p, h, rfl, hap, hpb, hh⟩, hn3⟩)
            have HR3 := Lib.hid (HR2.out.chg hn3 (by simp)); have HC3 := Lib.hid (HC2.out.trans hn3 (fun _ _ h => h) (fun i hi e => by simp at e))
            clear hc hn3
            have hh2 : ((h : Int) == 2) = false := by simp; omega
            go_upto_region 15 with fail
            go_cut [68] from 19 to 133 (fun s68 wx => ∃ c : Bool, s68 = .bool c ∧ w3 = wx)
            case first =>
              have h01 : h = 0 ∨ h = 1 := by omega
              rcases h01 with rfl | rfl <;> cases wb <;> cases wp <;>
                (go_wp2_with fail
                 go_meet
                 case rel => exact ⟨_, rfl, rfl⟩)
            case rest =>
              obtain ⟨c, rfl, rfl⟩ := hcut
              go_upto_if 68 with fail
              go_cut [] from 19 to 133 (fun wx => New w3 wx)
              case first =>
                cases c
                · go_wp2_with fail
                  go_meet
                  case rel => exact Chg.refl _ _
                · have hc := partial_any g e cap a' b' d2 rest w3 HR3.out (by omega) (by omega) (by omega) (by omega)
                  rw [hds2] at hc
                  go_wp2_with (go_at_call 92; refine hc.mono ?_; rintro e w4 ⟨⟨r, rfl, hrs⟩, hn4⟩)
                  · rename_i hrt
                    obtain ⟨h3, h4⟩ := HREST.out _ HP2.out (hrs hrt)
                    refine bodyPost_ret (results_none rfl _ _ _) rfl ⟨rfl, ⟨_, HR3.out.chg hn4 (by simp), h3, h4⟩, HC3.out.trans hn4 (fun _ _ h => h) (fun i hi e => by simp at e)⟩
                  · go_meet
                    case rel => exact hn4
              case rest =>
                have HR5 := Lib.hid (HR3.out.chg hcut (by simp)); have HC5 := Lib.hid (HC3.out.trans hcut (fun _ _ h => h) (fun i hi e => by simp at e))
                clear hcut
                have hf : PermIn a' b' dk d2 := HP2.out
                have cp := HR5.out.cell (t := p) (by omega)
                obtain ⟨y, hy⟩ : ∃ y, y = d2[p]! := ⟨_, rfl⟩
                rw [← hy] at cp
                have HY := Lib.hid hy
                have hpS : (p : Int) < (d.size : Int) := by omega
                clear hy hf
                go_upto_region 17 with fail
                go_cut [87] from 19 to 133 (fun s87 wx => ∃ c : Bool, s87 = .bool c ∧ (c = true → 0 < a' ∧ ltInt d2[a' - 1]! d2[p]! = false) ∧ New wc wx)
                case first =>
                  by_cases ha0 : a' = 0
                  · have ha0z : decide ((0 : Int) < (a' : Int)) = false := by simp; omega
                    have ha0y : decide (0 < a') = false := by simp; omega
                    clear ha0
                    go_quiet (first | (go_at_call 93; refine Calls.quiet_of_same (less_any _ _ _)))
                    go_wp2_with fail
                    go_meet
                    case rel => exact ⟨false, rfl, (fun h => by cases h), Chg.drewN _ _ _⟩
                  · have ha0z : decide ((0 : Int) < (a' : Int)) = true := by simp; omega
                    have ha0y : decide (0 < a') = true := by simp; omega
                    obtain ⟨q, hq⟩ : ∃ q : Nat, q = a' - 1 := ⟨_, rfl⟩
                    have hqI : (a' : Int) - 1 = (q : Int) := by omega
                    have cq := HR5.out.cell (t := q) (by omega)
                    obtain ⟨x, hx⟩ : ∃ x, x = d2[q]! := ⟨_, rfl⟩
                    rw [← hx] at cq
                    have HX := Lib.hid hx; have HQ := Lib.hid hq
                    have hqS : (q : Int) < (d.size : Int) := by omega
                    clear hx hq
                    go_quiet (first | (go_at_call 93; refine Calls.quiet_of_same (less_any _ _ _)))
                    go_wp2_with fail
                    go_meet
                    case rel => exact ⟨!ltInt x y, rfl, fun h => ⟨by omega, by rw [← HQ.out, ← HX.out, ← HY.out]; simpa using h⟩, Chg.drewN _ _ _⟩
                case rest =>
                  obtain ⟨c, rfl, hcc, hn6⟩ := hcut
                  have HR6 := Lib.hid (HR5.out.chg hn6 (by simp)); have HC6 := Lib.hid (HC5.out.trans hn6 (fun _ _ h => h) (fun i hi e => by simp at e))
                  have HCC := Lib.hid hcc
                  clear hcc hn6 cp HR5 HC5 HR3 HC3 HR2 HC2 HRK HCK
                  cases c
                  · obtain ⟨mid, ap, d4, hx⟩ : ∃ mid ap d4, partition ltInt d2 a' b' p = (mid, ap, d4) := ⟨(partition ltInt d2 a' b' p).1, (partition ltInt d2 a' b' p).2.1, (partition ltInt d2 a' b' p).2.2, rfl⟩
                    obtain ⟨r1, r2, r3, r4, r5, r6, r7⟩ := round_part swo_ltInt (partition_holds ltInt) hap hpb (by omega) HB2.out hx
                    have hc := part_any g e cap a' b' p d2 rest _ HR6.out hap hpb (by omega) (by omega)
                    rw [hds2, hx] at hc
                    dsimp only at hc
                    have hd4 : d4.size = d.size := r3.trans hds2
                    have HX := Lib.hid hx; have HB4 := Lib.hid r4; have HB5 := Lib.hid r5; have H6 := Lib.hid r6; have H7 := Lib.hid r7; have HC := Lib.hid hc
                    clear hx r4 r5 r6 r7 hc r3
                    go_upto_if 113 with (go_at_call 95; refine HC.out.mono ?_; rintro e w7 ⟨rfl, hr7, hc7⟩)
                    have HR7 := Lib.hid hr7; have HC7 := Lib.hid (HC6.out.then hc7)
                    clear hr7 hc7 HC HR6 HC6
                    by_cases h4 : mid - a' < b' - mid
                    · have h4z : (mid : Int) - (a' : Int) < (b' : Int) - (mid : Int) := by omega
                      have hih := IH.out g e cap a' mid l2 d4 rest w7 (by have := HL2.out; omega) HR7.out (by omega) (by omega) (by omega) (by omega) (by have := HL2.out; omega) HB4.out
                      rw [hd4] at hih
                      clear h4
                      go_wp2_with fail
                      (with_reducible refine hih.mono ?_)
                      rintro e w8 ⟨rfl, ⟨L, hrL, hpL, hsL⟩, hcL⟩
                      go_wp2_with fail
                      go_roundg (b' - (mid + 1))
                      case measure => have := HK.out; omega
                      case rel =>
                        obtain ⟨q1, q2⟩ := H6.out L hpL hsL
                        refine ⟨mid + 1, b', l2, _, ap, L, by go_num, rfl, rfl, rfl, rfl, by omega, by omega, hbb, Nat.le_refl _, HL2.out, hpL.1.trans hd4, q1, hrL, HC7.out.then hcL, fun R h1 h2 => ?_⟩
                        obtain ⟨h3, h4⟩ := q2 R h1 h2
                        exact HREST.out R (permIn_trans _ _ _ a' b' HP2.out h3) h4
                    · have h4z : ¬ ((mid : Int) - (a' : Int) < (b' : Int) - (mid : Int)) := by omega
                      have hih := IH.out g e cap (mid + 1) b' l2 d4 rest w7 (by omega) HR7.out (by omega) (by omega) (by omega) (by omega) (by have := HL2.out; omega) HB5.out
                      rw [hd4] at hih
                      clear h4
                      have hm1 : ((mid + 1 : Nat) : Int) = (mid : Int) + 1 := by omega
                      rw [hm1] at hih
                      go_wp2_with fail
                      (with_reducible refine hih.mono ?_)
                      rintro e w8 ⟨rfl, ⟨L, hrL, hpL, hsL⟩, hcL⟩
                      go_wp2_with fail
                      go_roundg (mid - a')
                      case measure => have := HK.out; omega
                      case rel =>
                        obtain ⟨q1, q2⟩ := H7.out L hpL hsL
                        refine ⟨a', mid, l2, _, ap, L, rfl, rfl, rfl, rfl, rfl, by omega, haa, by omega, Nat.le_refl _, HL2.out, hpL.1.trans hd4, q1, hrL, HC7.out.then hcL, fun R h1 h2 => ?_⟩
                        obtain ⟨h3, h4⟩ := q2 R h1 h2
                        exact HREST.out R (permIn_trans _ _ _ a' b' HP2.out h3) h4
                  · obtain ⟨ha0, hnl⟩ := HCC.out rfl
                    obtain ⟨mid, d4, hx⟩ : ∃ mid d4, partitionEqual ltInt d2 a' b' p = (mid, d4) := ⟨(partitionEqual ltInt d2 a' b' p).1, (partitionEqual ltInt d2 a' b' p).2, rfl⟩
                    obtain ⟨r1, r2, r3, r4, r5⟩ := round_eq swo_ltInt (partitionEqual_holds ltInt) ha0 hap hpb (by omega) HB2.out hnl hx
                    have hc := peq_any g e cap a' b' p d2 rest _ HR6.out hap hpb (by omega) (by omega)
                    rw [hds2, hx] at hc
                    dsimp only at hc
                    have HX := Lib.hid hx; have HR4 := Lib.hid r4; have HR5 := Lib.hid r5; have HNL := Lib.hid hnl
                    clear hx r4 r5 hnl
                    go_wp2_with (go_at_call 94; refine hc.mono ?_; rintro e w7 ⟨rfl, hr7, hc7⟩)
                    go_roundg (b' - mid)
                    case measure => have := HK.out; omega
                    case rel =>
                      refine ⟨mid, b', l2, wb, wp, d4, rfl, rfl, rfl, rfl, rfl, r2, by omega, hbb, Nat.le_refl _, HL2.out, r3.trans hds2, HR4.out, hr7, HC6.out.then hc7, fun R h1 h2 => ?_⟩
                      obtain ⟨h3, h4⟩ := HR5.out R h1 h2
                      exact HREST.out R (permIn_trans _ _ _ a' b' HP2.out h3) h4
set_option maxRecDepth 100000 in
theorem bit49 (n : Nat) (hn : n ≤ 49) : Lib.bitLen n < 100 := by
  have h : ∀ n, n < 50 → Lib.bitLen n < 100 := by decide
  exact h n (by omega)
set_option maxRecDepth 100000 in
theorem sort_any (g e cap : Nat) (d : Array Int) (rest : List Value) (w : World) (hr : RowV w g e d rest) (hsz : d.size ≤ 49) :
    Calls Try.prog 34 #[.slice (some ⟨g, 0, none⟩) d.size cap] w (Sorted w g e d rest) := by
  have HR := Lib.hid hr; clear hr
  have hc := pdq_any (d.size + 1) g e cap 0 d.size (Lib.bitLen d.size) d rest w (by omega) HR.out (by omega) (by omega) (Nat.le_refl _) (by omega) (Nat.lt_trans (bit49 d.size hsz) (by decide)) (.inl rfl)
  go_enter Try.func34, Try.ntmps34
  go_wp2_with (first
    | (go_at_call 61; refine (len_any d.size _ (by omega)).mono ?_; rintro e' w1 ⟨rfl, rfl⟩)
    | (go_at_call 60; refine hc.mono ?_; rintro e' w1 ⟨rfl, ⟨d', hr1, hp, hs⟩, hc1⟩)
    | fail)
  go_end0
  obtain ⟨h3, h4, h5⟩ := sorted_of hp hs
  exact ⟨rfl, d', hr1, h3, h4, h5, hc1⟩
end Go.Proofs.Ytcgccoigjcdjeaa
