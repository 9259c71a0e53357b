/- laws.piAsked. Condition: at most 2^31 - 1 numbers a list, changes. -/
import Derived.Test.YtcgccoigjcdjeaaChZa
import Derived.Test.YtcgccoigjcdjeaaQvZ
import Derived.Test.YtcgccoigjcdjeaaConfX
namespace Go.Proofs.Ytcgccoigjcdjeaa
open Go.RowKit Go.Sort Go.Lib

/-- rising from 1 on, at a place -/
def okAt (l : List Int) (j : Nat) : Prop := ∀ h : j < l.length, 1 ≤ l[j] ∧ ∀ h0 : 0 < j, l[j - 1] < l[j]
def okS (l : List Int) : Prop := ∀ j, okAt l j
/-- a configuration that may be -/
structure PropC (V VO L N : List Int) (al : Bool) : Prop where
  s0 : okS V
  s1 : okS VO
  s2 : okS L
  s3 : okS N
  lrn : ∀ x ∈ L, x ∉ V ∧ x ∉ VO ∧ x ∉ N
  nxt : ∀ x ∈ N, x ∈ VO ∧ x ∉ V
  emp : V = [] → VO = [] ∧ L = []
  out : VO = [] → N = [] ∧ al = false

def lstOf (V VO L N : List Int) : Nat → List Int
  | 0 => V
  | 1 => VO
  | 2 => L
  | _ => N
/-- an answer of a test -/
def Said (w : World) (P : Prop) (e : Ending) (w' : World) : Prop := (∃ r, e = .returned (.bool r) ∧ (r = true ↔ P)) ∧ New w w'
theorem PropC.lst {V VO L N : List Int} {al : Bool} (hp : PropC V VO L N al) (i : Nat) : okS (lstOf V VO L N i) := by
  unfold lstOf
  split
  · exact hp.s0
  · exact hp.s1
  · exact hp.s2
  · exact hp.s3
set_option maxRecDepth 100000 in
set_option maxHeartbeats 6400000 in
theorem proper27_any (a b c d : Value) (V VO L N : List Int) (al : Bool) (w : World) (h0 : Us w a V) (h1 : Us w b VO) (h2 : Us w c L) (h3 : Us w d N)
    (n0 : V.length ≤ 2147483647) (n1 : VO.length ≤ 2147483647) (n2 : L.length ≤ 2147483647) (n3 : N.length ≤ 2147483647) :
    Calls Try.prog 27 #[.agg #[a, b, c, d, .bool al]] w (Said w (PropC V VO L N al)) := by
  obtain ⟨oa, ca, rfl, -⟩ := id h0
  obtain ⟨ob, cb, rfl, -⟩ := id h1
  obtain ⟨oc, cc, rfl, -⟩ := id h2
  obtain ⟨od, cd, rfl, -⟩ := id h3
  have H0 := Lib.hid h0; have H1 := Lib.hid h1; have H2 := Lib.hid h2; have H3 := Lib.hid h3
  clear h0 h1 h2 h3
  go_enter Try.func27, Try.ntmps27
  go_wp2_with fail
  have hb0 := block_alloc (block_new w (.cells #[.slice oa V.length ca, .slice ob VO.length cb, .slice oc L.length cc, .slice od N.length cd, .bool al] 44)) (.cells #[.slice oa V.length ca, .slice ob VO.length cb, .slice oc L.length cc, .slice od N.length cd] 22)
  have hb1 := block_new1 w (.cells #[.slice oa V.length ca, .slice ob VO.length cb, .slice oc L.length cc, .slice od N.length cd, .bool al] 44) (.cells #[.slice oa V.length ca, .slice ob VO.length cb, .slice oc L.length cc, .slice od N.length cd] 22)
  have hnw : New w ((w.alloc (.cells #[.slice oa V.length ca, .slice ob VO.length cb, .slice oc L.length cc, .slice od N.length cd, .bool al] 44)).alloc (.cells #[.slice oa V.length ca, .slice ob VO.length cb, .slice oc L.length cc, .slice od N.length cd] 22)) := (Chg.alloc _ _ _).then (Chg.alloc _ _ _)
  obtain ⟨w2, hw2⟩ : ∃ w2, w2 = ((w.alloc (.cells #[.slice oa V.length ca, .slice ob VO.length cb, .slice oc L.length cc, .slice od N.length cd, .bool al] 44)).alloc (.cells #[.slice oa V.length ca, .slice ob VO.length cb, .slice oc L.length cc, .slice od N.length cd] 22)) := ⟨_, rfl⟩
  rw [← hw2] at hb0 hb1 hnw ⊢
  have U0 := Lib.hid (H0.out.new hnw); have U1 := Lib.hid (H1.out.new hnw); have U2 := Lib.hid (H2.out.new hnw); have U3 := Lib.hid (H3.out.new hnw)
  have HB0 := Lib.hid hb0; have HB1 := Lib.hid hb1; have HNW := Lib.hid hnw
  clear hw2 hb0 hb1 hnw H0 H1 H2 H3
  have hcell : ∀ i, i < 4 → ∃ ao cap, w2.cell? ⟨w.heap.size + 1, i, none⟩ = some (.slice ao (lstOf V VO L N i).length cap) ∧ Us w2 (.slice ao (lstOf V VO L N i).length cap) (lstOf V VO L N i) ∧ (lstOf V VO L N i).length ≤ 2147483647 := fun i hi => by
    have : i = 0 ∨ i = 1 ∨ i = 2 ∨ i = 3 := by omega
    rcases this with rfl | rfl | rfl | rfl
    · exact ⟨_, _, cell_of_block (off := 0) HB1.out rfl, U0.out, n0⟩
    · exact ⟨_, _, cell_of_block (off := 1) HB1.out rfl, U1.out, n1⟩
    · exact ⟨_, _, cell_of_block (off := 2) HB1.out rfl, U2.out, n2⟩
    · exact ⟨_, _, cell_of_block (off := 3) HB1.out rfl, U3.out, n3⟩
  have HCELL := Lib.hid hcell
  clear hcell
  go_loopg [23] 4 (fun n j wr => ∃ i : Nat, i ≤ 4 ∧ 4 ≤ n + i ∧ j = .int .i64 i ∧ (∀ t, t < i → okS (lstOf V VO L N t)) ∧ w2 = wr)
  case atStart => exact ⟨0, by omega, by omega, rfl, by omega, rfl⟩
  case round =>
    obtain ⟨i, hi, hg, rfl, hok, rfl⟩ := hrel
    have HG := Lib.hid hg; have HOK := Lib.hid hok
    clear hg hok
    by_cases hlt : i < 4
    · obtain ⟨ao, cap, hc, hu, hn⟩ := HCELL.out i hlt
      obtain ⟨l, hl⟩ : ∃ l, l = lstOf V VO L N i := ⟨_, rfl⟩
      rw [← hl] at hc hu hn
      obtain ⟨ao', cap', e1, hu⟩ := hu
      cases e1
      have HL := Lib.hid hl; have HU := Lib.hid hu
      have hd4 : decide ((i : Int) < 4) = true := by simp; omega
      clear hl hu
      go_wp2_with fail
      go_loopg [29] l.length (fun n j wr => ∃ k : Nat, k ≤ l.length ∧ l.length ≤ n + k ∧ j = .int .i64 k ∧ (∀ t, t < k → okAt l t) ∧ w2 = wr)
      case atStart => exact ⟨0, by omega, by omega, rfl, by omega, rfl⟩
      case round =>
        obtain ⟨k, hk, hg2, rfl, hok2, rfl⟩ := hrel
        have HG2 := Lib.hid hg2; have HOK2 := Lib.hid hok2
        clear hg2 hok2
        by_cases hlt2 : k < l.length
        · obtain ⟨bb, off, rfl, hck⟩ := HU.out k hlt2
          obtain ⟨x, hx⟩ : ∃ x, x = l[k] := ⟨_, rfl⟩
          rw [← hx] at hck
          have HX := Lib.hid hx
          clear hx
          by_cases hx1 : x < 1
          · have hxd : decide (x < 1) = true := by simpa using hx1
            have hf : ¬ PropC V VO L N al := fun hp => by
              have hs : okS l := by rw [HL.out]; exact hp.lst i
              have := (hs k hlt2).1
              rw [← HX.out] at this
              omega
            have HF := Lib.hid hf
            clear hx1 hf
            go_wp2_with fail
            refine bodyPost_ret (results_tmp rfl _ _ _) rfl ⟨⟨false, rfl, ⟨(fun h => by cases h), fun h => absurd h HF.out⟩⟩, HNW.out⟩
          · have hxd : decide (x < 1) = false := by simpa using hx1
            have HX1 := Lib.hid hx1
            clear hx1
            by_cases hk0 : k = 0
            · have hkd : decide ((0 : Int) < (k : Int)) = false := by simp; omega
              have HK0 := Lib.hid hk0
              have hkp : ¬ 0 < k := by omega
              clear hk0
              go_wp2_with fail
              go_roundg (gk - 1)
              case measure => have := HG2.out; omega
              case rel =>
                refine ⟨k + 1, by omega, by have := HG2.out; omega, by go_num, fun t ht => ?_, rfl⟩
                by_cases e : t = k
                · subst e
                  exact fun _ => ⟨by rw [← HX.out]; have := HX1.out; omega, fun h => by have := HK0.out; omega⟩
                · exact HOK2.out t (by omega)
            · have hkp : 0 < k := by omega
              have hlt3 : k - 1 < l.length := by omega
              obtain ⟨q, hq⟩ : ∃ q, q = k - 1 := ⟨_, rfl⟩
              have hqI : (k : Int) - 1 = (q : Int) := by omega
              have hqw : IntKind.i64.wrap (q : Int) = (q : Int) := IntWalk.i64_in _ (by omega)
              have hql : q < l.length := by omega
              obtain ⟨bb', off', e2, hcq⟩ := HU.out q hql
              cases e2
              obtain ⟨y, hy⟩ : ∃ y, y = l[q] := ⟨_, rfl⟩
              rw [← hy] at hcq
              have HY := Lib.hid hy; have HQ := Lib.hid hq
              clear hy hq hk0
              by_cases hyx : y < x
              · have hyd : decide (x ≤ y) = false := by simp; omega
                have HYX := Lib.hid hyx
                clear hyx
                go_wp2_with fail
                go_roundg (gk - 1)
                case measure => have := HG2.out; omega
                case rel =>
                  refine ⟨k + 1, by omega, by have := HG2.out; omega, by go_num, fun t ht => ?_, rfl⟩
                  by_cases e : t = k
                  · subst e
                    refine fun _ => ⟨by rw [← HX.out]; have := HX1.out; omega, fun h => ?_⟩
                    have h1 := HYX.out
                    rw [HX.out, HY.out] at h1
                    have h2 := HQ.out
                    subst h2
                    exact h1
                  · exact HOK2.out t (by omega)
              · have hyd : decide (x ≤ y) = true := by simp; omega
                have hf : ¬ PropC V VO L N al := fun hp => by
                  have hs : okS l := by rw [HL.out]; exact hp.lst i
                  have h1 := (hs k hlt2).2 hkp
                  have h2 := HQ.out
                  subst h2
                  rw [← HX.out, ← HY.out] at h1
                  exact hyx h1
                have HF := Lib.hid hf
                clear hyx hf
                go_wp2_with fail
                refine bodyPost_ret (results_tmp rfl _ _ _) rfl ⟨⟨false, rfl, ⟨(fun h => by cases h), fun h => absurd h HF.out⟩⟩, HNW.out⟩
        · have hkl : k = l.length := by omega
          have hs : okS l := fun t ht => HOK2.out t (by omega) ht
          have HS := Lib.hid hs
          clear hkl hs
          go_wp2_with fail
          go_roundg (4 - (i + 1))
          case measure => have := HG.out; omega
          case rel =>
            refine ⟨i + 1, by omega, by omega, by go_num, fun t ht => ?_, rfl⟩
            by_cases e : t = i
            · subst e; rw [← HL.out]; exact HS.out
            · exact HOK.out t (by omega)
    · have hi4 : i = 4 := by omega
      subst hi4
      have hs : okS V ∧ okS VO ∧ okS L ∧ okS N := ⟨HOK.out 0 (by omega), HOK.out 1 (by omega), HOK.out 2 (by omega), HOK.out 3 (by omega)⟩
      have HS := Lib.hid hs
      have q0 := cell_of_block (off := 0) HB0.out rfl; have q1 := cell_of_block (off := 1) HB0.out rfl; have q2 := cell_of_block (off := 2) HB0.out rfl; have q3 := cell_of_block (off := 3) HB0.out rfl; have q4 := cell_of_block (off := 4) HB0.out rfl
      simp only [List.getElem_toArray, List.getElem_cons_zero, List.getElem_cons_succ] at q0 q1 q2 q3 q4
      clear hs HOK HG hlt hi HCELL HB1
      go_wp2_with fail
      go_loopg [54] L.length (fun n j wr => ∃ k : Nat, k ≤ L.length ∧ L.length ≤ n + k ∧ j = .int .i64 k ∧ (∀ x ∈ L.take k, x ∉ V ∧ x ∉ VO ∧ x ∉ N) ∧ w2 = wr)
      case atStart => exact ⟨0, by omega, by omega, rfl, by simp, rfl⟩
      case round =>
        obtain ⟨k, hk, hg2, rfl, hok2, rfl⟩ := hrel
        have HG2 := Lib.hid hg2; have HOK2 := Lib.hid hok2
        clear hg2 hok2
        by_cases hlt : k < L.length
        · obtain ⟨ao, cap, e1, hu⟩ := U2.out
          cases e1
          obtain ⟨bb, off, rfl, hck⟩ := hu k hlt
          have htk := List.take_succ_eq_append_getElem hlt
          have hmem := List.getElem_mem hlt
          obtain ⟨x, hx⟩ : ∃ x, x = L[k] := ⟨_, rfl⟩
          rw [← hx] at hck htk hmem
          have HTK := Lib.hid htk; have HME := Lib.hid hmem
          clear hx htk hmem hu
          go_wp2_with fail
          refine (contains36_any (.slice oa V.length ca) V x _ U0.out n0).mono ?_
          have hb : decide (x ∈ V) = true ∨ decide (x ∈ V) = false := by cases decide (x ∈ V) <;> simp
          rcases hb with hb | hb
          · have hf : ¬ PropC V VO L N al := fun hp => (hp.lrn x HME.out).1 (of_decide_eq_true hb)
            have HF := Lib.hid hf
            rw [hb]
            clear hb hf
            rintro e w3 ⟨rfl, rfl⟩
            go_wp2_with fail
            refine bodyPost_ret (results_tmp rfl _ _ _) rfl ⟨⟨false, rfl, ⟨(fun h => by cases h), fun h => absurd h HF.out⟩⟩, HNW.out⟩
          · have E0 := Lib.hid (of_decide_eq_false hb)
            rw [hb]
            clear hb
            rintro e w3 ⟨rfl, rfl⟩
            go_wp2_with fail
            refine (contains36_any (.slice ob VO.length cb) VO x _ U1.out n1).mono ?_
            have hb : decide (x ∈ VO) = true ∨ decide (x ∈ VO) = false := by cases decide (x ∈ VO) <;> simp
            rcases hb with hb | hb
            · have hf : ¬ PropC V VO L N al := fun hp => (hp.lrn x HME.out).2.1 (of_decide_eq_true hb)
              have HF := Lib.hid hf
              rw [hb]
              clear hb hf
              rintro e w3 ⟨rfl, rfl⟩
              go_wp2_with fail
              refine bodyPost_ret (results_tmp rfl _ _ _) rfl ⟨⟨false, rfl, ⟨(fun h => by cases h), fun h => absurd h HF.out⟩⟩, HNW.out⟩
            · have E1 := Lib.hid (of_decide_eq_false hb)
              rw [hb]
              clear hb
              rintro e w3 ⟨rfl, rfl⟩
              go_wp2_with fail
              refine (contains36_any (.slice od N.length cd) N x _ U3.out n3).mono ?_
              have hb : decide (x ∈ N) = true ∨ decide (x ∈ N) = false := by cases decide (x ∈ N) <;> simp
              rcases hb with hb | hb
              · have hf : ¬ PropC V VO L N al := fun hp => (hp.lrn x HME.out).2.2 (of_decide_eq_true hb)
                have HF := Lib.hid hf
                rw [hb]
                clear hb hf
                rintro e w3 ⟨rfl, rfl⟩
                go_wp2_with fail
                refine bodyPost_ret (results_tmp rfl _ _ _) rfl ⟨⟨false, rfl, ⟨(fun h => by cases h), fun h => absurd h HF.out⟩⟩, HNW.out⟩
              · have E2 := Lib.hid (of_decide_eq_false hb)
                rw [hb]
                clear hb
                rintro e w3 ⟨rfl, rfl⟩
                go_wp2_with fail
                go_roundg (gk - 1)
                case measure => have := HG2.out; omega
                case rel =>
                  refine ⟨k + 1, by omega, by have := HG2.out; omega, by go_num, fun y hy => ?_, rfl⟩
                  rw [HTK.out] at hy
                  rcases List.mem_append.1 hy with hy | hy
                  · exact HOK2.out y hy
                  · simp at hy; subst hy; exact ⟨E0.out, E1.out, E2.out⟩
        · have hls : ∀ x ∈ L, x ∉ V ∧ x ∉ VO ∧ x ∉ N := by
            have := HOK2.out
            rwa [List.take_of_length_le (by omega)] at this
          have HLS := Lib.hid hls
          clear hls HOK2 HG2
          go_wp2_with fail
          clear hlt hk
          go_loopg [80] N.length (fun n j wr => ∃ k : Nat, k ≤ N.length ∧ N.length ≤ n + k ∧ j = .int .i64 k ∧ (∀ x ∈ N.take k, x ∈ VO ∧ x ∉ V) ∧ w2 = wr)
          case atStart => exact ⟨0, by omega, by omega, rfl, by simp, rfl⟩
          case round =>
            obtain ⟨k, hk, hg2, rfl, hok2, rfl⟩ := hrel
            have HG2 := Lib.hid hg2; have HOK2 := Lib.hid hok2
            clear hg2 hok2
            by_cases hlt : k < N.length
            · obtain ⟨ao, cap, e1, hu⟩ := U3.out
              cases e1
              obtain ⟨bb, off, rfl, hck⟩ := hu k hlt
              have htk := List.take_succ_eq_append_getElem hlt
              have hmem := List.getElem_mem hlt
              obtain ⟨x, hx⟩ : ∃ x, x = N[k] := ⟨_, rfl⟩
              rw [← hx] at hck htk hmem
              have HTK := Lib.hid htk; have HME := Lib.hid hmem
              clear hx htk hmem hu
              go_wp2_with fail
              refine (contains36_any (.slice ob VO.length cb) VO x _ U1.out n1).mono ?_
              have hb : decide (x ∈ VO) = true ∨ decide (x ∈ VO) = false := by cases decide (x ∈ VO) <;> simp
              rcases hb with hb | hb
              · have E1 := Lib.hid (of_decide_eq_true hb)
                rw [hb]
                clear hb
                rintro e w3 ⟨rfl, rfl⟩
                go_wp2_with fail
                refine (contains36_any (.slice oa V.length ca) V x _ U0.out n0).mono ?_
                have hb : decide (x ∈ V) = true ∨ decide (x ∈ V) = false := by cases decide (x ∈ V) <;> simp
                rcases hb with hb | hb
                · have hf : ¬ PropC V VO L N al := fun hp => (hp.nxt x HME.out).2 (of_decide_eq_true hb)
                  have HF := Lib.hid hf
                  rw [hb]
                  clear hb hf
                  rintro e w3 ⟨rfl, rfl⟩
                  go_wp2_with fail
                  refine bodyPost_ret (results_tmp rfl _ _ _) rfl ⟨⟨false, rfl, ⟨(fun h => by cases h), fun h => absurd h HF.out⟩⟩, HNW.out⟩
                · have E2 := Lib.hid (of_decide_eq_false hb)
                  rw [hb]
                  clear hb
                  rintro e w3 ⟨rfl, rfl⟩
                  go_wp2_with fail
                  go_roundg (gk - 1)
                  case measure => have := HG2.out; omega
                  case rel =>
                    refine ⟨k + 1, by omega, by have := HG2.out; omega, by go_num, fun y hy => ?_, rfl⟩
                    rw [HTK.out] at hy
                    rcases List.mem_append.1 hy with hy | hy
                    · exact HOK2.out y hy
                    · simp at hy; subst hy; exact ⟨E1.out, E2.out⟩
              · have hf : ¬ PropC V VO L N al := fun hp => (of_decide_eq_false hb) (hp.nxt x HME.out).1
                have HF := Lib.hid hf
                rw [hb]
                clear hb hf
                rintro e w3 ⟨rfl, rfl⟩
                go_wp2_with fail
                refine bodyPost_ret (results_tmp rfl _ _ _) rfl ⟨⟨false, rfl, ⟨(fun h => by cases h), fun h => absurd h HF.out⟩⟩, HNW.out⟩
            · have hns : ∀ x ∈ N, x ∈ VO ∧ x ∉ V := by
                have := HOK2.out
                rwa [List.take_of_length_le (by omega)] at this
              have HNS := Lib.hid hns
              have hend : ¬ k < N.length := hlt
              clear hns HOK2 HG2 hk hlt
              by_cases hv : V.length = 0
              · have hv0 : ((V.length : Int) == 0) = true := by simpa using hv
                have HV := Lib.hid hv
                clear hv
                by_cases hs : VO.length + L.length = 0
                · have hsd : decide ((0 : Int) < (VO.length : Int) + (L.length : Int)) = false := decide_eq_false (by omega)
                  have hvo : decide ((0 : Int) < (VO.length : Int)) = false := decide_eq_false (by omega)
                  have hvo2 : decide (0 < VO.length) = false := decide_eq_false (by omega)
                  have HVS := Lib.hid hs
                  clear hs
                  by_cases hn : N.length = 0
                  · have hn0 : ((N.length : Int) == 0) = true := by simpa using hn
                    have HN0 := Lib.hid hn
                    clear hn
                    cases al
                    · have hp : PropC V VO L N false := ⟨HS.out.1, HS.out.2.1, HS.out.2.2.1, HS.out.2.2.2, HLS.out, HNS.out, (fun _ => ⟨List.eq_nil_of_length_eq_zero (by have := HVS.out; omega), List.eq_nil_of_length_eq_zero (by have := HVS.out; omega)⟩), fun _ => ⟨List.eq_nil_of_length_eq_zero HN0.out, rfl⟩⟩
                      have HP := Lib.hid hp
                      clear hp
                      go_wp2_with fail
                      refine bodyPost_ret (results_tmp rfl _ _ _) rfl ⟨⟨true, rfl, ⟨fun _ => HP.out, fun _ => rfl⟩⟩, HNW.out⟩
                    · have hf : ¬ PropC V VO L N true := fun hp => by have := (hp.out (List.eq_nil_of_length_eq_zero (by have := HVS.out; omega))).2; cases this
                      have HF := Lib.hid hf
                      clear hf
                      go_wp2_with fail
                      refine bodyPost_ret (results_tmp rfl _ _ _) rfl ⟨⟨false, rfl, ⟨(fun h => by cases h), fun h => absurd h HF.out⟩⟩, HNW.out⟩
                  · have hn0 : ((N.length : Int) == 0) = false := by simpa using hn
                    have hf : ¬ PropC V VO L N al := fun hp => hn (by rw [(hp.out (List.eq_nil_of_length_eq_zero (by have := HVS.out; omega))).1]; rfl)
                    have HF := Lib.hid hf
                    clear hf hn
                    go_wp2_with fail
                    refine bodyPost_ret (results_tmp rfl _ _ _) rfl ⟨⟨false, rfl, ⟨(fun h => by cases h), fun h => absurd h HF.out⟩⟩, HNW.out⟩
                · have hsd : decide ((0 : Int) < (VO.length : Int) + (L.length : Int)) = true := decide_eq_true (by omega)
                  have hf : ¬ PropC V VO L N al := fun hp => by
                    obtain ⟨h1, h2⟩ := hp.emp (List.eq_nil_of_length_eq_zero HV.out)
                    rw [h1, h2] at hs
                    exact hs rfl
                  have HF := Lib.hid hf
                  clear hs hf
                  go_wp2_with fail
                  refine bodyPost_ret (results_tmp rfl _ _ _) rfl ⟨⟨false, rfl, ⟨(fun h => by cases h), fun h => absurd h HF.out⟩⟩, HNW.out⟩
              · have hv0 : ((V.length : Int) == 0) = false := by simpa using hv
                have HV := Lib.hid hv
                clear hv
                by_cases hs : VO.length = 0
                · have hvo : decide ((0 : Int) < (VO.length : Int)) = false := decide_eq_false (by omega)
                  have hvo2 : decide (0 < VO.length) = false := decide_eq_false (by omega)
                  have HVS := Lib.hid hs
                  clear hs
                  by_cases hn : N.length = 0
                  · have hn0 : ((N.length : Int) == 0) = true := by simpa using hn
                    have HN0 := Lib.hid hn
                    clear hn
                    cases al
                    · have hp : PropC V VO L N false := ⟨HS.out.1, HS.out.2.1, HS.out.2.2.1, HS.out.2.2.2, HLS.out, HNS.out, (fun e => absurd (by rw [e]; rfl) HV.out), fun _ => ⟨List.eq_nil_of_length_eq_zero HN0.out, rfl⟩⟩
                      have HP := Lib.hid hp
                      clear hp
                      go_wp2_with fail
                      refine bodyPost_ret (results_tmp rfl _ _ _) rfl ⟨⟨true, rfl, ⟨fun _ => HP.out, fun _ => rfl⟩⟩, HNW.out⟩
                    · have hf : ¬ PropC V VO L N true := fun hp => by have := (hp.out (List.eq_nil_of_length_eq_zero HVS.out)).2; cases this
                      have HF := Lib.hid hf
                      clear hf
                      go_wp2_with fail
                      refine bodyPost_ret (results_tmp rfl _ _ _) rfl ⟨⟨false, rfl, ⟨(fun h => by cases h), fun h => absurd h HF.out⟩⟩, HNW.out⟩
                  · have hn0 : ((N.length : Int) == 0) = false := by simpa using hn
                    have hf : ¬ PropC V VO L N al := fun hp => hn (by rw [(hp.out (List.eq_nil_of_length_eq_zero HVS.out)).1]; rfl)
                    have HF := Lib.hid hf
                    clear hf hn
                    go_wp2_with fail
                    refine bodyPost_ret (results_tmp rfl _ _ _) rfl ⟨⟨false, rfl, ⟨(fun h => by cases h), fun h => absurd h HF.out⟩⟩, HNW.out⟩
                · have hvo : decide ((0 : Int) < (VO.length : Int)) = true := decide_eq_true (by omega)
                  have hvo2 : decide (0 < VO.length) = true := decide_eq_true (by omega)
                  have hp : PropC V VO L N al := ⟨HS.out.1, HS.out.2.1, HS.out.2.2.1, HS.out.2.2.2, HLS.out, HNS.out, fun e => absurd (by rw [e]; rfl) HV.out, fun e => absurd (by rw [e]; rfl) hs⟩
                  have HP := Lib.hid hp
                  clear hs hp
                  go_wp2_with fail
                  refine bodyPost_ret (results_tmp rfl _ _ _) rfl ⟨⟨true, rfl, ⟨fun _ => HP.out, fun _ => rfl⟩⟩, HNW.out⟩
end Go.Proofs.Ytcgccoigjcdjeaa
namespace Go.Proofs.Ytcgccoigjcdjeaa
open Go.RowKit Go.Sort

/-- a kind that no statement asks -/
def badK (k : Int) : Bool := decide (k < 0) || decide (2 < k)
set_option maxRecDepth 100000 in
theorem kind47_any (k x : Int) (w : World) : Calls Try.prog 47 #[.agg #[.int .i64 k, .int .u64 x]] w fun e w' => e = .returned (.bool (badK k)) ∧ New w w' := by
  have h0 : decide (k < 0) = true ∨ decide (k < 0) = false := by cases decide (k < 0) <;> simp
  have h2 : decide ((2 : Int) < k) = true ∨ decide ((2 : Int) < k) = false := by cases decide ((2 : Int) < k) <;> simp
  obtain ⟨r, hr⟩ : ∃ r, r = badK k := ⟨_, rfl⟩
  rw [← hr]
  unfold badK at hr
  rcases h0 with h0 | h0 <;> rcases h2 with h2 | h2 <;> rw [h0, h2] at hr <;> subst hr
  all_goals
    go_enter Try.func47, Try.ntmps47
    go_wp2_with fail
    go_ret
    exact ⟨rfl, Chg.alloc _ _ _⟩

set_option maxRecDepth 100000 in
set_option maxHeartbeats 1600000 in
theorem index68_any (v : Value) (B : List (Int × Int)) (w : World) (h : Chs w v B) (hn : B.length ≤ 2147483647) :
    Calls Try.prog 68 #[v, .func (.func 47) #[] #[]] w fun e w' => (∃ r : Int, e = .returned (.int .i64 r) ∧ (0 ≤ r ↔ ∃ x ∈ B, badK x.1 = true) ∧ (r = -1 ∨ 0 ≤ r)) ∧ New w w' := by
  obtain ⟨ao, cap, rfl, h⟩ := h
  have H := Lib.hid h; have HN := Lib.hid hn
  clear h hn
  go_enter Try.func68, Try.ntmps68
  go_wp2_with fail
  go_loopg [5, 8] B.length (fun n _ j wr => ∃ i : Nat, i ≤ B.length ∧ B.length ≤ n + i ∧ j = .int .i64 i ∧ (∀ x ∈ B.take i, badK x.1 = false) ∧ New w wr)
  case atStart => exact ⟨0, by omega, by omega, rfl, by simp, Chg.refl _ _⟩
  case round =>
    obtain ⟨i, hi, hg, rfl, hnk, hnew⟩ := hrel
    have HG := Lib.hid hg; have HNK := Lib.hid hnk; have HNW := Lib.hid hnew
    clear hg hnk hnew
    have hsm : B.length ≤ 2147483647 := HN.out
    by_cases hlt : i < B.length
    · obtain ⟨b, off, rfl, hc0, hc1⟩ := H.out i hlt
      have p0 := HNW.out.has hc0
      have p1 := HNW.out.has hc1
      have htk := List.take_succ_eq_append_getElem hlt
      have hmem := List.getElem_mem hlt
      obtain ⟨x, hx⟩ : ∃ x, x = B[i] := ⟨_, rfl⟩
      rw [← hx] at p0 p1 htk hmem
      obtain ⟨xk, xb⟩ := x
      simp only at p0 p1 htk hmem
      have HTK := Lib.hid htk; have HME := Lib.hid hmem
      clear hx htk hmem hc0 hc1
      cases hbk : badK xk
      · have HBK := Lib.hid hbk
        go_wp2_with (first
          | (go_at_call 47; refine (kind47_any xk xb _).mono ?_; rw [hbk]; rintro e w1 ⟨rfl, m1⟩)
          | fail)
        go_roundg (gk - 1)
        case measure => have := HG.out; omega
        case rel => exact ⟨i + 1, by omega, by have := HG.out; omega, by go_num, by rw [HTK.out]; intro y hy; rcases List.mem_append.1 hy with hy | hy; exact HNK.out y hy; simp at hy; subst hy; exact HBK.out, HNW.out.then m1⟩
      · have HBK := Lib.hid hbk
        go_wp2_with (first
          | (go_at_call 47; refine (kind47_any xk xb _).mono ?_; rw [hbk]; rintro e w1 ⟨rfl, m1⟩)
          | fail)
        refine bodyPost_ret (results_tmp rfl _ _ _) rfl ⟨⟨i, rfl, ⟨fun _ => ⟨_, HME.out, HBK.out⟩, fun _ => by omega⟩, .inr (by omega)⟩, HNW.out.then m1⟩
    · have hil : i = B.length := by omega
      subst hil
      have hkl : ¬ ∃ x ∈ B, badK x.1 = true := by rintro ⟨x, hx, hb⟩; have := HNK.out x (by rwa [List.take_length]); rw [hb] at this; cases this
      have HKL := Lib.hid hkl; clear hkl
      go_wp2_with fail
      refine bodyPost_ret (results_tmp rfl _ _ _) rfl ⟨⟨-1, rfl, ⟨fun h => absurd h (by decide), fun h => absurd h HKL.out⟩, .inl rfl⟩, HNW.out⟩
def anyBad (B : List (Int × Int)) : Bool := decide (∃ x ∈ B, badK x.1 = true)
set_option maxRecDepth 100000 in
theorem contains46_any (v : Value) (B : List (Int × Int)) (w : World) (h : Chs w v B) (hn : B.length ≤ 2147483647) :
    Calls Try.prog 46 #[v, .func (.func 47) #[] #[]] w fun e w' => e = .returned (.bool (anyBad B)) ∧ New w w' := by
  go_enter Try.func46, Try.ntmps46
  go_wp2_with fail
  refine (index68_any v B w h hn).mono ?_
  rintro e w' ⟨⟨r, rfl, hr, hr2⟩, hn'⟩
  have hdd : decide (0 ≤ r) = anyBad B := decide_eq_decide.2 hr
  have HDD := Lib.hid hdd
  clear hr hdd
  go_wp2_with fail
  refine bodyPost_ret (results_tmp rfl _ _ _) rfl ⟨?_, hn'⟩
  rw [← HDD.out]; rfl

set_option maxRecDepth 100000 in
set_option maxHeartbeats 1600000 in
theorem fits23_any (a b c d : Value) (V VO L N : List Int) (al : Bool) (w : World) (h0 : Us w a V) (h1 : Us w b VO) (h2 : Us w c L) (h3 : Us w d N) :
    Calls Try.prog 20 #[.agg #[a, b, c, d, .bool al]] w fun e w' => (e = .returned (.bool (decide (V.length ≤ 2147483647 ∧ VO.length ≤ 2147483647 ∧ L.length ≤ 2147483647 ∧ N.length ≤ 2147483647)))) ∧ New w w' := by
  have H0 := Lib.hid h0; have H1 := Lib.hid h1
  obtain ⟨oa, ca, rfl, _⟩ := h0
  obtain ⟨ob, cb, rfl, _⟩ := h1
  obtain ⟨oc, cc, rfl, _⟩ := h2
  obtain ⟨od, cd, rfl, _⟩ := h3
  have hnew : ∀ o, New w (w.alloc o) := fun o => Chg.alloc w o _
  have HNW := Lib.hid hnew; clear hnew
  by_cases h01 : V.length ≤ 2147483647 ∧ VO.length ≤ 2147483647
  · have e1 : decide (V.length ≤ 2147483647 ∧ VO.length ≤ 2147483647) = true := by simpa using h01
    by_cases h2 : L.length ≤ 2147483647
    · by_cases h3 : N.length ≤ 2147483647
      · have er : decide (V.length ≤ 2147483647 ∧ VO.length ≤ 2147483647 ∧ L.length ≤ 2147483647 ∧ N.length ≤ 2147483647) = true := by simp [h01, h2, h3]
        rw [er]
        have d2 : decide ((2147483647 : Int) < (L.length : Int)) = false := by simp; omega
        have d3 : decide ((2147483647 : Int) < (N.length : Int)) = false := by simp; omega
        clear h2 h3 h01 er
        go_enter Try.func20, Try.ntmps20
        go_wp2_with (first
          | (go_at_call 8; refine (fits22_any _ _ V VO _ (H0.out.new (HNW.out _)) (H1.out.new (HNW.out _))).mono ?_; rw [e1]; rintro e w1 ⟨rfl, m1⟩; have k1 := m1.rule)
          | fail)
        refine bodyPost_ret (results_tmp rfl _ _ _) rfl ⟨rfl, (HNW.out _).then m1⟩
      · have er : decide (V.length ≤ 2147483647 ∧ VO.length ≤ 2147483647 ∧ L.length ≤ 2147483647 ∧ N.length ≤ 2147483647) = false := by simp [h3]
        rw [er]
        have d2 : decide ((2147483647 : Int) < (L.length : Int)) = false := by simp; omega
        have d3 : decide ((2147483647 : Int) < (N.length : Int)) = true := by simp; omega
        clear h2 h3 h01 er
        go_enter Try.func20, Try.ntmps20
        go_wp2_with (first
          | (go_at_call 8; refine (fits22_any _ _ V VO _ (H0.out.new (HNW.out _)) (H1.out.new (HNW.out _))).mono ?_; rw [e1]; rintro e w1 ⟨rfl, m1⟩; have k1 := m1.rule)
          | fail)
        refine bodyPost_ret (results_tmp rfl _ _ _) rfl ⟨rfl, (HNW.out _).then m1⟩
    · have er : decide (V.length ≤ 2147483647 ∧ VO.length ≤ 2147483647 ∧ L.length ≤ 2147483647 ∧ N.length ≤ 2147483647) = false := by simp [h2]
      rw [er]
      have d2 : decide ((2147483647 : Int) < (L.length : Int)) = true := by simp; omega
      clear h2 h01 er
      go_enter Try.func20, Try.ntmps20
      go_wp2_with (first
        | (go_at_call 8; refine (fits22_any _ _ V VO _ (H0.out.new (HNW.out _)) (H1.out.new (HNW.out _))).mono ?_; rw [e1]; rintro e w1 ⟨rfl, m1⟩; have k1 := m1.rule)
        | fail)
      refine bodyPost_ret (results_tmp rfl _ _ _) rfl ⟨rfl, (HNW.out _).then m1⟩
  · have e1 : decide (V.length ≤ 2147483647 ∧ VO.length ≤ 2147483647) = false := by simpa using h01
    have er : decide (V.length ≤ 2147483647 ∧ VO.length ≤ 2147483647 ∧ L.length ≤ 2147483647 ∧ N.length ≤ 2147483647) = false := by
      simp only [decide_eq_false_iff_not]; exact fun h => h01 ⟨h.1, h.2.1⟩
    rw [er]
    clear h01 er
    go_enter Try.func20, Try.ntmps20
    go_wp2_with (first
      | (go_at_call 8; refine (fits22_any _ _ V VO _ (H0.out.new (HNW.out _)) (H1.out.new (HNW.out _))).mono ?_; rw [e1]; rintro e w1 ⟨rfl, m1⟩; have k1 := m1.rule)
      | fail)
    refine bodyPost_ret (results_tmp rfl _ _ _) rfl ⟨rfl, (HNW.out _).then m1⟩
set_option maxRecDepth 100000 in
set_option maxHeartbeats 1600000 in
theorem clone25_any (v : Value) (B : List (Int × Int)) (w : World) (h : Chs w v B) (hn : B.length ≤ 1000000) (hnil : NilOk v) :
    Calls Try.prog 25 #[v] w fun e w' => ∃ v', e = .returned v' ∧ Chs w' v' B ∧ New w w' := by
  obtain ⟨ao, cap, rfl, h⟩ := h
  cases ao with
  | none =>
    have hl : B = [] := by
      cases B with
      | nil => rfl
      | cons x l => obtain ⟨b, off, e, _⟩ := h 0 (by simp); cases e
    subst hl
    have hc := hnil cap rfl
    subst hc
    clear hnil h
    go_enter Try.func25, Try.ntmps25
    go_wp2_with fail
    go_ret
    exact ⟨_, rfl, ⟨none, 0, rfl, fun i hi => by simp at hi⟩, Chg.refl _ _⟩
  | some ad =>
    have hcells : ∀ (j : Nat) (u : Value), (pcs (fun p : Int × Int => Value.int .i64 p.1) (fun p => Value.int .u64 p.2) B)[j]? = some u → ∀ o, (w.alloc o).cell? (ad.add j) = some u := by
      intro j u hu o
      have hj : j < B.length * 2 := by have := (List.getElem?_eq_some_iff.1 hu).1; rwa [pcs_length] at this
      have hi : j / 2 < B.length := by omega
      obtain ⟨b, off, e, h1, h2⟩ := h (j / 2) hi
      cases e
      obtain ⟨e1, e2⟩ := pcs_get (fun p : Int × Int => Value.int .i64 p.1) (fun p => Value.int .u64 p.2) B (j / 2)
      rw [List.getElem?_eq_getElem hi] at e1 e2
      have e3 : (⟨b, off, none⟩ : Addr).add j = ⟨b, off + j, none⟩ := by unfold Addr.add; split <;> simp_all
      rw [e3]
      rcases Nat.mod_two_eq_zero_or_one j with hm | hm
      · have ej : j / 2 * 2 = j := by omega
        rw [ej] at e1 h1
        rw [e1] at hu; cases hu
        exact (Chg.alloc w o (fun _ => False)).has h1
      · have ej : j / 2 * 2 + 1 = j := by omega
        rw [ej] at e2
        rw [Nat.add_assoc, ej] at h2
        rw [e2] at hu; cases hu
        exact (Chg.alloc w o (fun _ => False)).has h2
    have HC := Lib.hid hcells; have HN := Lib.hid hn
    clear hcells hn h hnil
    go_enter Try.func25, Try.ntmps25
    go_wp2_with (first
      | (at_builtin; refine op_appends2 rfl (.tmp 5) (.tmp 6) rfl st45 w.heap.size 0 (.slice (some ⟨w.heap.size, 0, none⟩) 0 0) [] rfl (World.ownsRow_made w #[] 0 (Nat.le_refl _) (by decide) rfl) ad B.length cap (pcs (fun p : Int × Int => Value.int .i64 p.1) (fun p => Value.int .u64 p.2) B) rfl (pcs_length _ _ _) (fun j u hu => HC.out j u hu _) (by intro u hu; simp only [pcs, List.mem_flatMap, List.mem_cons, List.not_mem_nil, or_false] at hu; obtain ⟨x, _, rfl | rfl⟩ := hu <;> rfl) (by have := HN.out; omega) (by simp) ?_; intro v' w1 hown hch)
      | fail)
    go_ret
    rw [Nat.zero_add, List.nil_append] at hown
    have hb : ∀ x : Nat, Value.ownBlock (.slice (some ⟨w.heap.size, 0, none⟩) 0 0) = some x → x = w.heap.size := fun x e => by simp [Value.ownBlock] at e; exact e.symm
    exact ⟨v', rfl, pairs_of_owns hown, (Chg.alloc w _ _).trans hch (fun _ _ h => h) (fun i hi e => by have := hb i e; omega)⟩
end Go.Proofs.Ytcgccoigjcdjeaa
namespace Go.Proofs.Ytcgccoigjcdjeaa
open Go.RowKit Go.Sort Go.Lib

/-- what the statements ask -/
structure AskC (V VO L N : List Int) (al : Bool) (way : Int) (l : List (Int × Int)) : Prop where
  prop : PropC V VO L N al
  v : V.length ≤ 12
  vo : VO.length ≤ 12
  lr : L.length ≤ 12
  n : N.length ≤ 12
  ln : l.length ≤ 12
  lo : 1 ≤ way
  hi : way ≤ 4
  kinds : ∀ x ∈ l, x.1 = 0 ∨ x.1 = 1 ∨ x.1 = 2
theorem badK_iff (k : Int) : badK k = false ↔ k = 0 ∨ k = 1 ∨ k = 2 := by unfold badK; simp; omega
theorem anyBad_iff (l : List (Int × Int)) : anyBad l = false ↔ ∀ x ∈ l, x.1 = 0 ∨ x.1 = 1 ∨ x.1 = 2 := by
  unfold anyBad
  simp only [decide_eq_false_iff_not, not_exists, not_and, Bool.not_eq_true]
  exact ⟨fun h x hx => (badK_iff _).1 (h x hx), fun h x hx => (badK_iff _).2 (h x hx)⟩
theorem Chs.new {w w' : World} {v : Value} {l : List (Int × Int)} (h : Chs w v l) (c : New w w') : Chs w' v l := by
  obtain ⟨ao, cap, rfl, h⟩ := h
  refine ⟨ao, cap, rfl, fun i hi => ?_⟩
  obtain ⟨b, off, e, h1, h2⟩ := h i hi
  exact ⟨b, off, e, c.has h1, c.has h2⟩
set_option maxRecDepth 100000 in
set_option maxHeartbeats 6400000 in
theorem asked21_any (a b c d sv : Value) (V VO L N : List Int) (al : Bool) (way : Int) (l : List (Int × Int)) (w : World) (h0 : Us w a V) (h1 : Us w b VO) (h2 : Us w c L) (h3 : Us w d N) (hl : Chs w sv l)
    (n0 : V.length ≤ 2147483647) (n1 : VO.length ≤ 2147483647) (n2 : L.length ≤ 2147483647) (n3 : N.length ≤ 2147483647) (nl : l.length ≤ 2147483647) :
    Calls Try.prog 21 #[.agg #[a, b, c, d, .bool al], .int .i64 way, sv] w (Said w (AskC V VO L N al way l)) := by
  obtain ⟨oa, ca, rfl, -⟩ := id h0
  obtain ⟨ob, cb, rfl, -⟩ := id h1
  obtain ⟨oc, cc, rfl, -⟩ := id h2
  obtain ⟨od, cd, rfl, -⟩ := id h3
  obtain ⟨ol, cl, rfl, -⟩ := id hl
  have B0 := Lib.hid (block_new w (.cells #[.slice oa V.length ca, .slice ob VO.length cb, .slice oc L.length cc, .slice od N.length cd, .bool al] 44))
  have NA := Lib.hid (Chg.alloc w (.cells #[.slice oa V.length ca, .slice ob VO.length cb, .slice oc L.length cc, .slice od N.length cd, .bool al] 44) (fun _ => False))
  have H0 := Lib.hid h0; have H1 := Lib.hid h1; have H2 := Lib.hid h2; have H3 := Lib.hid h3; have HL := Lib.hid hl
  have N0 := Lib.hid n0; have N1 := Lib.hid n1; have N2 := Lib.hid n2; have N3 := Lib.hid n3; have NL := Lib.hid nl
  clear h0 h1 h2 h3 hl n0 n1 n2 n3 nl
  go_enter Try.func21, Try.ntmps21
  go_wp2_with fail
  refine (proper27_any _ _ _ _ V VO L N al _ (H0.out.new NA.out) (H1.out.new NA.out) (H2.out.new NA.out) (H3.out.new NA.out) N0.out N1.out N2.out N3.out).mono ?_
  rintro e w1 ⟨⟨r, rfl, hr⟩, m1⟩
  have HR := Lib.hid hr; have B1 := Lib.hid (m1.keeps B0.out (by simp)); have NW := Lib.hid (NA.out.then m1)
  clear hr m1
  have q0 := cell_of_block (off := 0) B1.out rfl; have q1 := cell_of_block (off := 1) B1.out rfl; have q2 := cell_of_block (off := 2) B1.out rfl; have q3 := cell_of_block (off := 3) B1.out rfl
  simp only [List.getElem_toArray, List.getElem_cons_zero, List.getElem_cons_succ] at q0 q1 q2 q3
  cases r
  · have HF := Lib.hid (show ¬ AskC V VO L N al way l from fun h => by have := HR.out.2 h.prop; cases this)
    go_wp2_with fail
    refine bodyPost_ret (results_tmp rfl _ _ _) rfl ⟨⟨false, rfl, ⟨(fun h => by cases h), fun h => absurd h HF.out⟩⟩, NW.out⟩
  · have HP := Lib.hid (HR.out.1 rfl)
    clear HR
    by_cases c0 : V.length ≤ 12
    · have d0 : decide ((12 : Int) < (V.length : Int)) = false := decide_eq_false (by omega)
      have C0 := Lib.hid c0
      clear c0
      by_cases c1 : VO.length ≤ 12
      · have d1 : decide ((12 : Int) < (VO.length : Int)) = false := decide_eq_false (by omega)
        have C1 := Lib.hid c1
        clear c1
        by_cases c2 : L.length ≤ 12
        · have d2 : decide ((12 : Int) < (L.length : Int)) = false := decide_eq_false (by omega)
          have C2 := Lib.hid c2
          clear c2
          by_cases c3 : N.length ≤ 12
          · have d3 : decide ((12 : Int) < (N.length : Int)) = false := decide_eq_false (by omega)
            have C3 := Lib.hid c3
            clear c3
            by_cases c4 : l.length ≤ 12
            · have d4 : decide ((12 : Int) < (l.length : Int)) = false := decide_eq_false (by omega)
              have C4 := Lib.hid c4
              clear c4
              by_cases c5 : 1 ≤ way
              · have d5 : decide (way < 1) = false := decide_eq_false (by omega)
                have C5 := Lib.hid c5
                clear c5
                by_cases c6 : way ≤ 4
                · have d6 : decide ((4 : Int) < way) = false := decide_eq_false (by omega)
                  have C6 := Lib.hid c6
                  clear c6
                  go_wp2_with fail
                  refine (contains46_any (.slice ol l.length cl) l _ (HL.out.new NW.out) NL.out).mono ?_
                  cases hb : anyBad l
                  · have HK := Lib.hid ((anyBad_iff l).1 hb)
                    rintro e w2 ⟨rfl, m2⟩
                    go_wp2_with fail
                    refine bodyPost_ret (results_tmp rfl _ _ _) rfl ⟨⟨true, rfl, ⟨fun _ => ⟨HP.out, C0.out, C1.out, C2.out, C3.out, C4.out, C5.out, C6.out, HK.out⟩, fun _ => rfl⟩⟩, NW.out.then m2⟩
                  · have HF := Lib.hid (show ¬ AskC V VO L N al way l from fun h => by have := (anyBad_iff l).2 h.kinds; rw [hb] at this; cases this)
                    rintro e w2 ⟨rfl, m2⟩
                    go_wp2_with fail
                    refine bodyPost_ret (results_tmp rfl _ _ _) rfl ⟨⟨false, rfl, ⟨(fun h => by cases h), fun h => absurd h HF.out⟩⟩, NW.out.then m2⟩
                · have d6 : decide ((4 : Int) < way) = true := decide_eq_true (by omega)
                  have HF := Lib.hid (show ¬ AskC V VO L N al way l from fun h => c6 h.hi)
                  clear c6
                  go_wp2_with fail
                  refine bodyPost_ret (results_tmp rfl _ _ _) rfl ⟨⟨false, rfl, ⟨(fun h => by cases h), fun h => absurd h HF.out⟩⟩, NW.out⟩
              · have d5 : decide (way < 1) = true := decide_eq_true (by omega)
                have HF := Lib.hid (show ¬ AskC V VO L N al way l from fun h => c5 h.lo)
                clear c5
                go_wp2_with fail
                refine bodyPost_ret (results_tmp rfl _ _ _) rfl ⟨⟨false, rfl, ⟨(fun h => by cases h), fun h => absurd h HF.out⟩⟩, NW.out⟩
            · have d4 : decide ((12 : Int) < (l.length : Int)) = true := decide_eq_true (by omega)
              have HF := Lib.hid (show ¬ AskC V VO L N al way l from fun h => c4 h.ln)
              clear c4
              go_wp2_with fail
              refine bodyPost_ret (results_tmp rfl _ _ _) rfl ⟨⟨false, rfl, ⟨(fun h => by cases h), fun h => absurd h HF.out⟩⟩, NW.out⟩
          · have d3 : decide ((12 : Int) < (N.length : Int)) = true := decide_eq_true (by omega)
            have HF := Lib.hid (show ¬ AskC V VO L N al way l from fun h => c3 h.n)
            clear c3
            go_wp2_with fail
            refine bodyPost_ret (results_tmp rfl _ _ _) rfl ⟨⟨false, rfl, ⟨(fun h => by cases h), fun h => absurd h HF.out⟩⟩, NW.out⟩
        · have d2 : decide ((12 : Int) < (L.length : Int)) = true := decide_eq_true (by omega)
          have HF := Lib.hid (show ¬ AskC V VO L N al way l from fun h => c2 h.lr)
          clear c2
          go_wp2_with fail
          refine bodyPost_ret (results_tmp rfl _ _ _) rfl ⟨⟨false, rfl, ⟨(fun h => by cases h), fun h => absurd h HF.out⟩⟩, NW.out⟩
      · have d1 : decide ((12 : Int) < (VO.length : Int)) = true := decide_eq_true (by omega)
        have HF := Lib.hid (show ¬ AskC V VO L N al way l from fun h => c1 h.vo)
        clear c1
        go_wp2_with fail
        refine bodyPost_ret (results_tmp rfl _ _ _) rfl ⟨⟨false, rfl, ⟨(fun h => by cases h), fun h => absurd h HF.out⟩⟩, NW.out⟩
    · have d0 : decide ((12 : Int) < (V.length : Int)) = true := decide_eq_true (by omega)
      have HF := Lib.hid (show ¬ AskC V VO L N al way l from fun h => c0 h.v)
      clear c0
      go_wp2_with fail
      refine bodyPost_ret (results_tmp rfl _ _ _) rfl ⟨⟨false, rfl, ⟨(fun h => by cases h), fun h => absurd h HF.out⟩⟩, NW.out⟩
end Go.Proofs.Ytcgccoigjcdjeaa
