/- spec.acked, CommittedBy, Committed. Condition: at most 1000 members a list and acknowledgements. -/
import Derived.Test.YtcgccoigjcdjeaaQuL
namespace Go.Proofs.Ytcgccoigjcdjeaa
open Go.RowKit Go.Sort

theorem ackd_snoc (A : List (Int × Int)) (p : Int × Int) (k : Int) (h : ackd A k = none) : ackd (A ++ [p]) k = if p.1 = k then some p.2 else none := by
  unfold ackd at *
  rw [List.find?_append]
  cases hf : A.find? (fun p => p.1 == k) with
  | none => by_cases hk : p.1 = k <;> simp [hk]
  | some q => rw [hf] at h; cases h
theorem ackd_take {A : List (Int × Int)} {i : Nat} {k v : Int} (h : ackd (A.take i) k = some v) : ackd A k = some v := by
  unfold ackd at *
  have e : A = A.take i ++ A.drop i := (List.take_append_drop _ _).symm
  rw [e, List.find?_append]
  cases hf : (A.take i).find? (fun p => p.1 == k) with
  | none => rw [hf] at h; cases h
  | some q => rw [hf] at h; exact h
set_option maxRecDepth 100000 in
set_option maxHeartbeats 1600000 in
theorem acked63_any (v : Value) (A : List (Int × Int)) (k : Int) (w : World) (h : Acs w v A) (hn : A.length ≤ 1000000) :
    Calls Try.prog 63 #[v, .int .u64 k] w fun e w' => e = .returned (.int .u64 (ackO A k)) ∧ New w w' := by
  obtain ⟨ao, cap, rfl, h⟩ := h
  have H := Lib.hid h; have HN := Lib.hid hn
  clear h hn
  obtain ⟨r, hr⟩ : ∃ r, r = ackO A k := ⟨_, rfl⟩
  rw [← hr]
  have HRR := Lib.hid hr; clear hr
  go_enter Try.func63, Try.ntmps63
  go_wp2_with fail
  go_loopg [9] A.length (fun n j wr => ∃ i : Nat, i ≤ A.length ∧ A.length ≤ n + i ∧ j = .int .i64 i ∧ ackd (A.take i) k = none ∧ New w wr)
  case atStart => exact ⟨0, by omega, by omega, rfl, rfl, Chg.refl _ _⟩
  case round =>
    obtain ⟨i, hi, hg, rfl, hnk, hnew⟩ := hrel
    have HG := Lib.hid hg; have HNK := Lib.hid hnk; have HNW := Lib.hid hnew
    clear hg hnk hnew
    have hsm : A.length ≤ 1000000 := HN.out
    by_cases hlt : i < A.length
    · obtain ⟨b, off, rfl, hc0, hc1⟩ := H.out i hlt
      have p0 := HNW.out.has hc0
      have p1 := HNW.out.has hc1
      have hsn := ackd_snoc (A.take i) A[i] k HNK.out
      rw [← List.take_succ_eq_append_getElem hlt] at hsn
      obtain ⟨x, hx⟩ : ∃ x, x = A[i] := ⟨_, rfl⟩
      rw [← hx] at p0 p1 hsn
      obtain ⟨xk, xb⟩ := x
      simp only at p0 p1 hsn
      clear hx hc0 hc1
      by_cases hxk : xk = k
      · subst hxk
        rw [if_pos rfl] at hsn
        have he : r = xb := by rw [HRR.out]; unfold ackO; rw [ackd_take hsn]; rfl
        have HE := Lib.hid he
        clear hsn he
        go_wp2_with fail
        refine bodyPost_ret (results_tmp rfl _ _ _) rfl ⟨by rw [HE.out]; rfl, HNW.out.then (Chg.alloc _ _ _)⟩
      · rw [if_neg hxk] at hsn
        have hxb : (xk == k) = false := by simpa using hxk
        have HSN := Lib.hid hsn
        clear hxk hsn
        go_wp2_with fail
        go_roundg (gk - 1)
        case measure => have := HG.out; omega
        case rel => exact ⟨i + 1, by omega, by have := HG.out; omega, by go_num, HSN.out, HNW.out.then (Chg.alloc _ _ _)⟩
    · have hil : i = A.length := by omega
      subst hil
      have he : r = 0 := by rw [HRR.out]; unfold ackO; have := HNK.out; rw [List.take_length] at this; rw [this]; rfl
      have HE := Lib.hid he; clear he
      go_wp2_with fail
      refine bodyPost_ret (results_tmp rfl _ _ _) rfl ⟨by rw [HE.out]; rfl, HNW.out⟩

theorem map_take_snoc (f : Int → Int) (s : List Int) (i : Nat) (h : i < s.length) : (s.take (i + 1)).map f = (s.take i).map f ++ [f s[i]] := by
  rw [List.take_succ_eq_append_getElem h, List.map_append]; rfl
set_option maxRecDepth 100000 in
set_option maxHeartbeats 3200000 in
theorem commby_any (v av : Value) (s : List Int) (A : List (Int × Int)) (w : World) (hv : Us w v s) (ha : Acs w av A) (hn : s.length ≤ 1000) (hm : A.length ≤ 1000) :
    Calls Try.prog 39 #[v, av] w fun e w' => e = .returned (.int .u64 (commR A s)) ∧ New w w' := by
  have HA := Lib.hid ha
  obtain ⟨vo, vc, rfl, hs⟩ := hv
  obtain ⟨ao, ac, rfl, _⟩ := ha
  have HS := Lib.hid hs; have HN := Lib.hid hn; have HM := Lib.hid hm
  clear hs hn hm
  by_cases hs0 : s = []
  · subst hs0
    go_enter Try.func39, Try.ntmps39
    go_wp2_with fail
    refine bodyPost_ret (results_tmp rfl _ _ _) rfl ⟨rfl, Chg.refl _ _⟩
  have hlb : ((s.length : Int) == 0) = false := by simpa using hs0
  have hr0 : commR A s = bestR (s.map (ackO A)) (s.map (ackO A)) := by unfold commR commX; rw [if_neg (by simpa using hs0)]
  obtain ⟨xs, hxs⟩ : ∃ xs, xs = s.map (ackO A) := ⟨_, rfl⟩
  rw [← hxs] at hr0
  have hxl : xs.length = s.length := by rw [hxs]; simp
  obtain ⟨r, hr⟩ : ∃ r, r = commR A s := ⟨_, rfl⟩
  rw [← hr] at hr0 ⊢
  have HRR := Lib.hid hr0; have HXS := Lib.hid hxs; have HXL := Lib.hid hxl
  clear hr0 hr hs0 hxs hxl
  go_enter Try.func39, Try.ntmps39
  go_wp2_with fail
  clear hlb
  go_loopg [5, 17] s.length (fun n bb j wr => ∃ i : Nat, i ≤ s.length ∧ s.length ≤ n + i ∧ j = .int .i64 i ∧ bb = .int .u64 (bestR xs ((s.take i).map (ackO A))) ∧ New w wr)
  case atStart => exact ⟨0, by omega, by omega, rfl, rfl, Chg.refl _ _⟩
  case round =>
    obtain ⟨i, hi, hg, rfl, rfl, hnew⟩ := hrel
    have HG := Lib.hid hg; have HNW := Lib.hid hnew
    clear hg hnew
    obtain ⟨wo, rfl⟩ : ∃ x : World, x = wr := ⟨_, rfl⟩
    obtain ⟨g0, rfl⟩ : ∃ x : Nat, x = gk := ⟨_, rfl⟩
    have hsm : s.length ≤ 1000 := HN.out
    by_cases hlt : i < s.length
    · obtain ⟨b, off, rfl, hc⟩ := HS.out i hlt
      have hc' := HNW.out.has hc
      have hts := map_take_snoc (ackO A) s i hlt
      obtain ⟨k, hk⟩ : ∃ k, k = s[i] := ⟨_, rfl⟩
      rw [← hk] at hc' hts
      obtain ⟨b0, hb0⟩ : ∃ b0, b0 = bestR xs ((s.take i).map (ackO A)) := ⟨_, rfl⟩
      obtain ⟨k0, hk0⟩ : ∃ k0, k0 = ackO A k := ⟨_, rfl⟩
      rw [← hb0]
      have hbn : bestR xs ((s.take (i + 1)).map (ackO A)) = bestF xs b0 k0 := by rw [hts, best_snoc, hb0, hk0]
      have HBN := Lib.hid hbn; have HK0 := Lib.hid hk0
      clear hc hk hts hb0 hk0 hbn
      go_wp2_with fail
      refine (acked63_any (.slice ao A.length ac) A k _ (HA.out.chg HNW.out) (by have := HM.out; omega)).mono ?_
      rw [← HK0.out]
      rintro e w1 ⟨rfl, m1⟩
      have HNW1 := Lib.hid (HNW.out.then m1)
      clear m1
      go_wp2_with fail
      go_loopg [9, 26] s.length (fun n m j wr => ∃ q : Nat, q ≤ s.length ∧ s.length ≤ n + q ∧ j = .int .i64 q ∧ m = .int .i64 ((cntGe ((s.take q).map (ackO A)) k0 : Nat) : Int) ∧ New w wr)
      case atStart => exact ⟨0, by omega, by omega, rfl, rfl, HNW1.out⟩
      case round =>
        obtain ⟨q, hq, hgq, rfl, rfl, hnq⟩ := hrel
        have HGQ := Lib.hid hgq; have HNQ := Lib.hid hnq
        clear hgq hnq
        have hl1 := cntGe_le ((s.take q).map (ackO A)) k0
        simp only [List.length_map, List.length_take] at hl1
        by_cases hqt : q < s.length
        · obtain ⟨b2, off2, e2, hc2⟩ := HS.out q hqt
          cases e2
          have hc2' := HNQ.out.has hc2
          have hts := map_take_snoc (ackO A) s q hqt
          obtain ⟨y, hy⟩ : ∃ y, y = s[q] := ⟨_, rfl⟩
          rw [← hy] at hc2' hts
          have hcn : cntGe ((s.take (q + 1)).map (ackO A)) k0 = cntGe ((s.take q).map (ackO A)) k0 + if k0 ≤ ackO A y then 1 else 0 := by rw [hts, cntGe_snoc]
          obtain ⟨y0, hy0⟩ : ∃ y0, y0 = ackO A y := ⟨_, rfl⟩
          rw [← hy0] at hcn
          obtain ⟨c1, hc1⟩ : ∃ c1, c1 = cntGe ((s.take q).map (ackO A)) k0 := ⟨_, rfl⟩
          rw [← hc1] at hcn hl1 ⊢
          have HY0 := Lib.hid hy0
          clear hc2 hy hts hy0 hc1
          by_cases hge : k0 ≤ y0
          · rw [if_pos hge] at hcn
            have hd : decide (k0 ≤ y0) = true := by simpa using hge
            have HCN := Lib.hid hcn; clear hcn
            go_wp2_with (first
              | (go_at_call 63; refine (acked63_any (.slice ao A.length ac) A y _ (HA.out.chg HNQ.out) (by have := HM.out; omega)).mono ?_; rw [← HY0.out]; rintro e w2 ⟨rfl, m2⟩)
              | fail)
            go_roundg (gk - 1)
            case measure => have := HGQ.out; omega
            case rel => exact ⟨q + 1, by omega, by have := HGQ.out; omega, by go_num, by rw [HCN.out]; go_num, HNQ.out.then m2⟩
          · rw [if_neg hge] at hcn
            have hd : decide (k0 ≤ y0) = false := by simpa using hge
            have HCN := Lib.hid hcn; clear hcn
            go_wp2_with (first
              | (go_at_call 63; refine (acked63_any (.slice ao A.length ac) A y _ (HA.out.chg HNQ.out) (by have := HM.out; omega)).mono ?_; rw [← HY0.out]; rintro e w2 ⟨rfl, m2⟩)
              | fail)
            go_roundg (gk - 1)
            case measure => have := HGQ.out; omega
            case rel => exact ⟨q + 1, by omega, by have := HGQ.out; omega, by go_num, by rw [HCN.out]; rfl, HNQ.out.then m2⟩
        · have hqe : q = s.length := by omega
          subst hqe
          have hfull : (s.take s.length).map (ackO A) = xs := by rw [List.take_length, HXS.out]
          rw [hfull] at hl1 ⊢
          clear hfull
          have hbf : bestF xs b0 k0 = if s.length / 2 + 1 ≤ cntGe xs k0 then (if b0 < k0 then k0 else b0) else b0 := by unfold bestF; rw [HXL.out]
          obtain ⟨c0, hc0⟩ : ∃ c0, c0 = cntGe xs k0 := ⟨_, rfl⟩
          rw [← hc0] at hl1 hbf ⊢
          clear hc0
          by_cases hmaj : s.length / 2 + 1 ≤ c0
          · rw [if_pos hmaj] at hbf
            have hd : decide (((s.length : Int) / 2) + 1 ≤ (c0 : Int)) = true := by simp; omega
            by_cases hbk : b0 < k0
            · rw [if_pos hbk] at hbf
              have HBF := Lib.hid hbf; clear hbf
              go_wp2_with (first
                | (go_at_call 64; refine (maj_any s.length _ (by omega)).mono ?_; rintro e w3 ⟨rfl, rfl⟩)
                | fail)
              go_roundg (g0 - 1)
              case measure => have := HG.out; omega
              case rel => exact ⟨i + 1, by omega, by have := HG.out; omega, by go_num, by rw [HBN.out, HBF.out]; congr 1; omega, HNQ.out⟩
            · rw [if_neg hbk] at hbf
              have HBF := Lib.hid hbf; clear hbf
              go_wp2_with (first
                | (go_at_call 64; refine (maj_any s.length _ (by omega)).mono ?_; rintro e w3 ⟨rfl, rfl⟩)
                | fail)
              go_roundg (g0 - 1)
              case measure => have := HG.out; omega
              case rel => exact ⟨i + 1, by omega, by have := HG.out; omega, by go_num, by rw [HBN.out, HBF.out]; congr 1; omega, HNQ.out⟩
          · rw [if_neg hmaj] at hbf
            have HBF := Lib.hid hbf; clear hbf
            have hd : decide (((s.length : Int) / 2) + 1 ≤ (c0 : Int)) = false := by simp; omega
            go_wp2_with (first
              | (go_at_call 64; refine (maj_any s.length _ (by omega)).mono ?_; rintro e w3 ⟨rfl, rfl⟩)
              | fail)
            go_roundg (g0 - 1)
            case measure => have := HG.out; omega
            case rel => exact ⟨i + 1, by omega, by have := HG.out; omega, by go_num, by rw [HBN.out, HBF.out], HNQ.out⟩
    · have hil : i = s.length := by omega
      subst hil
      have hfin : bestR xs ((s.take s.length).map (ackO A)) = r := by rw [HRR.out, List.take_length, HXS.out]
      rw [hfin]
      clear hfin
      go_wp2_with fail
      refine bodyPost_ret (results_tmp rfl _ _ _) rfl ⟨rfl, HNW.out⟩

set_option maxRecDepth 100000 in
set_option maxHeartbeats 1600000 in
theorem scommitted_any (a b av : Value) (l0 l1 : List Int) (A : List (Int × Int)) (w : World) (h0 : Us w a l0) (h1 : Us w b l1) (hv : Acs w av A) (n0 : l0.length ≤ 1000) (n1 : l1.length ≤ 1000) (hn : A.length ≤ 1000) :
    Calls Try.prog 11 #[.agg #[a, b], av] w fun e w' => e = .returned (.int .u64 (lessR (commR A l0) (commR A l1))) ∧ New w w' := by
  have n1' : ∀ o, New w (w.alloc o).drew := fun o => (Chg.alloc w _ _).then (Chg.drew _ _)
  have H0 := Lib.hid h0; have H1 := Lib.hid h1; have HV := Lib.hid hv; have N0 := Lib.hid n0; have N1 := Lib.hid n1; have HN := Lib.hid hn; have HN1 := Lib.hid n1'
  obtain ⟨oa, ca, rfl, _⟩ := h0
  obtain ⟨ob, cb, rfl, _⟩ := h1
  obtain ⟨x, hx⟩ : ∃ x, x = commR A l0 := ⟨_, rfl⟩
  obtain ⟨y, hy⟩ : ∃ y, y = commR A l1 := ⟨_, rfl⟩
  rw [← hx, ← hy]
  have HX := Lib.hid hx; have HY := Lib.hid hy
  clear hx hy hv n0 n1 hn n1'
  have hl : lessR x y = min x y := by unfold lessR; split <;> omega
  have HL := Lib.hid hl; clear hl
  go_enter Try.func11, Try.ntmps11
  go_wp2_with fail
  go_region_held3 (fun w' => w'.cell? ⟨w.heap.size, 0, none⟩ = some (.slice oa l0.length ca) ∧ w'.cell? ⟨w.heap.size, 1, none⟩ = some (.slice ob l1.length cb)) (go_keep)
    (first
      | (go_at_call 39; ((with_reducible refine (commby_any (.slice oa l0.length ca) av l0 A _ (H0.out.new (HN1.out _)) (HV.out.chg (HN1.out _)) N0.out HN.out).mono ?_); rw [← HX.out]; rintro e w1 ⟨rfl, m1⟩; have k1 := m1.rule))
      | (go_at_call 39; ((with_reducible refine (commby_any (.slice ob l1.length cb) av l1 A _ (H1.out.new ((HN1.out _).then m1)) (HV.out.chg ((HN1.out _).then m1)) N1.out HN.out).mono ?_); rw [← HY.out]; rintro e w2 ⟨rfl, m2⟩; have k2 := m2.rule))
      | fail)
  rename_i hH
  clear hH k1 k2
  have hnw := ((HN1.out _).then m1).then m2
  have HNW := Lib.hid hnw
  clear m1 m2 hnw
  go_wp2_with fail
  refine bodyPost_ret (results_tmp rfl _ _ _) rfl ⟨by rw [HL.out]; rfl, HNW.out⟩
end Go.Proofs.Ytcgccoigjcdjeaa
