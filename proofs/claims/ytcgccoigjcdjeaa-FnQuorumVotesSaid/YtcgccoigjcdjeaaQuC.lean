/- spec.VotedBy, spec.Voted. Condition: at most 1000 members and votes. -/
import Derived.Test.YtcgccoigjcdjeaaQuB
namespace Go.Proofs.Ytcgccoigjcdjeaa
open Go.RowKit Go.Sort

def cY (B : List (Int × Bool)) (k : Int) : Nat := (B.filter fun p => p.1 == k && p.2).length
def cN (B : List (Int × Bool)) (k : Int) : Nat := (B.filter fun p => p.1 == k && !p.2).length
theorem cY_le (B : List (Int × Bool)) (k : Int) : cY B k ≤ B.length := List.length_filter_le _ _
theorem cN_le (B : List (Int × Bool)) (k : Int) : cN B k ≤ B.length := List.length_filter_le _ _
theorem cY_take (B : List (Int × Bool)) (k : Int) (i : Nat) (h : i < B.length) : cY (B.take (i + 1)) k = cY (B.take i) k + if B[i].1 == k && B[i].2 then 1 else 0 := by
  unfold cY
  rw [List.take_succ_eq_append_getElem h, List.filter_append]
  by_cases hp : (B[i].1 == k && B[i].2) = true
  · rw [List.filter_cons_of_pos (p := fun p : Int × Bool => p.1 == k && p.2) hp, if_pos hp]; simp
  · rw [List.filter_cons_of_neg (p := fun p : Int × Bool => p.1 == k && p.2) hp, if_neg hp]; simp
theorem cN_take (B : List (Int × Bool)) (k : Int) (i : Nat) (h : i < B.length) : cN (B.take (i + 1)) k = cN (B.take i) k + if B[i].1 == k && !B[i].2 then 1 else 0 := by
  unfold cN
  rw [List.take_succ_eq_append_getElem h, List.filter_append]
  by_cases hp : (B[i].1 == k && !B[i].2) = true
  · rw [List.filter_cons_of_pos (p := fun p : Int × Bool => p.1 == k && !p.2) hp, if_pos hp]; simp
  · rw [List.filter_cons_of_neg (p := fun p : Int × Bool => p.1 == k && !p.2) hp, if_neg hp]; simp
def sY (B : List (Int × Bool)) (s : List Int) : Nat := (s.map (cY B)).sum
def sN (B : List (Int × Bool)) (s : List Int) : Nat := (s.map (cN B)).sum
theorem sY_take (B : List (Int × Bool)) (s : List Int) (i : Nat) (h : i < s.length) : sY B (s.take (i + 1)) = sY B (s.take i) + cY B s[i] := by
  unfold sY; rw [List.take_succ_eq_append_getElem h, List.map_append, List.sum_append]; simp
theorem sN_take (B : List (Int × Bool)) (s : List Int) (i : Nat) (h : i < s.length) : sN B (s.take (i + 1)) = sN B (s.take i) + cN B s[i] := by
  unfold sN; rw [List.take_succ_eq_append_getElem h, List.map_append, List.sum_append]; simp
theorem sum_le (f : Int → Nat) (m : Nat) (s : List Int) (h : ∀ k, f k ≤ m) : (s.map f).sum ≤ s.length * m := by
  induction s with
  | nil => simp
  | cons x s ih => simp only [List.map_cons, List.sum_cons, List.length_cons]; have := h x; rw [Nat.add_mul]; omega
theorem cY_bal (B : List (Int × Bool)) (hd : (B.map (·.1)).Nodup) (k : Int) : cY B k = (if bal B k = some true then 1 else 0) ∧ cN B k = (if bal B k = some false then 1 else 0) := by
  induction B with
  | nil => simp [cY, cN, bal]
  | cons p B ih =>
    simp only [List.map_cons, List.nodup_cons] at hd
    obtain ⟨h1, h2⟩ := ih hd.2
    by_cases hk : p.1 = k
    · have hno : ∀ q ∈ B, q.1 ≠ k := fun q hq e => hd.1 (by rw [hk, ← e]; exact List.mem_map.2 ⟨q, hq, rfl⟩)
      have e1 : cY B k = 0 := by
        unfold cY; rw [List.length_eq_zero_iff, List.filter_eq_nil_iff]
        intro q hq; simp [hno q hq]
      have e2 : cN B k = 0 := by
        unfold cN; rw [List.length_eq_zero_iff, List.filter_eq_nil_iff]
        intro q hq; simp [hno q hq]
      have e3 : bal (p :: B) k = some p.2 := by unfold bal; rw [List.find?_cons_of_pos (by simpa using hk)]; rfl
      unfold cY cN at *
      rw [e3]
      cases hb : p.2 <;> simp [hk, hb, e1, e2]
    · have e3 : bal (p :: B) k = bal B k := by unfold bal; rw [List.find?_cons_of_neg (by simpa using hk)]
      unfold cY cN at *
      rw [e3, List.filter_cons_of_neg (by simp [hk]), List.filter_cons_of_neg (by simp [hk])]
      exact ⟨h1, h2⟩
theorem sY_yes (B : List (Int × Bool)) (hd : (B.map (·.1)).Nodup) (s : List Int) : sY B s = yesN B s ∧ sN B s + yesN B s + missN B s = s.length := by
  induction s with
  | nil => simp [sY, sN, yesN, missN]
  | cons x s ih =>
    obtain ⟨h1, h2⟩ := ih
    obtain ⟨e1, e2⟩ := cY_bal B hd x
    have f1 : sY B (x :: s) = cY B x + sY B s := by simp [sY]
    have f2 : sN B (x :: s) = cN B x + sN B s := by simp [sN]
    have f3 : yesN B (x :: s) = (if bal B x = some true then 1 else 0) + yesN B s := by
      have := yesN_perm B (List.perm_append_comm (l₁ := [x]) (l₂ := s)); rw [List.singleton_append] at this; rw [this, yesN_snoc]; omega
    have f4 : missN B (x :: s) = (if bal B x = none then 1 else 0) + missN B s := by
      have := missN_perm B (List.perm_append_comm (l₁ := [x]) (l₂ := s)); rw [List.singleton_append] at this; rw [this, missN_snoc]; omega
    rw [f1, f2, f3, f4, e1, e2, h1, List.length_cons]
    cases hb : bal B x with
    | none => simp; omega
    | some bv => cases bv <;> simp <;> omega
/-- what VotedBy reckons -/
def votedR (B : List (Int × Bool)) (s : List Int) : Int := if s = [] ∨ s.length / 2 + 1 ≤ sY B s then 3 else if (s.length : Int) - sN B s < s.length / 2 + 1 then 2 else 1
theorem votedR_eq (B : List (Int × Bool)) (hd : (B.map (·.1)).Nodup) (s : List Int) : votedR B s = voteR B s := by
  obtain ⟨h1, h2⟩ := sY_yes B hd s
  unfold votedR voteR
  rw [h1]
  by_cases hs : s = []
  · simp [hs]
  · simp only [hs, false_or, if_false]
    by_cases hw : s.length / 2 + 1 ≤ yesN B s
    · simp [hw]
    · simp only [hw, if_false]
      by_cases hm : s.length / 2 + 1 ≤ yesN B s + missN B s
      · rw [if_pos hm, if_neg (by omega)]
      · rw [if_neg hm, if_pos (by omega)]

theorem maj_any (n : Nat) (w : World) (h : n ≤ 1000000) : Calls Try.prog 64 #[.int .i64 n] w fun e w' => e = .returned (.int .i64 ((n : Int) / 2 + 1)) ∧ w = w' := by
  go_enter Try.func64, Try.ntmps64
  go_wp2
  go_ret
  exact ⟨rfl, rfl⟩

set_option maxRecDepth 100000 in
set_option maxHeartbeats 1600000 in
theorem votedby_any (v bv : Value) (s : List Int) (B : List (Int × Bool)) (w : World) (hv : Us w v s) (hb : Bas w bv B) (hn : s.length ≤ 1000) (hm : B.length ≤ 1000) :
    Calls Try.prog 44 #[v, bv] w fun e w' => e = .returned (.int .i64 (votedR B s)) ∧ New w w' := by
  obtain ⟨vo, vc, rfl, hs⟩ := hv
  obtain ⟨bo, bc, rfl, hbs⟩ := hb
  have HS := Lib.hid hs; have HB := Lib.hid hbs; have HN := Lib.hid hn; have HM := Lib.hid hm
  clear hs hbs hn hm
  obtain ⟨r, hr⟩ : ∃ r, r = votedR B s := ⟨_, rfl⟩
  rw [← hr]
  have HRR := Lib.hid hr; clear hr
  go_enter Try.func44, Try.ntmps44
  go_wp2_with fail
  go_loopg [5, 6, 13] s.length (fun n y m j wr => ∃ i : Nat, i ≤ s.length ∧ s.length ≤ n + i ∧ j = .int .i64 i ∧ y = .int .i64 (sY B (s.take i) : Nat) ∧ m = .int .i64 (sN B (s.take i) : Nat) ∧ New w wr)
  case atStart => exact ⟨0, by omega, by omega, rfl, rfl, rfl, Chg.refl _ _⟩
  case round =>
    obtain ⟨i, hi, hg, rfl, rfl, rfl, hnew⟩ := hrel
    have HG := Lib.hid hg; have HNW := Lib.hid hnew
    clear hg hnew
    obtain ⟨wo, rfl⟩ : ∃ x : World, x = wr := ⟨_, rfl⟩
    obtain ⟨g0, rfl⟩ : ∃ x : Nat, x = gk := ⟨_, rfl⟩
    have hy1 : sY B (s.take i) ≤ 1000000 := by
      have h1 := sum_le (cY B) 1000 (s.take i) (fun k => by have := cY_le B k; have := HM.out; omega)
      have h2 := HN.out
      unfold sY; simp at h1 ⊢; omega
    have hy2 : sN B (s.take i) ≤ 1000000 := by
      have h1 := sum_le (cN B) 1000 (s.take i) (fun k => by have := cN_le B k; have := HM.out; omega)
      have h2 := HN.out
      unfold sN; simp at h1 ⊢; omega
    have hsm : s.length ≤ 1000 := HN.out
    by_cases hlt : i < s.length
    · obtain ⟨b, off, rfl, hc⟩ := HS.out i hlt
      have hc' := HNW.out.has hc
      have hty := sY_take B s i hlt
      have htn := sN_take B s i hlt
      obtain ⟨k, hk⟩ : ∃ k, k = s[i] := ⟨_, rfl⟩
      rw [← hk] at hc' hty htn
      have HTY := Lib.hid hty; have HTN := Lib.hid htn
      clear hc hk hty htn
      obtain ⟨y0, hy0⟩ : ∃ y0, y0 = sY B (s.take i) := ⟨_, rfl⟩
      obtain ⟨n0, hn0⟩ : ∃ n0, n0 = sN B (s.take i) := ⟨_, rfl⟩
      rw [← hy0] at hy1 HTY ⊢; rw [← hn0] at hy2 HTN ⊢
      clear hy0 hn0
      go_wp2_with fail
      go_loopg [5, 6, 19] B.length (fun n y m j wr => ∃ q : Nat, q ≤ B.length ∧ B.length ≤ n + q ∧ j = .int .i64 q ∧ y = .int .i64 ((y0 + cY (B.take q) k : Nat) : Int) ∧ m = .int .i64 ((n0 + cN (B.take q) k : Nat) : Int) ∧ New w wr)
      case atStart => exact ⟨0, by omega, by omega, rfl, by simp [cY], by simp [cN], HNW.out⟩
      case round =>
        obtain ⟨q, hq, hgq, rfl, rfl, rfl, hnq⟩ := hrel
        have HGQ := Lib.hid hgq; have HNQ := Lib.hid hnq
        clear hgq hnq
        have hbm : B.length ≤ 1000 := HM.out
        have hl1 := cY_le (B.take q) k
        have hl2 := cN_le (B.take q) k
        simp only [List.length_take] at hl1 hl2
        by_cases hqt : q < B.length
        · obtain ⟨b2, off2, rfl, hc0, hc1⟩ := HB.out q hqt
          have p0 := HNQ.out.has hc0
          have p1 := HNQ.out.has hc1
          have ty := cY_take B k q hqt
          have tn := cN_take B k q hqt
          obtain ⟨x, hx⟩ : ∃ x, x = B[q] := ⟨_, rfl⟩
          rw [← hx] at p0 p1 ty tn
          obtain ⟨xk, xb⟩ := x
          simp only at p0 p1 ty tn
          clear hc0 hc1 hx
          by_cases hxk : xk = k
          · subst hxk
            cases xb
            · have TY := Lib.hid ty; have TN := Lib.hid tn; clear ty tn
              go_wp2_with fail
              go_roundg (gk - 1)
              case measure => have := HGQ.out; omega
              case rel => exact ⟨q + 1, by omega, by have := HGQ.out; omega, by go_num, by rw [TY.out]; simp, by rw [TN.out]; simp; omega, HNQ.out.then (Chg.alloc _ _ _)⟩
            · have TY := Lib.hid ty; have TN := Lib.hid tn; clear ty tn
              go_wp2_with fail
              go_roundg (gk - 1)
              case measure => have := HGQ.out; omega
              case rel => exact ⟨q + 1, by omega, by have := HGQ.out; omega, by go_num, by rw [TY.out]; simp; omega, by rw [TN.out]; simp, HNQ.out.then (Chg.alloc _ _ _)⟩
          · have hxb : (xk == k) = false := by simpa using hxk
            rw [hxb] at ty tn
            have TY := Lib.hid ty; have TN := Lib.hid tn; clear ty tn
            go_wp2_with fail
            go_roundg (gk - 1)
            case measure => have := HGQ.out; omega
            case rel => exact ⟨q + 1, by omega, by have := HGQ.out; omega, by go_num, by rw [TY.out]; simp, by rw [TN.out]; simp, HNQ.out.then (Chg.alloc _ _ _)⟩
        · have hqe : q = B.length := by omega
          subst hqe
          go_wp2_with fail
          go_roundg (g0 - 1)
          case measure => have := HG.out; omega
          case rel =>
            rw [List.take_length]
            exact ⟨i + 1, by omega, by have := HG.out; omega, by go_num, by rw [HTY.out], by rw [HTN.out], HNQ.out⟩
    · have hil : i = s.length := by omega
      subst hil
      rw [List.take_length] at hy1 hy2 ⊢
      have hR := HRR.out
      unfold votedR at hR
      by_cases hs0 : s = []
      · subst hs0
        rw [if_pos (.inl rfl)] at hR
        subst hR
        go_wp2_with fail
        refine bodyPost_ret (results_tmp rfl _ _ _) rfl ⟨rfl, HNW.out⟩
      · have hlb : ((s.length : Int) == 0) = false := by simpa using hs0
        by_cases hw : s.length / 2 + 1 ≤ sY B s
        · rw [if_pos (.inr hw)] at hR
          subst hR
          have hd : decide (((s.length : Int) / 2) + 1 ≤ (sY B s : Int)) = true := by simp; omega
          clear hs0
          go_wp2_with (first
            | (go_at_call 64; refine (maj_any s.length _ (by omega)).mono ?_; rintro e w1 ⟨rfl, rfl⟩)
            | fail)
          refine bodyPost_ret (results_tmp rfl _ _ _) rfl ⟨rfl, HNW.out⟩
        · rw [if_neg (fun h => by rcases h with h | h; exact hs0 h; exact hw h)] at hR
          have hd : decide (((s.length : Int) / 2) + 1 ≤ (sY B s : Int)) = false := by simp; omega
          by_cases hw2 : (s.length : Int) - sN B s < s.length / 2 + 1
          · rw [if_pos hw2] at hR
            subst hR
            have hd2 : decide ((s.length : Int) - (sN B s : Int) < (s.length : Int) / 2 + 1) = true := by simpa using hw2
            clear hs0
            go_wp2_with (first
              | (go_at_call 64; refine (maj_any s.length _ (by omega)).mono ?_; rintro e w1 ⟨rfl, rfl⟩)
              | fail)
            refine bodyPost_ret (results_tmp rfl _ _ _) rfl ⟨rfl, HNW.out⟩
          · rw [if_neg hw2] at hR
            subst hR
            have hd2 : decide ((s.length : Int) - (sN B s : Int) < (s.length : Int) / 2 + 1) = false := by simpa using hw2
            clear hs0
            go_wp2_with (first
              | (go_at_call 64; refine (maj_any s.length _ (by omega)).mono ?_; rintro e w1 ⟨rfl, rfl⟩)
              | fail)
            refine bodyPost_ret (results_tmp rfl _ _ _) rfl ⟨rfl, HNW.out⟩

def bothR (a b : Int) : Int := if a = 2 ∨ b = 2 then 2 else if a = 3 ∧ b = 3 then 3 else 1
theorem bothR_join (B : List (Int × Bool)) (s t : List Int) : bothR (voteR B s) (voteR B t) = joinR (voteR B s) (voteR B t) := by
  have h1 := voteR_cases B s; have h2 := voteR_cases B t
  rcases h1 with h1 | h1 | h1 <;> rcases h2 with h2 | h2 | h2 <;> simp [h1, h2, bothR, joinR]
theorem Bas.chg {w w' : World} {v : Value} {B : List (Int × Bool)} (h : Bas w v B) (c : New w w') : Bas w' v B := by
  obtain ⟨ao, cap, rfl, h⟩ := h
  exact ⟨ao, cap, rfl, fun i hi => by obtain ⟨b, off, e, h1, h2⟩ := h i hi; exact ⟨b, off, e, c.has h1, c.has h2⟩⟩
set_option maxRecDepth 100000 in
set_option maxHeartbeats 1600000 in
theorem svoted_any (a b bv : Value) (l0 l1 : List Int) (B : List (Int × Bool)) (w : World) (h0 : Us w a l0) (h1 : Us w b l1) (hv : Bas w bv B) (hd : (B.map (·.1)).Nodup) (n0 : l0.length ≤ 1000) (n1 : l1.length ≤ 1000) (hn : B.length ≤ 1000) :
    Calls Try.prog 17 #[.agg #[a, b], bv] w fun e w' => e = .returned (.int .i64 (joinR (voteR B l0) (voteR B l1))) ∧ New w w' := by
  have n1' : ∀ o, New w (w.alloc o).drew := fun o => (Chg.alloc w _ _).then (Chg.drew _ _)
  have H0 := Lib.hid h0; have H1 := Lib.hid h1; have HV := Lib.hid hv; have N0 := Lib.hid n0; have N1 := Lib.hid n1; have HN := Lib.hid hn; have HN1 := Lib.hid n1'
  obtain ⟨oa, ca, rfl, _⟩ := h0
  obtain ⟨ob, cb, rfl, _⟩ := h1
  obtain ⟨x, hx⟩ : ∃ x, x = voteR B l0 := ⟨_, rfl⟩
  obtain ⟨y, hy⟩ : ∃ y, y = voteR B l1 := ⟨_, rfl⟩
  have hxc := voteR_cases B l0
  have hyc := voteR_cases B l1
  rw [← bothR_join, ← hx, ← hy]
  have HX := Lib.hid (hx.trans (votedR_eq B hd l0).symm); have HY := Lib.hid (hy.trans (votedR_eq B hd l1).symm)
  rw [← hx] at hxc; rw [← hy] at hyc
  clear hx hy hv n0 n1 hn n1' hd
  rcases hxc with rfl | rfl | rfl <;> rcases hyc with rfl | rfl | rfl
  all_goals
    go_enter Try.func17, Try.ntmps17
    go_wp2_with fail
    go_region_held3 (fun w' => w'.cell? ⟨w.heap.size, 0, none⟩ = some (.slice oa l0.length ca) ∧ w'.cell? ⟨w.heap.size, 1, none⟩ = some (.slice ob l1.length cb)) (go_keep)
      (first
        | (go_at_call 44; ((with_reducible refine (votedby_any (.slice oa l0.length ca) bv l0 B _ (H0.out.new (HN1.out _)) (HV.out.chg (HN1.out _)) N0.out HN.out).mono ?_); rw [← HX.out]; rintro e w1 ⟨rfl, m1⟩; have k1 := m1.rule))
        | (go_at_call 44; ((with_reducible refine (votedby_any (.slice ob l1.length cb) bv l1 B _ (H1.out.new ((HN1.out _).then m1)) (HV.out.chg ((HN1.out _).then m1)) N1.out HN.out).mono ?_); rw [← HY.out]; rintro e w2 ⟨rfl, m2⟩; have k2 := m2.rule))
        | fail)
    rename_i hH
    clear hH k1 k2
    have hnw := ((HN1.out _).then m1).then m2
    have HNW := Lib.hid hnw
    clear m1 m2 hnw
    go_wp2_with fail
    refine bodyPost_ret (results_tmp rfl _ _ _) rfl ⟨rfl, HNW.out⟩
end Go.Proofs.Ytcgccoigjcdjeaa
