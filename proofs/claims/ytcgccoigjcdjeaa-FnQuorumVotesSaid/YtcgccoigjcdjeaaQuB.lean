/- quorum: VoteResult of one list, of two. Condition: fewer than a million members. -/
import Derived.Test.YtcgccoigjcdjeaaQuA
namespace Go.Proofs.Ytcgccoigjcdjeaa
open Go.RowKit Go.Sort

/-- votes: a member, its vote -/
def bal (B : List (Int × Bool)) (k : Int) : Option Bool := (B.find? (fun p => p.1 == k)).map (·.2)
def balV (B : List (Int × Bool)) : List (Int × Value) := B.map fun p => (p.1, .bool p.2)
theorem look_balV (B : List (Int × Bool)) (k : Int) : look (balV B) k = (bal B k).map Value.bool := by
  induction B with
  | nil => rfl
  | cons p B ih =>
    unfold look bal balV at *
    by_cases h : p.1 = k
    · simp [h]
    · have h' : (p.1 == k) = false := by simpa using h
      simp only [List.map_cons, List.find?_cons, h']
      simpa using ih
def yesN (B : List (Int × Bool)) (s : List Int) : Nat := (s.filter fun x => bal B x == some true).length
def missN (B : List (Int × Bool)) (s : List Int) : Nat := (s.filter fun x => bal B x == none).length
/-- 1: open, 2: lost, 3: won -/
def voteR (B : List (Int × Bool)) (s : List Int) : Int := if s = [] then 3 else if s.length / 2 + 1 ≤ yesN B s then 3 else if s.length / 2 + 1 ≤ yesN B s + missN B s then 1 else 2
theorem yesN_perm {a b : List Int} (B : List (Int × Bool)) (h : a.Perm b) : yesN B a = yesN B b := (h.filter _).length_eq
theorem missN_perm {a b : List Int} (B : List (Int × Bool)) (h : a.Perm b) : missN B a = missN B b := (h.filter _).length_eq
theorem yesN_le (B : List (Int × Bool)) (a : List Int) : yesN B a ≤ a.length := List.length_filter_le _ _
theorem missN_le (B : List (Int × Bool)) (a : List Int) : missN B a ≤ a.length := List.length_filter_le _ _
theorem yesN_snoc (B : List (Int × Bool)) (a : List Int) (k : Int) : yesN B (a ++ [k]) = yesN B a + if bal B k = some true then 1 else 0 := by
  unfold yesN; rw [List.filter_append]
  by_cases h : bal B k = some true <;> simp [h]
theorem missN_snoc (B : List (Int × Bool)) (a : List Int) (k : Int) : missN B (a ++ [k]) = missN B a + if bal B k = none then 1 else 0 := by
  unfold missN; rw [List.filter_append]
  by_cases h : bal B k = none <;> simp [h]

set_option maxRecDepth 100000 in
set_option maxHeartbeats 1600000 in
theorem vote67_any (o vt : Option Nat) (s : List Int) (B : List (Int × Bool)) (w : World) (hs : SetV w o s) (hv : MapV w vt (balV B)) (hn : s.length ≤ 1000000) :
    Calls Try.prog 67 #[.map o, .map vt] w fun e w' => e = .returned (.int .u8 (voteR B s)) ∧ New w w' := by
  have HS := Lib.hid hs; have HV := Lib.hid hv; have HN := Lib.hid hn
  clear hs hv hn
  by_cases hl : s = []
  · subst hl
    go_enter Try.func67, Try.ntmps67
    go_wp2_with (first | (at_len; refine set_len rfl _ _ rfl mt70 rfl HS.out ?_) | fail)
    refine bodyPost_ret (results_tmp rfl _ _ _) rfl ⟨rfl, Chg.refl _ _⟩
  · have hlen : 0 < s.length := List.length_pos_iff.2 hl
    have hlb : ((s.length : Int) == 0) = false := by simpa using hl
    have HL := Lib.hid hl
    clear hl
    go_enter Try.func67, Try.ntmps67
    go_wp2_with (first | (at_len; refine set_len rfl _ _ rfl mt70 rfl HS.out ?_) | (at_range; refine set_range rfl _ _ rfl mt70 rfl HS.out ?_; intro w1 r1 s1 z1) | fail)
    clear hlb
    go_frame
    go_loopg [5, 6, 7, 8, 9] s.length (fun n y m _ _ _ wr => ∃ done : List Int, s.length ≤ done.length + n ∧ RangS wr w.heap.size o s done ∧ y = .int .i64 (yesN B done : Nat) ∧ m = .int .i64 (missN B done : Nat) ∧ New w wr)
    case atStart => exact ⟨[], by simp, r1, rfl, rfl, s1.chg⟩
    case round =>
      obtain ⟨done, hg, hr, rfl, rfl, hnew⟩ := hrel
      have hdl := hr.len
      have h1 := yesN_le B done
      have h2 := missN_le B done
      have hsm : s.length ≤ 1000000 := HN.out
      have HG := Lib.hid hg; have HR := Lib.hid hr; have HNW := Lib.hid hnew
      clear hg hr hnew r1 s1 z1
      go_wp2_with (first
        | (at_next; refine set_next rfl _ rfl rfl HR.out ?_ ?_)
        | fail)
      · intro hp
        have hy := yesN_perm B hp
        have hm := missN_perm B hp
        have e : voteR B s = if s.length / 2 + 1 ≤ yesN B done then 3 else if s.length / 2 + 1 ≤ yesN B done + missN B done then 1 else 2 := by unfold voteR; rw [if_neg HL.out, hy, hm]
        have HE := Lib.hid e
        have hs2 : SetV wr o s := HS.out.chg HNW.out (by simp)
        have HS2 := Lib.hid hs2
        clear e hs2 hp hy hm
        by_cases hw : s.length / 2 + 1 ≤ yesN B done
        · have hE : voteR B s = 3 := by rw [HE.out, if_pos hw]
          have HE2 := Lib.hid hE; clear hE
          have hd : decide (((s.length : Int) / 2) + 1 ≤ (yesN B done : Int)) = true := by simp; omega
          go_wp2_with (first | (at_len; refine set_len rfl _ _ rfl mt70 rfl HS2.out ?_) | fail)
          refine bodyPost_ret (results_tmp rfl _ _ _) rfl ⟨by rw [HE2.out]; rfl, HNW.out⟩
        · have hd : decide (((s.length : Int) / 2) + 1 ≤ (yesN B done : Int)) = false := by simp; omega
          by_cases hw2 : s.length / 2 + 1 ≤ yesN B done + missN B done
          · have hE : voteR B s = 1 := by rw [HE.out, if_neg hw, if_pos hw2]
            have HE2 := Lib.hid hE; clear hE
            have hd2 : decide (((s.length : Int) / 2) + 1 ≤ (yesN B done : Int) + (missN B done : Int)) = true := by simp; omega
            go_wp2_with (first | (at_len; refine set_len rfl _ _ rfl mt70 rfl HS2.out ?_) | fail)
            refine bodyPost_ret (results_tmp rfl _ _ _) rfl ⟨by rw [HE2.out]; rfl, HNW.out⟩
          · have hE : voteR B s = 2 := by rw [HE.out, if_neg hw, if_neg hw2]
            have HE2 := Lib.hid hE; clear hE
            have hd2 : decide (((s.length : Int) / 2) + 1 ≤ (yesN B done : Int) + (missN B done : Int)) = false := by simp; omega
            go_wp2_with (first | (at_len; refine set_len rfl _ _ rfl mt70 rfl HS2.out ?_) | fail)
            refine bodyPost_ret (results_tmp rfl _ _ _) rfl ⟨by rw [HE2.out]; rfl, HNW.out⟩
      · intro k w2 hk hnk r2 s2 z2 hen
        have hv2 := (MapV.chg HV.out HNW.out (by simp)).chg s2.chg (fun i e e' => by
          have h := HV.out
          rw [e] at h
          have := MapB.lt h
          omega)
        have HV2 := Lib.hid hv2
        have hl2 := r2.len
        simp only [List.length_append, List.length_cons, List.length_nil] at hl2
        have hlk := look_balV B k
        have hy := yesN_snoc B done k
        have hm := missN_snoc B done k
        have HY := Lib.hid hy; have HM := Lib.hid hm
        have hnw2 : New w w2 := HNW.out.trans s2.chg (fun _ _ h => h) (fun i hi e => by omega)
        have HNW2 := Lib.hid hnw2
        clear hv2 hy hm hnw2
        cases hb : bal B k with
        | none =>
          rw [hb] at hlk HY HM
          simp only [Option.map_none] at hlk
          go_wp2_with (first | (at_lookup; refine op_lookup_ok rfl _ _ _ rfl mt76 rfl HV2.out rfl ?_) | fail)
          go_roundg (gk - 1)
          case measure => have := HG.out; omega
          case rel => exact ⟨done ++ [k], by have := HG.out; simp; omega, r2, by rw [HY.out]; go_num, by rw [HM.out]; go_num, HNW2.out⟩
        | some bv =>
          rw [hb] at hlk HY HM
          simp only [Option.map_some] at hlk
          cases bv with
          | true =>
            go_wp2_with (first | (at_lookup; refine op_lookup_ok rfl _ _ _ rfl mt76 rfl HV2.out rfl ?_) | fail)
            go_roundg (gk - 1)
            case measure => have := HG.out; omega
            case rel => exact ⟨done ++ [k], by have := HG.out; simp; omega, r2, by rw [HY.out]; go_num, by rw [HM.out]; go_num, HNW2.out⟩
          | false =>
            go_wp2_with (first | (at_lookup; refine op_lookup_ok rfl _ _ _ rfl mt76 rfl HV2.out rfl ?_) | fail)
            go_roundg (gk - 1)
            case measure => have := HG.out; omega
            case rel => exact ⟨done ++ [k], by have := HG.out; simp; omega, r2, by rw [HY.out]; rfl, by rw [HM.out]; rfl, HNW2.out⟩

def joinR (r1 r2 : Int) : Int := if r1 = r2 then r1 else if r1 = 2 ∨ r2 = 2 then 2 else 1
theorem voteR_cases (B : List (Int × Bool)) (s : List Int) : voteR B s = 1 ∨ voteR B s = 2 ∨ voteR B s = 3 := by
  unfold voteR
  split
  · simp
  split
  · simp
  split <;> simp
set_option maxRecDepth 100000 in
set_option maxHeartbeats 1600000 in
theorem vote45_any (v0 v1 vt : Option Nat) (l0 l1 : List Int) (B : List (Int × Bool)) (w : World) (h0 : SetV w v0 l0) (h1 : SetV w v1 l1) (hv : MapV w vt (balV B)) (n0 : l0.length ≤ 1000000) (n1 : l1.length ≤ 1000000) :
    Calls Try.prog 45 #[.agg #[.map v0, .map v1], .map vt] w fun e w' => e = .returned (.int .u8 (joinR (voteR B l0) (voteR B l1))) ∧ New w w' := by
  have H0 := Lib.hid h0; have H1 := Lib.hid h1; have HV := Lib.hid hv; have N0 := Lib.hid n0; have N1 := Lib.hid n1
  clear h0 h1 hv n0 n1
  obtain ⟨a, ha⟩ : ∃ a, a = voteR B l0 := ⟨_, rfl⟩
  obtain ⟨b, hb⟩ : ∃ b, b = voteR B l1 := ⟨_, rfl⟩
  have hac := voteR_cases B l0
  have hbc := voteR_cases B l1
  rw [← ha] at hac ⊢; rw [← hb] at hbc ⊢
  have HA := Lib.hid ha; have HB := Lib.hid hb
  clear ha hb
  rcases hac with rfl | rfl | rfl <;> rcases hbc with rfl | rfl | rfl
  all_goals
    go_enter Try.func45, Try.ntmps45
    go_wp2_with fail
    refine (vote67_any v0 vt l0 B _ (H0.out.alloc _) (MapV.chg HV.out (Chg.alloc w _ (fun _ => False)) (by simp)) N0.out).mono ?_
    rw [← HA.out]
    rintro e w1 ⟨rfl, m1⟩
    have k1 := cell_of_block (off := 1) (m1.keeps (block_new w (.cells #[.map v0, .map v1] 72)) (by simp)) rfl
    have M1 := Lib.hid m1; clear m1
    go_wp2_with fail
    refine (vote67_any v1 vt l1 B _ (H1.out.chg ((Chg.alloc w _ (fun _ => False)).then M1.out) (by simp)) (MapV.chg HV.out ((Chg.alloc w _ (fun _ => False)).then M1.out) (by simp)) N1.out).mono ?_
    rw [← HB.out]
    rintro e w2 ⟨rfl, m2⟩
    have M2 := Lib.hid m2; clear m2
    go_wp2_with fail
    refine bodyPost_ret (results_tmp rfl _ _ _) rfl ⟨rfl, ((Chg.alloc w _ _).then M1.out).then M2.out⟩

/-- votes that are read -/
def Bas (w : World) (v : Value) (B : List (Int × Bool)) : Prop :=
  ∃ ao cap, v = .slice ao B.length cap ∧ ∀ i (hi : i < B.length), ∃ b off, ao = some ⟨b, off, none⟩ ∧ w.cell? ⟨b, off + i * 2, none⟩ = some (.int .u64 (B[i]'hi).1) ∧ w.cell? ⟨b, off + i * 2 + 1, none⟩ = some (.bool (B[i]'hi).2)
theorem upd_snoc {l : List (Int × Value)} {k : Int} {v : Value} (h : k ∉ l.map (·.1)) : upd l k v = l ++ [(k, v)] := by
  unfold upd
  rw [any_false (l := l) (k := k)]
  · simp
  · intro p hp e
    exact h (List.mem_map.2 ⟨p, hp, e⟩)
theorem balV_take (B : List (Int × Bool)) (i : Nat) (h : i < B.length) (hd : (B.map (·.1)).Nodup) : upd (balV (B.take i)) B[i].1 (.bool B[i].2) = balV (B.take (i + 1)) := by
  rw [List.take_succ_eq_append_getElem h, upd_snoc]
  · unfold balV; rw [List.map_append]; rfl
  · intro hm
    simp only [balV, List.map_map, List.mem_map] at hm
    obtain ⟨p, hp, e⟩ := hm
    simp only [Function.comp] at e
    obtain ⟨j, hj, rfl⟩ := List.getElem_of_mem hp
    rw [List.getElem_take] at e
    have hj' : j < i := by simp at hj; omega
    have h1 : (B.map (·.1))[j]'(by simp; omega) = (B.map (·.1))[i]'(by simpa using h) := by simpa using e
    have := (List.getElem_inj hd).1 h1
    omega

set_option maxRecDepth 100000 in
set_option maxHeartbeats 1600000 in
theorem voted_any (a b bv : Value) (l0 l1 : List Int) (B : List (Int × Bool)) (w : World) (h0 : Us w a l0) (h1 : Us w b l1) (hv : Bas w bv B) (d0 : l0.Nodup) (d1 : l1.Nodup) (hd : (B.map (·.1)).Nodup) (n0 : l0.length ≤ 1000000) (n1 : l1.length ≤ 1000000) (hn : B.length ≤ 1000000) :
    Calls Try.prog 18 #[.agg #[a, b], bv] w fun e w' => e = .returned (.int .i64 (joinR (voteR B l0) (voteR B l1))) ∧ New w w' := by
  have H0 := Lib.hid h0; have H1 := Lib.hid h1; have D0 := Lib.hid d0; have D1 := Lib.hid d1; have N0 := Lib.hid n0; have N1 := Lib.hid n1; have HD := Lib.hid hd; have HN := Lib.hid hn
  obtain ⟨oa, ca, rfl, _⟩ := h0
  obtain ⟨ob, cb, rfl, _⟩ := h1
  obtain ⟨ao, cap, rfl, hcs⟩ := hv
  have HCS := Lib.hid hcs
  clear d0 d1 n0 n1 hd hn hcs
  have hjr : joinR (voteR B l0) (voteR B l1) = 1 ∨ joinR (voteR B l0) (voteR B l1) = 2 ∨ joinR (voteR B l0) (voteR B l1) = 3 := by
    have h1 := voteR_cases B l0; have h2 := voteR_cases B l1
    unfold joinR
    split
    · exact h1
    split <;> simp
  obtain ⟨r, hr⟩ : ∃ r, r = joinR (voteR B l0) (voteR B l1) := ⟨_, rfl⟩
  rw [← hr] at hjr ⊢
  have HRR := Lib.hid hr; clear hr
  go_enter Try.func18, Try.ntmps18
  go_wp2_with fail
  go_loopg [6] B.length (fun n j wr => ∃ i : Nat, i ≤ B.length ∧ B.length ≤ n + i ∧ j = .int .i64 i ∧ MapB wr (w.heap.size + 1) (balV (B.take i)) ∧ New w wr ∧ wr.heap[w.heap.size]? = some (.cells #[.slice oa l0.length ca, .slice ob l1.length cb] 23 (0, 0)))
  case atStart =>
    refine ⟨0, by omega, by omega, rfl, ?_, (Chg.alloc w _ _).then (Chg.alloc _ _ _), block_alloc (block_new w _) _⟩
    have := MapB.made (w.alloc (.cells #[.slice oa l0.length ca, .slice ob l1.length cb] 23))
    simp only [World.size_alloc] at this
    exact this
  case round =>
    obtain ⟨i, hi, hg, rfl, hm, hnew, hbx⟩ := hrel
    have HG := Lib.hid hg; have HM := Lib.hid hm; have HNW := Lib.hid hnew; have HBX := Lib.hid hbx
    clear hg hm hnew hbx
    by_cases hlt : i < B.length
    · obtain ⟨b, off, rfl, hc0, hc1⟩ := HCS.out i hlt
      have p0 := HNW.out.has hc0
      have p1 := HNW.out.has hc1
      have hsmall : B.length ≤ 1000000 := HN.out
      have hbt := balV_take B i hlt HD.out
      obtain ⟨x, hx⟩ : ∃ x, x = B[i] := ⟨_, rfl⟩
      rw [← hx] at p0 p1 hbt
      have HBT := Lib.hid hbt
      obtain ⟨xk, xb⟩ := x
      simp only at p0 p1
      clear hbt hx hc0 hc1
      obtain ⟨w3, hrun, ht3⟩ := run_update_v (P := Try.prog) HM.out Try.underlying76 u28 xk (.bool xb)
      obtain ⟨w4, hrun4, ht4⟩ := run_update_v (P := Try.prog) (MapB.chg HM.out (Chg.drew wr (fun _ => False)) (by simp)) Try.underlying76 u28 xk (.bool xb)
      go_wp2_with fail
      go_region
      go_wp2_with fail
      go_roundg (gk - 1)
      case measure => have := HG.out; omega
      case rel =>
        have hch : Chg wr w4 (fun i => i = w.heap.size + 1) := (Chg.drew wr _).then ht4.chg
        refine ⟨i + 1, by omega, by have := HG.out; omega, by go_num, ?_, HNW.out.trans hch (fun _ _ h => h) (fun i hi e => by omega), hch.keeps HBX.out (by omega)⟩
        have := ht4.map
        rw [HBT.out] at this
        exact this
    · have hil : i = B.length := by omega
      subst hil
      have hm : MapB wr (w.heap.size + 1) (balV B) := by have := HM.out; rwa [List.take_length] at this
      have HM2 := Lib.hid hm
      have q0 := cell_of_block (off := 0) HBX.out rfl; have q1 := cell_of_block (off := 1) HBX.out rfl
      clear hm HM HG hi hlt
      go_wp2_with fail
      refine (joint40_any (.slice oa l0.length ca) (.slice ob l1.length cb) l0 l1 _ (H0.out.new HNW.out) (H1.out.new HNW.out) D0.out D1.out N0.out N1.out).mono ?_
      rintro e w5 ⟨x0, x1, rfl, s0, s1, m1⟩
      have S0 := Lib.hid s0; have S1 := Lib.hid s1; have M1 := Lib.hid m1
      clear s0 s1 m1 q0 q1
      go_wp2_with fail
      refine (vote45_any x0 x1 (some (w.heap.size + 1)) l0 l1 B _ S0.out S1.out (show MapV _ (some (w.heap.size + 1)) (balV B) from MapB.chg HM2.out M1.out (by simp)) N0.out N1.out).mono ?_
      rintro e w6 ⟨rfl, m2⟩
      have M2 := Lib.hid m2; clear m2
      rw [← HRR.out]
      rcases hjr with rfl | rfl | rfl
      all_goals
        go_wp2_with fail
        go_ret
        exact ⟨rfl, (HNW.out.then M1.out).then M2.out⟩
end Go.Proofs.Ytcgccoigjcdjeaa
