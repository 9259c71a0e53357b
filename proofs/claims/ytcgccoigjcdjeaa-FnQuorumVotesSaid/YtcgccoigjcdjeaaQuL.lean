/- quorum.JointConfig.CommittedIndex, impl.Committed. Condition: at most 12 members a list, what is acknowledged at least 0, none twice. -/
import Derived.Test.YtcgccoigjcdjeaaQuJ
import Derived.Test.YtcgccoigjcdjeaaQuK
import Derived.Test.YtcgccoigjcdjeaaQuP
namespace Go.Proofs.Ytcgccoigjcdjeaa
open Go.RowKit Go.Sort

def ackO (A : List (Int × Int)) (k : Int) : Int := (ackd A k).getD 0
theorem ackO_nonneg {A : List (Int × Int)} (h : ∀ p ∈ A, 0 ≤ p.2) (k : Int) : 0 ≤ ackO A k := by
  unfold ackO ackd
  cases hf : A.find? (fun p => p.1 == k) with
  | none => simp
  | some p => simpa using h p (List.mem_of_find?_eq_some hf)
def commR (A : List (Int × Int)) (s : List Int) : Int := commX (s.map (ackO A))
theorem commR_nil (A : List (Int × Int)) : commR A [] = 18446744073709551615 := rfl
theorem commTo_eq {A : List (Int × Int)} {s : List Int} {r : Int} (h0 : ∀ p ∈ A, 0 ≤ p.2) (h : CommTo A s r) : r = commR A s := by
  unfold CommTo at h
  unfold commR commX
  by_cases hs : s = []
  · rw [if_pos hs] at h
    subst hs
    rw [h]; rfl
  · rw [if_neg hs] at h
    obtain ⟨d, h1, h2, h3⟩ := h
    rw [if_neg (by simpa using hs)]
    have h4 := best_of_sorted (xs := s.map (ackO A)) (d := d) (r := r) h1 h2 (fun x hx => by obtain ⟨k, _, rfl⟩ := List.mem_map.1 hx; exact ackO_nonneg h0 k) (by simpa using h3)
    exact h4.symm
theorem commR_cases (A : List (Int × Int)) (s : List Int) : ∃ a : Int, a = commR A s := ⟨_, rfl⟩

theorem comm66_eq (o m : Option Nat) (s : List Int) (A : List (Int × Int)) (w : World) (hs : SetV w o s) (hm : MapV w m (ackV A)) (hn : s.length ≤ 12) (h0 : ∀ p ∈ A, 0 ≤ p.2) :
    Calls Try.prog 66 #[.map o, .iface 67 (.map m)] w fun e w' => e = .returned (.int .u64 (commR A s)) ∧ New w w' :=
  (comm66_any o m s A w hs hm hn).mono fun e w' ⟨⟨r, h1, h2⟩, h3⟩ => ⟨by rw [h1, commTo_eq h0 h2], h3⟩

/-- the lesser of two -/
def lessR (a b : Int) : Int := if b < a then b else a
theorem lessR_lt {a b : Int} (h : a < b) : lessR a b = a := by unfold lessR; rw [if_neg (by omega)]
theorem lessR_ge {a b : Int} (h : ¬ a < b) : lessR a b = b := by unfold lessR; split <;> omega
set_option maxRecDepth 100000 in
set_option maxHeartbeats 1600000 in
theorem comm41_any (v0 v1 m : Option Nat) (l0 l1 : List Int) (A : List (Int × Int)) (w : World) (h0 : SetV w v0 l0) (h1 : SetV w v1 l1) (hm : MapV w m (ackV A)) (n0 : l0.length ≤ 12) (n1 : l1.length ≤ 12) (hA : ∀ p ∈ A, 0 ≤ p.2) :
    Calls Try.prog 41 #[.agg #[.map v0, .map v1], .iface 67 (.map m)] w fun e w' => e = .returned (.int .u64 (lessR (commR A l0) (commR A l1))) ∧ New w w' := by
  have H0 := Lib.hid h0; have H1 := Lib.hid h1; have HV := Lib.hid hm; have N0 := Lib.hid n0; have N1 := Lib.hid n1; have HA := Lib.hid hA
  clear h0 h1 hm n0 n1 hA
  obtain ⟨a, ha⟩ : ∃ a, a = commR A l0 := ⟨_, rfl⟩
  obtain ⟨b, hb⟩ : ∃ b, b = commR A l1 := ⟨_, rfl⟩
  rw [← ha, ← hb]
  have HCA := Lib.hid ha; have HCB := Lib.hid hb
  clear ha hb
  by_cases hlt : a < b
  · have hl := lessR_lt hlt
    have HL := Lib.hid hl; clear hl
    have hd : decide (a < b) = true := by simpa using hlt
    go_enter Try.func41, Try.ntmps41
    go_wp2_with fail
    refine (comm66_eq v0 m l0 A _ (H0.out.alloc _) (MapV.chg HV.out (Chg.alloc w _ (fun _ => False)) (by simp)) N0.out HA.out).mono ?_
    rw [← HCA.out]
    rintro e w1 ⟨rfl, m1⟩
    have k1 := cell_of_block (off := 1) (m1.keeps (block_new w (.cells #[.map v0, .map v1] 72)) (by simp)) rfl
    have M1 := Lib.hid m1; clear m1
    go_wp2_with fail
    refine (comm66_eq v1 m l1 A _ (H1.out.chg ((Chg.alloc w _ (fun _ => False)).then M1.out) (by simp)) (MapV.chg HV.out ((Chg.alloc w _ (fun _ => False)).then M1.out) (by simp)) N1.out HA.out).mono ?_
    rw [← HCB.out]
    rintro e w2 ⟨rfl, m2⟩
    have M2 := Lib.hid m2; clear m2
    go_wp2_with fail
    refine bodyPost_ret (results_tmp rfl _ _ _) rfl ⟨by rw [HL.out]; rfl, ((Chg.alloc w _ _).then M1.out).then M2.out⟩
  · have hl := lessR_ge hlt
    have HL := Lib.hid hl; clear hl
    have hd : decide (a < b) = false := by simpa using hlt
    go_enter Try.func41, Try.ntmps41
    go_wp2_with fail
    refine (comm66_eq v0 m l0 A _ (H0.out.alloc _) (MapV.chg HV.out (Chg.alloc w _ (fun _ => False)) (by simp)) N0.out HA.out).mono ?_
    rw [← HCA.out]
    rintro e w1 ⟨rfl, m1⟩
    have k1 := cell_of_block (off := 1) (m1.keeps (block_new w (.cells #[.map v0, .map v1] 72)) (by simp)) rfl
    have M1 := Lib.hid m1; clear m1
    go_wp2_with fail
    refine (comm66_eq v1 m l1 A _ (H1.out.chg ((Chg.alloc w _ (fun _ => False)).then M1.out) (by simp)) (MapV.chg HV.out ((Chg.alloc w _ (fun _ => False)).then M1.out) (by simp)) N1.out HA.out).mono ?_
    rw [← HCB.out]
    rintro e w2 ⟨rfl, m2⟩
    have M2 := Lib.hid m2; clear m2
    go_wp2_with fail
    refine bodyPost_ret (results_tmp rfl _ _ _) rfl ⟨by rw [HL.out]; rfl, ((Chg.alloc w _ _).then M1.out).then M2.out⟩

theorem ackV_take (B : List (Int × Int)) (i : Nat) (h : i < B.length) (hd : (B.map (·.1)).Nodup) : upd (ackV (B.take i)) B[i].1 (.int .u64 B[i].2) = ackV (B.take (i + 1)) := by
  rw [List.take_succ_eq_append_getElem h, upd_snoc]
  · unfold ackV; rw [List.map_append]; rfl
  · intro hm
    simp only [ackV, List.map_map, List.mem_map] at hm
    obtain ⟨p, hp, e⟩ := hm
    simp only [Function.comp] at e
    obtain ⟨j, hj, rfl⟩ := List.getElem_of_mem hp
    rw [List.getElem_take] at e
    have hj' : j < i := by simp at hj; omega
    have h1 : (B.map (·.1))[j]'(by simp; omega) = (B.map (·.1))[i]'(by simpa using h) := by simpa using e
    have := (List.getElem_inj hd).1 h1
    omega
set_option maxRecDepth 100000 in
set_option maxHeartbeats 1600000 in
theorem committed_any (a b bv : Value) (l0 l1 : List Int) (B : List (Int × Int)) (w : World) (h0 : Us w a l0) (h1 : Us w b l1) (hv : Acs w bv B) (d0 : l0.Nodup) (d1 : l1.Nodup) (hd : (B.map (·.1)).Nodup) (n0 : l0.length ≤ 12) (n1 : l1.length ≤ 12) (hn : B.length ≤ 1000000) (hA : ∀ p ∈ B, 0 ≤ p.2) :
    Calls Try.prog 12 #[.agg #[a, b], bv] w fun e w' => e = .returned (.int .u64 (lessR (commR B l0) (commR B l1))) ∧ New w w' := by
  have H0 := Lib.hid h0; have H1 := Lib.hid h1; have D0 := Lib.hid d0; have D1 := Lib.hid d1; have N0 := Lib.hid n0; have N1 := Lib.hid n1; have HD := Lib.hid hd; have HN := Lib.hid hn; have HA := Lib.hid hA
  obtain ⟨oa, ca, rfl, _⟩ := h0
  obtain ⟨ob, cb, rfl, _⟩ := h1
  obtain ⟨ao, cap, rfl, hcs⟩ := hv
  have HCS := Lib.hid hcs
  clear d0 d1 n0 n1 hd hn hcs hA
  obtain ⟨r, hr⟩ : ∃ r, r = lessR (commR B l0) (commR B l1) := ⟨_, rfl⟩
  rw [← hr]
  have HRR := Lib.hid hr; clear hr
  go_enter Try.func12, Try.ntmps12
  go_wp2_with fail
  go_loopg [6] B.length (fun n j wr => ∃ i : Nat, i ≤ B.length ∧ B.length ≤ n + i ∧ j = .int .i64 i ∧ MapB wr (w.heap.size + 1) (ackV (B.take i)) ∧ New w wr ∧ wr.heap[w.heap.size]? = some (.cells #[.slice oa l0.length ca, .slice ob l1.length cb] 23 (0, 0)))
  case atStart =>
    refine ⟨0, by omega, by omega, rfl, ?_, (Chg.alloc w _ _).then (Chg.alloc _ _ _), block_alloc (block_new w _) _⟩
    have := MapB.made (w.alloc (.cells #[.slice oa l0.length ca, .slice ob l1.length cb] 23))
    simp only [World.size_alloc] at this
    exact this
  case round =>
    obtain ⟨i, hi, hg, rfl, hm, hnew, hbx⟩ := hrel
    have HG := Lib.hid hg; have HM := Lib.hid hm; have HNW := Lib.hid hnew; have HBX := Lib.hid hbx
    clear hg hm hnew hbx
    by_cases hlt : i < B.length
    · obtain ⟨b, off, rfl, hc0, hc1⟩ := HCS.out i hlt
      have p0 := HNW.out.has hc0
      have p1 := HNW.out.has hc1
      have hsmall : B.length ≤ 1000000 := HN.out
      have hbt := ackV_take B i hlt HD.out
      obtain ⟨x, hx⟩ : ∃ x, x = B[i] := ⟨_, rfl⟩
      rw [← hx] at p0 p1 hbt
      have HBT := Lib.hid hbt
      obtain ⟨xk, xb⟩ := x
      simp only at p0 p1
      clear hbt hx hc0 hc1
      obtain ⟨w3, hrun, ht3⟩ := run_update_v (P := Try.prog) HM.out Try.underlying67 u28 xk (.int .u64 xb)
      obtain ⟨w4, hrun4, ht4⟩ := run_update_v (P := Try.prog) (MapB.chg HM.out (Chg.drew wr (fun _ => False)) (by simp)) Try.underlying67 u28 xk (.int .u64 xb)
      go_wp2_with fail
      go_region
      go_wp2_with fail
      go_roundg (gk - 1)
      case measure => have := HG.out; omega
      case rel =>
        have hch : Chg wr w4 (fun i => i = w.heap.size + 1) := (Chg.drew wr _).then ht4.chg
        refine ⟨i + 1, by omega, by have := HG.out; omega, by go_num, ?_, HNW.out.trans hch (fun _ _ h => h) (fun i hi e => by omega), hch.keeps HBX.out (by omega)⟩
        have := ht4.map
        rw [HBT.out] at this
        exact this
    · have hil : i = B.length := by omega
      subst hil
      have hm : MapB wr (w.heap.size + 1) (ackV B) := by have := HM.out; rwa [List.take_length] at this
      have HM2 := Lib.hid hm
      have q0 := cell_of_block (off := 0) HBX.out rfl; have q1 := cell_of_block (off := 1) HBX.out rfl
      clear hm HM HG hi hlt
      go_wp2_with fail
      refine (joint40_any (.slice oa l0.length ca) (.slice ob l1.length cb) l0 l1 _ (H0.out.new HNW.out) (H1.out.new HNW.out) D0.out D1.out (Nat.le_trans N0.out (by decide)) (Nat.le_trans N1.out (by decide))).mono ?_
      rintro e w5 ⟨x0, x1, rfl, s0, s1, m1⟩
      have S0 := Lib.hid s0; have S1 := Lib.hid s1; have M1 := Lib.hid m1
      clear s0 s1 m1 q0 q1
      go_wp2_with fail
      refine (comm41_any x0 x1 (some (w.heap.size + 1)) l0 l1 B _ S0.out S1.out (show MapV _ (some (w.heap.size + 1)) (ackV B) from MapB.chg HM2.out M1.out (by simp)) N0.out N1.out HA.out).mono ?_
      rintro e w6 ⟨rfl, m2⟩
      have M2 := Lib.hid m2; clear m2
      rw [← HRR.out]
      go_wp2_with fail
      go_ret
      exact ⟨rfl, (HNW.out.then M1.out).then M2.out⟩
end Go.Proofs.Ytcgccoigjcdjeaa
