/- laws.piVoters. Condition: fewer than a million numbers. -/
import Derived.Test.YtcgccoigjcdjeaaConfW
namespace Go.Proofs.Ytcgccoigjcdjeaa
open Go.RowKit Go.Sort

set_option maxRecDepth 100000 in
set_option maxHeartbeats 1600000 in
theorem set65_any (v : Value) (l : List Int) (w : World) (h : Us w v l) (hd : l.Nodup) (hn : l.length ≤ 1000000) :
    Calls Try.prog 65 #[v] w fun e w' => ∃ o, e = .returned (.map o) ∧ SetV w' o l ∧ New w w' := by
  obtain ⟨ao, cap, rfl, h⟩ := h
  by_cases hl : l = []
  · subst hl
    clear h hd hn
    go_enter Try.func65, Try.ntmps65
    go_wp2_with fail
    refine bodyPost_ret (results_tmp rfl _ _ _) rfl ⟨none, rfl, SetV.nil _, Chg.refl _ _⟩
  · have hlen : 0 < l.length := List.length_pos_iff.2 hl
    have hlb : ((l.length : Int) == 0) = false := by simpa using hl
    have H := Lib.hid h; have HD := Lib.hid hd; have HN := Lib.hid hn; have HL := Lib.hid hl
    clear h hd hn hl
    go_enter Try.func65, Try.ntmps65
    go_wp2_with fail
    clear hlb
    go_loopg [4] l.length (fun n j wr => ∃ i : Nat, i ≤ l.length ∧ l.length ≤ n + i ∧ j = .int .i64 i ∧ SetV wr (some w.heap.size) (l.take i) ∧ New w wr)
    case atStart => exact ⟨0, by omega, by omega, rfl, SetV.made w, Chg.alloc _ _ _⟩
    case round =>
      obtain ⟨i, hi, hg, rfl, hs, hnew⟩ := hrel
      have HG := Lib.hid hg; have HS := Lib.hid hs; have HNW := Lib.hid hnew
      clear hg hs hnew
      by_cases hlt : i < l.length
      · obtain ⟨b, off, rfl, hc⟩ := H.out i hlt
        have hc' := HNW.out.has hc
        have hsmall : l.length ≤ 1000000 := HN.out
        have hins : ins (l.take i) l[i] = l.take (i + 1) := by
          rw [List.take_succ_eq_append_getElem hlt]
          refine ins_new fun hm => ?_
          have hnd := HD.out
          obtain ⟨j, hj, e⟩ := List.getElem_of_mem hm
          rw [List.getElem_take] at e
          have hj' : j < i := by simp at hj; omega
          have := (List.getElem_inj hnd).1 e
          omega
        have HINS := Lib.hid hins; clear hc hins
        go_wp2_with (first
          | (at_mapUpdate; refine set_update rfl _ _ _ _ rfl mt69 rfl HS.out rfl rfl ?_; intro w3 h3 s3 z3)
          | fail)
        go_roundg (gk - 1)
        case measure => have := HG.out; omega
        case rel =>
          exact ⟨i + 1, by omega, by have := HG.out; omega, by go_num, by rw [← HINS.out]; exact h3, HNW.out.trans s3.chg (fun _ _ h => h) (fun i hi e => by omega)⟩
      · have hil : i = l.length := by omega
        subst hil
        have hs : SetV wr (some w.heap.size) l := by have := HS.out; rwa [List.take_length] at this
        have HS2 := Lib.hid hs; clear hs
        go_wp2_with fail
        go_ret
        exact ⟨_, rfl, HS2.out, HNW.out⟩

set_option maxRecDepth 100000 in
set_option maxHeartbeats 1600000 in
theorem joint40_any (a b : Value) (l0 l1 : List Int) (w : World) (h0 : Us w a l0) (h1 : Us w b l1) (d0 : l0.Nodup) (d1 : l1.Nodup) (n0 : l0.length ≤ 1000000) (n1 : l1.length ≤ 1000000) :
    Calls Try.prog 40 #[.agg #[a, b]] w fun e w' => ∃ v0 v1, e = .returned (.agg #[.map v0, .map v1]) ∧ SetV w' v0 l0 ∧ SetV w' v1 l1 ∧ New w w' := by
  have n2 : ∀ o1 o2, New w ((w.alloc o1).alloc o2).drew := fun o1 o2 => ((Chg.alloc w _ _).then (Chg.alloc _ _ _)).then (Chg.drew _ _)
  have H0 := Lib.hid h0; have H1 := Lib.hid h1; have D0 := Lib.hid d0; have D1 := Lib.hid d1; have N0 := Lib.hid n0; have N1 := Lib.hid n1; have HN2 := Lib.hid n2
  obtain ⟨oa, ca, rfl, _⟩ := h0
  obtain ⟨ob, cb, rfl, _⟩ := h1
  clear d0 d1 n0 n1 n2
  go_enter Try.func40, Try.ntmps40
  go_wp2_with fail
  go_region_held3 (fun w' => w'.cell? ⟨w.heap.size, 0, none⟩ = some (.slice oa l0.length ca) ∧ w'.cell? ⟨w.heap.size, 1, none⟩ = some (.slice ob l1.length cb)) (go_keep)
    (first
      | (go_at_call 65; ((with_reducible refine (set65_any (.slice oa l0.length ca) l0 _ (H0.out.new (HN2.out _ _)) D0.out N0.out).mono ?_); rintro e w1 ⟨x0, rfl, s0, m1⟩; have k1 := m1.rule))
      | (go_at_call 65; ((with_reducible refine (set65_any (.slice ob l1.length cb) l1 _ (H1.out.new ((HN2.out _ _).then m1)) D1.out N1.out).mono ?_); rintro e w2 ⟨x1, rfl, s1, m2⟩; have k2 := m2.rule; have HBK := Lib.hid (m2.keeps (m1.keeps (block_drew (block_new1 w _ _)) (by simp)) (by simp)); have r0 := cell_of_block (off := 0) HBK.out rfl; have r1 := cell_of_block (off := 1) HBK.out rfl; have z0 := free_of_block (off := 0) HBK.out; have z1 := free_of_block (off := 1) HBK.out))
      | fail)
  rename_i hH
  clear hH k1 k2
  have hs0 := s0.chg m2 (by simp)
  have hnw := ((HN2.out _ _).then m1).then m2
  have S0 := Lib.hid hs0; have S1 := Lib.hid s1; have HNW := Lib.hid hnw
  clear hs0 s0 s1 m1 m2 hnw
  go_wp2_with fail
  refine bodyPost_ret (v := ?_) ?_ rfl ?_
  rotate_left 1
  · simp [results, Try.results40, go_sem, r0, r1]
    rfl
  exact ⟨_, _, rfl, (S0.out.setCell _ _).setCell _ _, (S1.out.setCell _ _).setCell _ _, (HNW.out.trans (Chg.setCell _ _ _ (fun i => i = w.heap.size + 1) (fun _ => rfl)) (fun _ _ h => h) (fun i hi e => by omega)).trans (Chg.setCell _ _ _ (fun i => i = w.heap.size + 1) (fun _ => rfl)) (fun _ _ h => h) (fun i hi e => by omega)⟩
end Go.Proofs.Ytcgccoigjcdjeaa
namespace Go.Proofs.Ytcgccoigjcdjeaa
open Go.RowKit Go.Sort

/-- votes: a member, its vote -/
def bal (B : List (Int × Bool)) (k : Int) : Option Bool := (B.find? (fun p => p.1 == k)).map (·.2)
def balV (B : List (Int × Bool)) : List (Int × Value) := B.map fun p => (p.1, .bool p.2)
theorem look_balV (B : List (Int × Bool)) (k : Int) : look (balV B) k = (bal B k).map Value.bool := by
  induction B with
  | nil => rfl
  | cons p B ih =>
    unfold look bal balV at *
    by_cases h : p.1 = k
    · simp [h]
    · have h' : (p.1 == k) = false := by simpa using h
      simp only [List.map_cons, List.find?_cons, h']
      simpa using ih
def yesN (B : List (Int × Bool)) (s : List Int) : Nat := (s.filter fun x => bal B x == some true).length
def missN (B : List (Int × Bool)) (s : List Int) : Nat := (s.filter fun x => bal B x == none).length
/-- 1: open, 2: lost, 3: won -/
def voteR (B : List (Int × Bool)) (s : List Int) : Int := if s = [] then 3 else if s.length / 2 + 1 ≤ yesN B s then 3 else if s.length / 2 + 1 ≤ yesN B s + missN B s then 1 else 2
theorem yesN_perm {a b : List Int} (B : List (Int × Bool)) (h : a.Perm b) : yesN B a = yesN B b := (h.filter _).length_eq
theorem missN_perm {a b : List Int} (B : List (Int × Bool)) (h : a.Perm b) : missN B a = missN B b := (h.filter _).length_eq
theorem yesN_le (B : List (Int × Bool)) (a : List Int) : yesN B a ≤ a.length := List.length_filter_le _ _
theorem missN_le (B : List (Int × Bool)) (a : List Int) : missN B a ≤ a.length := List.length_filter_le _ _
theorem yesN_snoc (B : List (Int × Bool)) (a : List Int) (k : Int) : yesN B (a ++ [k]) = yesN B a + if bal B k = some true then 1 else 0 := by
  unfold yesN; rw [List.filter_append]
  by_cases h : bal B k = some true <;> simp [h]
theorem missN_snoc (B : List (Int × Bool)) (a : List Int) (k : Int) : missN B (a ++ [k]) = missN B a + if bal B k = none then 1 else 0 := by
  unfold missN; rw [List.filter_append]
  by_cases h : bal B k = none <;> simp [h]

set_option maxRecDepth 100000 in
set_option maxHeartbeats 1600000 in
theorem vote67_any (o vt : Option Nat) (s : List Int) (B : List (Int × Bool)) (w : World) (hs : SetV w o s) (hv : MapV w vt (balV B)) (hn : s.length ≤ 1000000) :
    Calls Try.prog 67 #[.map o, .map vt] w fun e w' => e = .returned (.int .u8 (voteR B s)) ∧ New w w' := by
  have HS := Lib.hid hs; have HV := Lib.hid hv; have HN := Lib.hid hn
  clear hs hv hn
  by_cases hl : s = []
  · subst hl
    go_enter Try.func67, Try.ntmps67
    go_wp2_with (first | (at_len; refine set_len rfl _ _ rfl mt70 rfl HS.out ?_) | fail)
    refine bodyPost_ret (results_tmp rfl _ _ _) rfl ⟨rfl, Chg.refl _ _⟩
  · have hlen : 0 < s.length := List.length_pos_iff.2 hl
    have hlb : ((s.length : Int) == 0) = false := by simpa using hl
    have HL := Lib.hid hl
    clear hl
    go_enter Try.func67, Try.ntmps67
    go_wp2_with (first | (at_len; refine set_len rfl _ _ rfl mt70 rfl HS.out ?_) | (at_range; refine set_range rfl _ _ rfl mt70 rfl HS.out ?_; intro w1 r1 s1 z1) | fail)
    clear hlb
    go_frame
    go_loopg [5, 6, 7, 8, 9] s.length (fun n y m _ _ _ wr => ∃ done : List Int, s.length ≤ done.length + n ∧ RangS wr w.heap.size o s done ∧ y = .int .i64 (yesN B done : Nat) ∧ m = .int .i64 (missN B done : Nat) ∧ New w wr)
    case atStart => exact ⟨[], by simp, r1, rfl, rfl, s1.chg⟩
    case round =>
      obtain ⟨done, hg, hr, rfl, rfl, hnew⟩ := hrel
      have hdl := hr.len
      have h1 := yesN_le B done
      have h2 := missN_le B done
      have hsm : s.length ≤ 1000000 := HN.out
      have HG := Lib.hid hg; have HR := Lib.hid hr; have HNW := Lib.hid hnew
      clear hg hr hnew r1 s1 z1
      go_wp2_with (first
        | (at_next; refine set_next rfl _ rfl rfl HR.out ?_ ?_)
        | fail)
      · intro hp
        have hy := yesN_perm B hp
        have hm := missN_perm B hp
        have e : voteR B s = if s.length / 2 + 1 ≤ yesN B done then 3 else if s.length / 2 + 1 ≤ yesN B done + missN B done then 1 else 2 := by unfold voteR; rw [if_neg HL.out, hy, hm]
        have HE := Lib.hid e
        have hs2 : SetV wr o s := HS.out.chg HNW.out (by simp)
        have HS2 := Lib.hid hs2
        clear e hs2 hp hy hm
        by_cases hw : s.length / 2 + 1 ≤ yesN B done
        · have hE : voteR B s = 3 := by rw [HE.out, if_pos hw]
          have HE2 := Lib.hid hE; clear hE
          have hd : decide (((s.length : Int) / 2) + 1 ≤ (yesN B done : Int)) = true := by simp; omega
          go_wp2_with (first | (at_len; refine set_len rfl _ _ rfl mt70 rfl HS2.out ?_) | fail)
          refine bodyPost_ret (results_tmp rfl _ _ _) rfl ⟨by rw [HE2.out]; rfl, HNW.out⟩
        · have hd : decide (((s.length : Int) / 2) + 1 ≤ (yesN B done : Int)) = false := by simp; omega
          by_cases hw2 : s.length / 2 + 1 ≤ yesN B done + missN B done
          · have hE : voteR B s = 1 := by rw [HE.out, if_neg hw, if_pos hw2]
            have HE2 := Lib.hid hE; clear hE
            have hd2 : decide (((s.length : Int) / 2) + 1 ≤ (yesN B done : Int) + (missN B done : Int)) = true := by simp; omega
            go_wp2_with (first | (at_len; refine set_len rfl _ _ rfl mt70 rfl HS2.out ?_) | fail)
            refine bodyPost_ret (results_tmp rfl _ _ _) rfl ⟨by rw [HE2.out]; rfl, HNW.out⟩
          · have hE : voteR B s = 2 := by rw [HE.out, if_neg hw, if_neg hw2]
            have HE2 := Lib.hid hE; clear hE
            have hd2 : decide (((s.length : Int) / 2) + 1 ≤ (yesN B done : Int) + (missN B done : Int)) = false := by simp; omega
            go_wp2_with (first | (at_len; refine set_len rfl _ _ rfl mt70 rfl HS2.out ?_) | fail)
            refine bodyPost_ret (results_tmp rfl _ _ _) rfl ⟨by rw [HE2.out]; rfl, HNW.out⟩
      · intro k w2 hk hnk r2 s2 z2 hen
        have hv2 := (MapV.chg HV.out HNW.out (by simp)).chg s2.chg (fun i e e' => by
          have h := HV.out
          rw [e] at h
          have := MapB.lt h
          omega)
        have HV2 := Lib.hid hv2
        have hl2 := r2.len
        simp only [List.length_append, List.length_cons, List.length_nil] at hl2
        have hlk := look_balV B k
        have hy := yesN_snoc B done k
        have hm := missN_snoc B done k
        have HY := Lib.hid hy; have HM := Lib.hid hm
        have hnw2 : New w w2 := HNW.out.trans s2.chg (fun _ _ h => h) (fun i hi e => by omega)
        have HNW2 := Lib.hid hnw2
        clear hv2 hy hm hnw2
        cases hb : bal B k with
        | none =>
          rw [hb] at hlk HY HM
          simp only [Option.map_none] at hlk
          go_wp2_with (first | (at_lookup; refine op_lookup_ok rfl _ _ _ rfl mt76 rfl HV2.out rfl ?_) | fail)
          go_roundg (gk - 1)
          case measure => have := HG.out; omega
          case rel => exact ⟨done ++ [k], by have := HG.out; simp; omega, r2, by rw [HY.out]; go_num, by rw [HM.out]; go_num, HNW2.out⟩
        | some bv =>
          rw [hb] at hlk HY HM
          simp only [Option.map_some] at hlk
          cases bv with
          | true =>
            go_wp2_with (first | (at_lookup; refine op_lookup_ok rfl _ _ _ rfl mt76 rfl HV2.out rfl ?_) | fail)
            go_roundg (gk - 1)
            case measure => have := HG.out; omega
            case rel => exact ⟨done ++ [k], by have := HG.out; simp; omega, r2, by rw [HY.out]; go_num, by rw [HM.out]; go_num, HNW2.out⟩
          | false =>
            go_wp2_with (first | (at_lookup; refine op_lookup_ok rfl _ _ _ rfl mt76 rfl HV2.out rfl ?_) | fail)
            go_roundg (gk - 1)
            case measure => have := HG.out; omega
            case rel => exact ⟨done ++ [k], by have := HG.out; simp; omega, r2, by rw [HY.out]; rfl, by rw [HM.out]; rfl, HNW2.out⟩

def joinR (r1 r2 : Int) : Int := if r1 = r2 then r1 else if r1 = 2 ∨ r2 = 2 then 2 else 1
theorem voteR_cases (B : List (Int × Bool)) (s : List Int) : voteR B s = 1 ∨ voteR B s = 2 ∨ voteR B s = 3 := by
  unfold voteR
  split
  · simp
  split
  · simp
  split <;> simp
set_option maxRecDepth 100000 in
set_option maxHeartbeats 1600000 in
theorem vote45_any (v0 v1 vt : Option Nat) (l0 l1 : List Int) (B : List (Int × Bool)) (w : World) (h0 : SetV w v0 l0) (h1 : SetV w v1 l1) (hv : MapV w vt (balV B)) (n0 : l0.length ≤ 1000000) (n1 : l1.length ≤ 1000000) :
    Calls Try.prog 45 #[.agg #[.map v0, .map v1], .map vt] w fun e w' => e = .returned (.int .u8 (joinR (voteR B l0) (voteR B l1))) ∧ New w w' := by
  have H0 := Lib.hid h0; have H1 := Lib.hid h1; have HV := Lib.hid hv; have N0 := Lib.hid n0; have N1 := Lib.hid n1
  clear h0 h1 hv n0 n1
  obtain ⟨a, ha⟩ : ∃ a, a = voteR B l0 := ⟨_, rfl⟩
  obtain ⟨b, hb⟩ : ∃ b, b = voteR B l1 := ⟨_, rfl⟩
  have hac := voteR_cases B l0
  have hbc := voteR_cases B l1
  rw [← ha] at hac ⊢; rw [← hb] at hbc ⊢
  have HA := Lib.hid ha; have HB := Lib.hid hb
  clear ha hb
  rcases hac with rfl | rfl | rfl <;> rcases hbc with rfl | rfl | rfl
  all_goals
    go_enter Try.func45, Try.ntmps45
    go_wp2_with fail
    refine (vote67_any v0 vt l0 B _ (H0.out.alloc _) (MapV.chg HV.out (Chg.alloc w _ (fun _ => False)) (by simp)) N0.out).mono ?_
    rw [← HA.out]
    rintro e w1 ⟨rfl, m1⟩
    have k1 := cell_of_block (off := 1) (m1.keeps (block_new w (.cells #[.map v0, .map v1] 72)) (by simp)) rfl
    have M1 := Lib.hid m1; clear m1
    go_wp2_with fail
    refine (vote67_any v1 vt l1 B _ (H1.out.chg ((Chg.alloc w _ (fun _ => False)).then M1.out) (by simp)) (MapV.chg HV.out ((Chg.alloc w _ (fun _ => False)).then M1.out) (by simp)) N1.out).mono ?_
    rw [← HB.out]
    rintro e w2 ⟨rfl, m2⟩
    have M2 := Lib.hid m2; clear m2
    go_wp2_with fail
    refine bodyPost_ret (results_tmp rfl _ _ _) rfl ⟨rfl, ((Chg.alloc w _ _).then M1.out).then M2.out⟩

/-- votes that are read -/
def Bas (w : World) (v : Value) (B : List (Int × Bool)) : Prop :=
  ∃ ao cap, v = .slice ao B.length cap ∧ ∀ i (hi : i < B.length), ∃ b off, ao = some ⟨b, off, none⟩ ∧ w.cell? ⟨b, off + i * 2, none⟩ = some (.int .u64 (B[i]'hi).1) ∧ w.cell? ⟨b, off + i * 2 + 1, none⟩ = some (.bool (B[i]'hi).2)
theorem upd_snoc {l : List (Int × Value)} {k : Int} {v : Value} (h : k ∉ l.map (·.1)) : upd l k v = l ++ [(k, v)] := by
  unfold upd
  rw [any_false (l := l) (k := k)]
  · simp
  · intro p hp e
    exact h (List.mem_map.2 ⟨p, hp, e⟩)
theorem balV_take (B : List (Int × Bool)) (i : Nat) (h : i < B.length) (hd : (B.map (·.1)).Nodup) : upd (balV (B.take i)) B[i].1 (.bool B[i].2) = balV (B.take (i + 1)) := by
  rw [List.take_succ_eq_append_getElem h, upd_snoc]
  · unfold balV; rw [List.map_append]; rfl
  · intro hm
    simp only [balV, List.map_map, List.mem_map] at hm
    obtain ⟨p, hp, e⟩ := hm
    simp only [Function.comp] at e
    obtain ⟨j, hj, rfl⟩ := List.getElem_of_mem hp
    rw [List.getElem_take] at e
    have hj' : j < i := by simp at hj; omega
    have h1 : (B.map (·.1))[j]'(by simp; omega) = (B.map (·.1))[i]'(by simpa using h) := by simpa using e
    have := (List.getElem_inj hd).1 h1
    omega

set_option maxRecDepth 100000 in
set_option maxHeartbeats 1600000 in
theorem voted_any (a b bv : Value) (l0 l1 : List Int) (B : List (Int × Bool)) (w : World) (h0 : Us w a l0) (h1 : Us w b l1) (hv : Bas w bv B) (d0 : l0.Nodup) (d1 : l1.Nodup) (hd : (B.map (·.1)).Nodup) (n0 : l0.length ≤ 1000000) (n1 : l1.length ≤ 1000000) (hn : B.length ≤ 1000000) :
    Calls Try.prog 18 #[.agg #[a, b], bv] w fun e w' => e = .returned (.int .i64 (joinR (voteR B l0) (voteR B l1))) ∧ New w w' := by
  have H0 := Lib.hid h0; have H1 := Lib.hid h1; have D0 := Lib.hid d0; have D1 := Lib.hid d1; have N0 := Lib.hid n0; have N1 := Lib.hid n1; have HD := Lib.hid hd; have HN := Lib.hid hn
  obtain ⟨oa, ca, rfl, _⟩ := h0
  obtain ⟨ob, cb, rfl, _⟩ := h1
  obtain ⟨ao, cap, rfl, hcs⟩ := hv
  have HCS := Lib.hid hcs
  clear d0 d1 n0 n1 hd hn hcs
  have hjr : joinR (voteR B l0) (voteR B l1) = 1 ∨ joinR (voteR B l0) (voteR B l1) = 2 ∨ joinR (voteR B l0) (voteR B l1) = 3 := by
    have h1 := voteR_cases B l0; have h2 := voteR_cases B l1
    unfold joinR
    split
    · exact h1
    split <;> simp
  obtain ⟨r, hr⟩ : ∃ r, r = joinR (voteR B l0) (voteR B l1) := ⟨_, rfl⟩
  rw [← hr] at hjr ⊢
  have HRR := Lib.hid hr; clear hr
  go_enter Try.func18, Try.ntmps18
  go_wp2_with fail
  go_loopg [6] B.length (fun n j wr => ∃ i : Nat, i ≤ B.length ∧ B.length ≤ n + i ∧ j = .int .i64 i ∧ MapB wr (w.heap.size + 1) (balV (B.take i)) ∧ New w wr ∧ wr.heap[w.heap.size]? = some (.cells #[.slice oa l0.length ca, .slice ob l1.length cb] 23 (0, 0)))
  case atStart =>
    refine ⟨0, by omega, by omega, rfl, ?_, (Chg.alloc w _ _).then (Chg.alloc _ _ _), block_alloc (block_new w _) _⟩
    have := MapB.made (w.alloc (.cells #[.slice oa l0.length ca, .slice ob l1.length cb] 23))
    simp only [World.size_alloc] at this
    exact this
  case round =>
    obtain ⟨i, hi, hg, rfl, hm, hnew, hbx⟩ := hrel
    have HG := Lib.hid hg; have HM := Lib.hid hm; have HNW := Lib.hid hnew; have HBX := Lib.hid hbx
    clear hg hm hnew hbx
    by_cases hlt : i < B.length
    · obtain ⟨b, off, rfl, hc0, hc1⟩ := HCS.out i hlt
      have p0 := HNW.out.has hc0
      have p1 := HNW.out.has hc1
      have hsmall : B.length ≤ 1000000 := HN.out
      have hbt := balV_take B i hlt HD.out
      obtain ⟨x, hx⟩ : ∃ x, x = B[i] := ⟨_, rfl⟩
      rw [← hx] at p0 p1 hbt
      have HBT := Lib.hid hbt
      obtain ⟨xk, xb⟩ := x
      simp only at p0 p1
      clear hbt hx hc0 hc1
      obtain ⟨w3, hrun, ht3⟩ := run_update_v (P := Try.prog) HM.out Try.underlying76 u28 xk (.bool xb)
      obtain ⟨w4, hrun4, ht4⟩ := run_update_v (P := Try.prog) (MapB.chg HM.out (Chg.drew wr (fun _ => False)) (by simp)) Try.underlying76 u28 xk (.bool xb)
      go_wp2_with fail
      go_region
      go_wp2_with fail
      go_roundg (gk - 1)
      case measure => have := HG.out; omega
      case rel =>
        have hch : Chg wr w4 (fun i => i = w.heap.size + 1) := (Chg.drew wr _).then ht4.chg
        refine ⟨i + 1, by omega, by have := HG.out; omega, by go_num, ?_, HNW.out.trans hch (fun _ _ h => h) (fun i hi e => by omega), hch.keeps HBX.out (by omega)⟩
        have := ht4.map
        rw [HBT.out] at this
        exact this
    · have hil : i = B.length := by omega
      subst hil
      have hm : MapB wr (w.heap.size + 1) (balV B) := by have := HM.out; rwa [List.take_length] at this
      have HM2 := Lib.hid hm
      have q0 := cell_of_block (off := 0) HBX.out rfl; have q1 := cell_of_block (off := 1) HBX.out rfl
      clear hm HM HG hi hlt
      go_wp2_with fail
      refine (joint40_any (.slice oa l0.length ca) (.slice ob l1.length cb) l0 l1 _ (H0.out.new HNW.out) (H1.out.new HNW.out) D0.out D1.out N0.out N1.out).mono ?_
      rintro e w5 ⟨x0, x1, rfl, s0, s1, m1⟩
      have S0 := Lib.hid s0; have S1 := Lib.hid s1; have M1 := Lib.hid m1
      clear s0 s1 m1 q0 q1
      go_wp2_with fail
      refine (vote45_any x0 x1 (some (w.heap.size + 1)) l0 l1 B _ S0.out S1.out (show MapV _ (some (w.heap.size + 1)) (balV B) from MapB.chg HM2.out M1.out (by simp)) N0.out N1.out).mono ?_
      rintro e w6 ⟨rfl, m2⟩
      have M2 := Lib.hid m2; clear m2
      rw [← HRR.out]
      rcases hjr with rfl | rfl | rfl
      all_goals
        go_wp2_with fail
        go_ret
        exact ⟨rfl, (HNW.out.then M1.out).then M2.out⟩
end Go.Proofs.Ytcgccoigjcdjeaa
namespace Go.Proofs.Ytcgccoigjcdjeaa
open Go.RowKit Go.Sort

def cY (B : List (Int × Bool)) (k : Int) : Nat := (B.filter fun p => p.1 == k && p.2).length
def cN (B : List (Int × Bool)) (k : Int) : Nat := (B.filter fun p => p.1 == k && !p.2).length
theorem cY_le (B : List (Int × Bool)) (k : Int) : cY B k ≤ B.length := List.length_filter_le _ _
theorem cN_le (B : List (Int × Bool)) (k : Int) : cN B k ≤ B.length := List.length_filter_le _ _
theorem cY_take (B : List (Int × Bool)) (k : Int) (i : Nat) (h : i < B.length) : cY (B.take (i + 1)) k = cY (B.take i) k + if B[i].1 == k && B[i].2 then 1 else 0 := by
  unfold cY
  rw [List.take_succ_eq_append_getElem h, List.filter_append]
  by_cases hp : (B[i].1 == k && B[i].2) = true
  · rw [List.filter_cons_of_pos (p := fun p : Int × Bool => p.1 == k && p.2) hp, if_pos hp]; simp
  · rw [List.filter_cons_of_neg (p := fun p : Int × Bool => p.1 == k && p.2) hp, if_neg hp]; simp
theorem cN_take (B : List (Int × Bool)) (k : Int) (i : Nat) (h : i < B.length) : cN (B.take (i + 1)) k = cN (B.take i) k + if B[i].1 == k && !B[i].2 then 1 else 0 := by
  unfold cN
  rw [List.take_succ_eq_append_getElem h, List.filter_append]
  by_cases hp : (B[i].1 == k && !B[i].2) = true
  · rw [List.filter_cons_of_pos (p := fun p : Int × Bool => p.1 == k && !p.2) hp, if_pos hp]; simp
  · rw [List.filter_cons_of_neg (p := fun p : Int × Bool => p.1 == k && !p.2) hp, if_neg hp]; simp
def sY (B : List (Int × Bool)) (s : List Int) : Nat := (s.map (cY B)).sum
def sN (B : List (Int × Bool)) (s : List Int) : Nat := (s.map (cN B)).sum
theorem sY_take (B : List (Int × Bool)) (s : List Int) (i : Nat) (h : i < s.length) : sY B (s.take (i + 1)) = sY B (s.take i) + cY B s[i] := by
  unfold sY; rw [List.take_succ_eq_append_getElem h, List.map_append, List.sum_append]; simp
theorem sN_take (B : List (Int × Bool)) (s : List Int) (i : Nat) (h : i < s.length) : sN B (s.take (i + 1)) = sN B (s.take i) + cN B s[i] := by
  unfold sN; rw [List.take_succ_eq_append_getElem h, List.map_append, List.sum_append]; simp
theorem sum_le (f : Int → Nat) (m : Nat) (s : List Int) (h : ∀ k, f k ≤ m) : (s.map f).sum ≤ s.length * m := by
  induction s with
  | nil => simp
  | cons x s ih => simp only [List.map_cons, List.sum_cons, List.length_cons]; have := h x; rw [Nat.add_mul]; omega
theorem cY_bal (B : List (Int × Bool)) (hd : (B.map (·.1)).Nodup) (k : Int) : cY B k = (if bal B k = some true then 1 else 0) ∧ cN B k = (if bal B k = some false then 1 else 0) := by
  induction B with
  | nil => simp [cY, cN, bal]
  | cons p B ih =>
    simp only [List.map_cons, List.nodup_cons] at hd
    obtain ⟨h1, h2⟩ := ih hd.2
    by_cases hk : p.1 = k
    · have hno : ∀ q ∈ B, q.1 ≠ k := fun q hq e => hd.1 (by rw [hk, ← e]; exact List.mem_map.2 ⟨q, hq, rfl⟩)
      have e1 : cY B k = 0 := by
        unfold cY; rw [List.length_eq_zero_iff, List.filter_eq_nil_iff]
        intro q hq; simp [hno q hq]
      have e2 : cN B k = 0 := by
        unfold cN; rw [List.length_eq_zero_iff, List.filter_eq_nil_iff]
        intro q hq; simp [hno q hq]
      have e3 : bal (p :: B) k = some p.2 := by unfold bal; rw [List.find?_cons_of_pos (by simpa using hk)]; rfl
      unfold cY cN at *
      rw [e3]
      cases hb : p.2 <;> simp [hk, hb, e1, e2]
    · have e3 : bal (p :: B) k = bal B k := by unfold bal; rw [List.find?_cons_of_neg (by simpa using hk)]
      unfold cY cN at *
      rw [e3, List.filter_cons_of_neg (by simp [hk]), List.filter_cons_of_neg (by simp [hk])]
      exact ⟨h1, h2⟩
theorem sY_yes (B : List (Int × Bool)) (hd : (B.map (·.1)).Nodup) (s : List Int) : sY B s = yesN B s ∧ sN B s + yesN B s + missN B s = s.length := by
  induction s with
  | nil => simp [sY, sN, yesN, missN]
  | cons x s ih =>
    obtain ⟨h1, h2⟩ := ih
    obtain ⟨e1, e2⟩ := cY_bal B hd x
    have f1 : sY B (x :: s) = cY B x + sY B s := by simp [sY]
    have f2 : sN B (x :: s) = cN B x + sN B s := by simp [sN]
    have f3 : yesN B (x :: s) = (if bal B x = some true then 1 else 0) + yesN B s := by
      have := yesN_perm B (List.perm_append_comm (l₁ := [x]) (l₂ := s)); rw [List.singleton_append] at this; rw [this, yesN_snoc]; omega
    have f4 : missN B (x :: s) = (if bal B x = none then 1 else 0) + missN B s := by
      have := missN_perm B (List.perm_append_comm (l₁ := [x]) (l₂ := s)); rw [List.singleton_append] at this; rw [this, missN_snoc]; omega
    rw [f1, f2, f3, f4, e1, e2, h1, List.length_cons]
    cases hb : bal B x with
    | none => simp; omega
    | some bv => cases bv <;> simp <;> omega
/-- what VotedBy reckons -/
def votedR (B : List (Int × Bool)) (s : List Int) : Int := if s = [] ∨ s.length / 2 + 1 ≤ sY B s then 3 else if (s.length : Int) - sN B s < s.length / 2 + 1 then 2 else 1
theorem votedR_eq (B : List (Int × Bool)) (hd : (B.map (·.1)).Nodup) (s : List Int) : votedR B s = voteR B s := by
  obtain ⟨h1, h2⟩ := sY_yes B hd s
  unfold votedR voteR
  rw [h1]
  by_cases hs : s = []
  · simp [hs]
  · simp only [hs, false_or, if_false]
    by_cases hw : s.length / 2 + 1 ≤ yesN B s
    · simp [hw]
    · simp only [hw, if_false]
      by_cases hm : s.length / 2 + 1 ≤ yesN B s + missN B s
      · rw [if_pos hm, if_neg (by omega)]
      · rw [if_neg hm, if_pos (by omega)]

theorem maj_any (n : Nat) (w : World) (h : n ≤ 1000000) : Calls Try.prog 64 #[.int .i64 n] w fun e w' => e = .returned (.int .i64 ((n : Int) / 2 + 1)) ∧ w = w' := by
  go_enter Try.func64, Try.ntmps64
  go_wp2
  go_ret
  exact ⟨rfl, rfl⟩

set_option maxRecDepth 100000 in
set_option maxHeartbeats 1600000 in
theorem votedby_any (v bv : Value) (s : List Int) (B : List (Int × Bool)) (w : World) (hv : Us w v s) (hb : Bas w bv B) (hn : s.length ≤ 1000) (hm : B.length ≤ 1000) :
    Calls Try.prog 44 #[v, bv] w fun e w' => e = .returned (.int .i64 (votedR B s)) ∧ New w w' := by
  obtain ⟨vo, vc, rfl, hs⟩ := hv
  obtain ⟨bo, bc, rfl, hbs⟩ := hb
  have HS := Lib.hid hs; have HB := Lib.hid hbs; have HN := Lib.hid hn; have HM := Lib.hid hm
  clear hs hbs hn hm
  obtain ⟨r, hr⟩ : ∃ r, r = votedR B s := ⟨_, rfl⟩
  rw [← hr]
  have HRR := Lib.hid hr; clear hr
  go_enter Try.func44, Try.ntmps44
  go_wp2_with fail
  go_loopg [5, 6, 13] s.length (fun n y m j wr => ∃ i : Nat, i ≤ s.length ∧ s.length ≤ n + i ∧ j = .int .i64 i ∧ y = .int .i64 (sY B (s.take i) : Nat) ∧ m = .int .i64 (sN B (s.take i) : Nat) ∧ New w wr)
  case atStart => exact ⟨0, by omega, by omega, rfl, rfl, rfl, Chg.refl _ _⟩
  case round =>
    obtain ⟨i, hi, hg, rfl, rfl, rfl, hnew⟩ := hrel
    have HG := Lib.hid hg; have HNW := Lib.hid hnew
    clear hg hnew
    obtain ⟨wo, rfl⟩ : ∃ x : World, x = wr := ⟨_, rfl⟩
    obtain ⟨g0, rfl⟩ : ∃ x : Nat, x = gk := ⟨_, rfl⟩
    have hy1 : sY B (s.take i) ≤ 1000000 := by
      have h1 := sum_le (cY B) 1000 (s.take i) (fun k => by have := cY_le B k; have := HM.out; omega)
      have h2 := HN.out
      unfold sY; simp at h1 ⊢; omega
    have hy2 : sN B (s.take i) ≤ 1000000 := by
      have h1 := sum_le (cN B) 1000 (s.take i) (fun k => by have := cN_le B k; have := HM.out; omega)
      have h2 := HN.out
      unfold sN; simp at h1 ⊢; omega
    have hsm : s.length ≤ 1000 := HN.out
    by_cases hlt : i < s.length
    · obtain ⟨b, off, rfl, hc⟩ := HS.out i hlt
      have hc' := HNW.out.has hc
      have hty := sY_take B s i hlt
      have htn := sN_take B s i hlt
      obtain ⟨k, hk⟩ : ∃ k, k = s[i] := ⟨_, rfl⟩
      rw [← hk] at hc' hty htn
      have HTY := Lib.hid hty; have HTN := Lib.hid htn
      clear hc hk hty htn
      obtain ⟨y0, hy0⟩ : ∃ y0, y0 = sY B (s.take i) := ⟨_, rfl⟩
      obtain ⟨n0, hn0⟩ : ∃ n0, n0 = sN B (s.take i) := ⟨_, rfl⟩
      rw [← hy0] at hy1 HTY ⊢; rw [← hn0] at hy2 HTN ⊢
      clear hy0 hn0
      go_wp2_with fail
      go_loopg [5, 6, 19] B.length (fun n y m j wr => ∃ q : Nat, q ≤ B.length ∧ B.length ≤ n + q ∧ j = .int .i64 q ∧ y = .int .i64 ((y0 + cY (B.take q) k : Nat) : Int) ∧ m = .int .i64 ((n0 + cN (B.take q) k : Nat) : Int) ∧ New w wr)
      case atStart => exact ⟨0, by omega, by omega, rfl, by simp [cY], by simp [cN], HNW.out⟩
      case round =>
        obtain ⟨q, hq, hgq, rfl, rfl, rfl, hnq⟩ := hrel
        have HGQ := Lib.hid hgq; have HNQ := Lib.hid hnq
        clear hgq hnq
        have hbm : B.length ≤ 1000 := HM.out
        have hl1 := cY_le (B.take q) k
        have hl2 := cN_le (B.take q) k
        simp only [List.length_take] at hl1 hl2
        by_cases hqt : q < B.length
        · obtain ⟨b2, off2, rfl, hc0, hc1⟩ := HB.out q hqt
          have p0 := HNQ.out.has hc0
          have p1 := HNQ.out.has hc1
          have ty := cY_take B k q hqt
          have tn := cN_take B k q hqt
          obtain ⟨x, hx⟩ : ∃ x, x = B[q] := ⟨_, rfl⟩
          rw [← hx] at p0 p1 ty tn
          obtain ⟨xk, xb⟩ := x
          simp only at p0 p1 ty tn
          clear hc0 hc1 hx
          by_cases hxk : xk = k
          · subst hxk
            cases xb
            · have TY := Lib.hid ty; have TN := Lib.hid tn; clear ty tn
              go_wp2_with fail
              go_roundg (gk - 1)
              case measure => have := HGQ.out; omega
              case rel => exact ⟨q + 1, by omega, by have := HGQ.out; omega, by go_num, by rw [TY.out]; simp, by rw [TN.out]; simp; omega, HNQ.out.then (Chg.alloc _ _ _)⟩
            · have TY := Lib.hid ty; have TN := Lib.hid tn; clear ty tn
              go_wp2_with fail
              go_roundg (gk - 1)
              case measure => have := HGQ.out; omega
              case rel => exact ⟨q + 1, by omega, by have := HGQ.out; omega, by go_num, by rw [TY.out]; simp; omega, by rw [TN.out]; simp, HNQ.out.then (Chg.alloc _ _ _)⟩
          · have hxb : (xk == k) = false := by simpa using hxk
            rw [hxb] at ty tn
            have TY := Lib.hid ty; have TN := Lib.hid tn; clear ty tn
            go_wp2_with fail
            go_roundg (gk - 1)
            case measure => have := HGQ.out; omega
            case rel => exact ⟨q + 1, by omega, by have := HGQ.out; omega, by go_num, by rw [TY.out]; simp, by rw [TN.out]; simp, HNQ.out.then (Chg.alloc _ _ _)⟩
        · have hqe : q = B.length := by omega
          subst hqe
          go_wp2_with fail
          go_roundg (g0 - 1)
          case measure => have := HG.out; omega
          case rel =>
            rw [List.take_length]
            exact ⟨i + 1, by omega, by have := HG.out; omega, by go_num, by rw [HTY.out], by rw [HTN.out], HNQ.out⟩
    · have hil : i = s.length := by omega
      subst hil
      rw [List.take_length] at hy1 hy2 ⊢
      have hR := HRR.out
      unfold votedR at hR
      by_cases hs0 : s = []
      · subst hs0
        rw [if_pos (.inl rfl)] at hR
        subst hR
        go_wp2_with fail
        refine bodyPost_ret (results_tmp rfl _ _ _) rfl ⟨rfl, HNW.out⟩
      · have hlb : ((s.length : Int) == 0) = false := by simpa using hs0
        by_cases hw : s.length / 2 + 1 ≤ sY B s
        · rw [if_pos (.inr hw)] at hR
          subst hR
          have hd : decide (((s.length : Int) / 2) + 1 ≤ (sY B s : Int)) = true := by simp; omega
          clear hs0
          go_wp2_with (first
            | (go_at_call 64; refine (maj_any s.length _ (by omega)).mono ?_; rintro e w1 ⟨rfl, rfl⟩)
            | fail)
          refine bodyPost_ret (results_tmp rfl _ _ _) rfl ⟨rfl, HNW.out⟩
        · rw [if_neg (fun h => by rcases h with h | h; exact hs0 h; exact hw h)] at hR
          have hd : decide (((s.length : Int) / 2) + 1 ≤ (sY B s : Int)) = false := by simp; omega
          by_cases hw2 : (s.length : Int) - sN B s < s.length / 2 + 1
          · rw [if_pos hw2] at hR
            subst hR
            have hd2 : decide ((s.length : Int) - (sN B s : Int) < (s.length : Int) / 2 + 1) = true := by simpa using hw2
            clear hs0
            go_wp2_with (first
              | (go_at_call 64; refine (maj_any s.length _ (by omega)).mono ?_; rintro e w1 ⟨rfl, rfl⟩)
              | fail)
            refine bodyPost_ret (results_tmp rfl _ _ _) rfl ⟨rfl, HNW.out⟩
          · rw [if_neg hw2] at hR
            subst hR
            have hd2 : decide ((s.length : Int) - (sN B s : Int) < (s.length : Int) / 2 + 1) = false := by simpa using hw2
            clear hs0
            go_wp2_with (first
              | (go_at_call 64; refine (maj_any s.length _ (by omega)).mono ?_; rintro e w1 ⟨rfl, rfl⟩)
              | fail)
            refine bodyPost_ret (results_tmp rfl _ _ _) rfl ⟨rfl, HNW.out⟩

def bothR (a b : Int) : Int := if a = 2 ∨ b = 2 then 2 else if a = 3 ∧ b = 3 then 3 else 1
theorem bothR_join (B : List (Int × Bool)) (s t : List Int) : bothR (voteR B s) (voteR B t) = joinR (voteR B s) (voteR B t) := by
  have h1 := voteR_cases B s; have h2 := voteR_cases B t
  rcases h1 with h1 | h1 | h1 <;> rcases h2 with h2 | h2 | h2 <;> simp [h1, h2, bothR, joinR]
theorem Bas.chg {w w' : World} {v : Value} {B : List (Int × Bool)} (h : Bas w v B) (c : New w w') : Bas w' v B := by
  obtain ⟨ao, cap, rfl, h⟩ := h
  exact ⟨ao, cap, rfl, fun i hi => by obtain ⟨b, off, e, h1, h2⟩ := h i hi; exact ⟨b, off, e, c.has h1, c.has h2⟩⟩
set_option maxRecDepth 100000 in
set_option maxHeartbeats 1600000 in
theorem svoted_any (a b bv : Value) (l0 l1 : List Int) (B : List (Int × Bool)) (w : World) (h0 : Us w a l0) (h1 : Us w b l1) (hv : Bas w bv B) (hd : (B.map (·.1)).Nodup) (n0 : l0.length ≤ 1000) (n1 : l1.length ≤ 1000) (hn : B.length ≤ 1000) :
    Calls Try.prog 17 #[.agg #[a, b], bv] w fun e w' => e = .returned (.int .i64 (joinR (voteR B l0) (voteR B l1))) ∧ New w w' := by
  have n1' : ∀ o, New w (w.alloc o).drew := fun o => (Chg.alloc w _ _).then (Chg.drew _ _)
  have H0 := Lib.hid h0; have H1 := Lib.hid h1; have HV := Lib.hid hv; have N0 := Lib.hid n0; have N1 := Lib.hid n1; have HN := Lib.hid hn; have HN1 := Lib.hid n1'
  obtain ⟨oa, ca, rfl, _⟩ := h0
  obtain ⟨ob, cb, rfl, _⟩ := h1
  obtain ⟨x, hx⟩ : ∃ x, x = voteR B l0 := ⟨_, rfl⟩
  obtain ⟨y, hy⟩ : ∃ y, y = voteR B l1 := ⟨_, rfl⟩
  have hxc := voteR_cases B l0
  have hyc := voteR_cases B l1
  rw [← bothR_join, ← hx, ← hy]
  have HX := Lib.hid (hx.trans (votedR_eq B hd l0).symm); have HY := Lib.hid (hy.trans (votedR_eq B hd l1).symm)
  rw [← hx] at hxc; rw [← hy] at hyc
  clear hx hy hv n0 n1 hn n1' hd
  rcases hxc with rfl | rfl | rfl <;> rcases hyc with rfl | rfl | rfl
  all_goals
    go_enter Try.func17, Try.ntmps17
    go_wp2_with fail
    go_region_held3 (fun w' => w'.cell? ⟨w.heap.size, 0, none⟩ = some (.slice oa l0.length ca) ∧ w'.cell? ⟨w.heap.size, 1, none⟩ = some (.slice ob l1.length cb)) (go_keep)
      (first
        | (go_at_call 44; ((with_reducible refine (votedby_any (.slice oa l0.length ca) bv l0 B _ (H0.out.new (HN1.out _)) (HV.out.chg (HN1.out _)) N0.out HN.out).mono ?_); rw [← HX.out]; rintro e w1 ⟨rfl, m1⟩; have k1 := m1.rule))
        | (go_at_call 44; ((with_reducible refine (votedby_any (.slice ob l1.length cb) bv l1 B _ (H1.out.new ((HN1.out _).then m1)) (HV.out.chg ((HN1.out _).then m1)) N1.out HN.out).mono ?_); rw [← HY.out]; rintro e w2 ⟨rfl, m2⟩; have k2 := m2.rule))
        | fail)
    rename_i hH
    clear hH k1 k2
    have hnw := ((HN1.out _).then m1).then m2
    have HNW := Lib.hid hnw
    clear m1 m2 hnw
    go_wp2_with fail
    refine bodyPost_ret (results_tmp rfl _ _ _) rfl ⟨rfl, HNW.out⟩
end Go.Proofs.Ytcgccoigjcdjeaa
namespace Go.Proofs.Ytcgccoigjcdjeaa
open Go.RowKit Go.Sort

set_option maxRecDepth 100000 in
set_option maxHeartbeats 1600000 in
theorem index62_any (v : Value) (l : List Int) (k : Int) (w : World) (h : Us w v l) (hn : l.length ≤ 2147483647) :
    Calls Try.prog 62 #[v, .int .u64 k] w fun e w' => (∃ r : Int, e = .returned (.int .i64 r) ∧ (0 ≤ r ↔ k ∈ l) ∧ (r = -1 ∨ 0 ≤ r)) ∧ w = w' := by
  obtain ⟨ao, cap, rfl, h⟩ := h
  have H := Lib.hid h; have HN := Lib.hid hn
  clear h hn
  go_enter Try.func62, Try.ntmps62
  go_wp2_with fail
  go_loopg [5, 8] l.length (fun n _ j wr => ∃ i : Nat, i ≤ l.length ∧ l.length ≤ n + i ∧ j = .int .i64 i ∧ k ∉ l.take i ∧ w = wr)
  case atStart => exact ⟨0, by omega, by omega, rfl, by simp, rfl⟩
  case round =>
    obtain ⟨i, hi, hg, rfl, hk, rfl⟩ := hrel
    have HG := Lib.hid hg; have HK := Lib.hid hk
    clear hg hk
    have hsm : l.length ≤ 2147483647 := HN.out
    by_cases hlt : i < l.length
    · obtain ⟨b, off, rfl, hc⟩ := H.out i hlt
      have htk := List.take_succ_eq_append_getElem hlt
      have hmem := List.getElem_mem hlt
      obtain ⟨x, hx⟩ : ∃ x, x = l[i] := ⟨_, rfl⟩
      rw [← hx] at hc htk hmem
      have HTK := Lib.hid htk; have HME := Lib.hid hmem
      clear hx htk hmem
      by_cases hxk : k = x
      · subst hxk
        go_wp2_with fail
        refine bodyPost_ret (results_tmp rfl _ _ _) rfl ⟨⟨i, rfl, ⟨fun _ => HME.out, fun _ => by omega⟩, .inr (by omega)⟩, rfl⟩
      · have hxb : (k == x) = false := by simpa using hxk
        have HXK := Lib.hid hxk; clear hxk
        go_wp2_with fail
        go_roundg (gk - 1)
        case measure => have := HG.out; omega
        case rel => exact ⟨i + 1, by omega, by have := HG.out; omega, by go_num, by rw [HTK.out]; have h1 := HK.out; have h2 := HXK.out; simp [h1, h2], rfl⟩
    · have hil : i = l.length := by omega
      subst hil
      have hkl : k ∉ l := by have := HK.out; rwa [List.take_length] at this
      have HKL := Lib.hid hkl; clear hkl
      go_wp2_with fail
      refine bodyPost_ret (results_tmp rfl _ _ _) rfl ⟨⟨-1, rfl, ⟨fun h => absurd h (by decide), fun h => absurd h HKL.out⟩, .inl rfl⟩, rfl⟩
set_option maxRecDepth 100000 in
theorem contains36_any (v : Value) (l : List Int) (k : Int) (w : World) (h : Us w v l) (hn : l.length ≤ 2147483647) :
    Calls Try.prog 36 #[v, .int .u64 k] w fun e w' => e = .returned (.bool (decide (k ∈ l))) ∧ w' = w := by
  go_enter Try.func36, Try.ntmps36
  go_wp2_with fail
  refine (index62_any v l k w h hn).mono ?_
  rintro e w' ⟨⟨r, rfl, hr, hr2⟩, rfl⟩
  go_wp2_with fail
  refine bodyPost_ret (results_tmp rfl _ _ _) rfl ⟨rfl, rfl⟩

def CapOk (v : Value) : Prop := ∀ ao n cap, v = .slice ao n cap → n ≤ cap
def okIDs (l : List Int) : Bool := decide (l.Nodup ∧ (∀ x ∈ l, 1 ≤ x) ∧ l.length ≤ 12)
set_option maxRecDepth 100000 in
set_option maxHeartbeats 1600000 in
theorem piids_any (v : Value) (l : List Int) (w : World) (h : Us w v l) (hcap : CapOk v) (hn : l.length ≤ 2147483647) :
    Calls Try.prog 9 #[v] w fun e w' => e = .returned (.bool (okIDs l)) ∧ w' = w := by
  obtain ⟨ao, cap, rfl, h⟩ := h
  have hlc := hcap _ _ _ rfl
  clear hcap
  have hsub : ∀ i, i ≤ l.length → Us w (.slice ao i cap) (l.take i) := fun i hi => by
    refine ⟨ao, cap, by simp [hi], fun j hj => ?_⟩
    have hj' : j < l.length := by simp at hj; omega
    obtain ⟨b, off, e, hc⟩ := h j hj'
    exact ⟨b, off, e, by rw [List.getElem_take]; exact hc⟩
  have H := Lib.hid h; have HN := Lib.hid hn; have HS := Lib.hid hsub
  clear h hn hsub
  obtain ⟨r, hr⟩ : ∃ r, r = okIDs l := ⟨_, rfl⟩
  rw [← hr]
  have HRR := Lib.hid hr; clear hr
  go_enter Try.func9, Try.ntmps9
  go_wp2_with fail
  go_loopg [3, 4, 7] l.length (fun n _ _ j wr => ∃ i : Nat, i ≤ l.length ∧ l.length ≤ n + i ∧ j = .int .i64 i ∧ (l.take i).Nodup ∧ (∀ x ∈ l.take i, 1 ≤ x) ∧ wr = w)
  case atStart => exact ⟨0, by omega, by omega, rfl, by simp, by simp, rfl⟩
  case round =>
    obtain ⟨i, hi, hg, rfl, hd, hp, rfl⟩ := hrel
    have HG := Lib.hid hg; have HD := Lib.hid hd; have HP := Lib.hid hp
    clear hg hd hp
    have hsm : l.length ≤ 2147483647 := HN.out
    by_cases hlt : i < l.length
    · obtain ⟨b, off, rfl, hc⟩ := H.out i hlt
      have htk := List.take_succ_eq_append_getElem hlt
      have hmem := List.getElem_mem hlt
      obtain ⟨x, hx⟩ : ∃ x, x = l[i] := ⟨_, rfl⟩
      rw [← hx] at hc htk hmem
      have HTK := Lib.hid htk; have HME := Lib.hid hmem
      clear hx htk hmem
      by_cases hx1 : x < 1
      · have hf : r = false := by
          rw [HRR.out]; unfold okIDs
          simp only [decide_eq_false_iff_not]
          intro h; have := h.2.1 x HME.out; omega
        have hxd : decide (x < 1) = true := by simpa using hx1
        subst hf
        go_wp2_with fail
        refine bodyPost_ret (results_tmp rfl _ _ _) rfl ⟨rfl, rfl⟩
      · have hxd : decide (x < 1) = false := by simpa using hx1
        have hxm : decide (x ∈ l.take i) = true ∨ decide (x ∈ l.take i) = false := by cases decide (x ∈ l.take i) <;> simp
        rcases hxm with hxm | hxm
        · have hf : r = false := by
            rw [HRR.out]; unfold okIDs
            simp only [decide_eq_false_iff_not]
            intro h
            have h1 : (l.take (i + 1)).Nodup := (List.take_sublist _ _).nodup h.1
            rw [HTK.out, List.nodup_append] at h1
            exact h1.2.2 x (of_decide_eq_true hxm) x (by simp) rfl
          subst hf
          go_wp2_with (first
            | (go_at_call 36; refine (contains36_any (.slice (some ⟨b, off, none⟩) i cap) (l.take i) x _ (HS.out i hi) (by simp; omega)).mono ?_; rw [hxm]; rintro e w1 ⟨rfl, rfl⟩)
            | fail)
          refine bodyPost_ret (results_tmp rfl _ _ _) rfl ⟨rfl, rfl⟩
        · have hxm' := of_decide_eq_false hxm
          have HXM := Lib.hid hxm'
          have hx1' : 1 ≤ x := by omega
          have HX1 := Lib.hid hx1'
          clear hxm' hx1'
          go_wp2_with (first
            | (go_at_call 36; refine (contains36_any (.slice (some ⟨b, off, none⟩) i cap) (l.take i) x _ (HS.out i hi) (by simp; omega)).mono ?_; rw [hxm]; rintro e w1 ⟨rfl, rfl⟩)
            | fail)
          go_roundg (gk - 1)
          case measure => have := HG.out; omega
          case rel =>
            refine ⟨i + 1, by omega, by have := HG.out; omega, by go_num, ?_, ?_, rfl⟩
            · rw [HTK.out, List.nodup_append]
              exact ⟨HD.out, by simp, fun y hy z hz e => by simp at hz; subst hz; subst e; exact HXM.out hy⟩
            · intro y hy
              rw [HTK.out] at hy
              rcases List.mem_append.1 hy with hy | hy
              · exact HP.out y hy
              · simp at hy; subst hy; exact HX1.out
    · have hil : i = l.length := by omega
      subst hil
      have hd := HD.out
      have hp := HP.out
      rw [List.take_length] at hd hp
      have he : r = decide (l.length ≤ 12) := by
        rw [HRR.out]; unfold okIDs
        exact decide_eq_decide.2 ⟨fun h => h.2.2, fun h => ⟨hd, hp, h⟩⟩
      have HE := Lib.hid he
      clear hd hp he
      go_wp2_with fail
      have hd12 : decide ((l.length : Int) ≤ 12) = decide (l.length ≤ 12) := decide_eq_decide.2 (by omega)
      refine bodyPost_ret (results_tmp rfl _ _ _) rfl ⟨?_, rfl⟩
      rw [HE.out, ← hd12]
      rfl

set_option maxRecDepth 100000 in
theorem fits22_any (a b : Value) (l0 l1 : List Int) (w : World) (h0 : Us w a l0) (h1 : Us w b l1) :
    Calls Try.prog 8 #[.agg #[a, b]] w fun e w' => (e = .returned (.bool (decide (l0.length ≤ 2147483647 ∧ l1.length ≤ 2147483647)))) ∧ New w w' := by
  obtain ⟨oa, ca, rfl, _⟩ := h0
  obtain ⟨ob, cb, rfl, _⟩ := h1
  have i0 : ∀ w, (Instr.index 23 (.agg #[.slice oa l0.length ca, .slice ob l1.length cb]) (.int .i64 0)).run Try.prog w = .ok (.slice oa l0.length ca) w := fun _ => by kernel_rfl
  have i1 : ∀ w, (Instr.index 23 (.agg #[.slice oa l0.length ca, .slice ob l1.length cb]) (.int .i64 1)).run Try.prog w = .ok (.slice ob l1.length cb) w := fun _ => by kernel_rfl
  have I0 := Lib.hid i0; have I1 := Lib.hid i1
  clear i0 i1
  obtain ⟨r, hr⟩ : ∃ r, r = decide (l0.length ≤ 2147483647 ∧ l1.length ≤ 2147483647) := ⟨_, rfl⟩
  rw [← hr]
  have HRR := Lib.hid hr; clear hr
  go_enter Try.func8, Try.ntmps8
  go_wp2_with fail
  go_loopg [4, 6] 3 (fun n _ j wr => ∃ i : Nat, i ≤ 2 ∧ 3 ≤ n + i ∧ j = .int .i64 i ∧ (0 < i → l0.length ≤ 2147483647) ∧ (1 < i → l1.length ≤ 2147483647) ∧ New w wr)
  case atStart => exact ⟨0, by omega, by omega, rfl, by omega, by omega, Chg.alloc _ _ _⟩
  case round =>
    obtain ⟨i, hi, hg, rfl, h0, h1, hnew⟩ := hrel
    have HNW := Lib.hid hnew; clear hnew
    have hc : i = 0 ∨ i = 1 ∨ i = 2 := by omega
    rcases hc with rfl | rfl | rfl
    · have j0 := I0.out
      by_cases hb : l0.length ≤ 2147483647
      · have hd : decide ((2147483647 : Int) < (l0.length : Int)) = false := by simp; omega
        clear h0 h1
        go_wp2_with fail
        go_roundg (gk - 1)
        case measure => omega
        case rel => exact ⟨1, by omega, by omega, rfl, fun _ => hb, by omega, HNW.out⟩
      · have hf : r = false := by rw [HRR.out]; simp; omega
        subst hf
        have hd : decide ((2147483647 : Int) < (l0.length : Int)) = true := by simp; omega
        clear h0 h1
        go_wp2_with fail
        refine bodyPost_ret (results_tmp rfl _ _ _) rfl ⟨rfl, HNW.out⟩
    · have j1 := I1.out
      have hb0 := h0 (by omega)
      by_cases hb : l1.length ≤ 2147483647
      · have hd : decide ((2147483647 : Int) < (l1.length : Int)) = false := by simp; omega
        clear h0 h1
        go_wp2_with fail
        go_roundg (gk - 1)
        case measure => omega
        case rel => exact ⟨2, by omega, by omega, rfl, fun _ => hb0, fun _ => hb, HNW.out⟩
      · have hf : r = false := by rw [HRR.out]; simp; omega
        subst hf
        have hd : decide ((2147483647 : Int) < (l1.length : Int)) = true := by simp; omega
        clear h0 h1
        go_wp2_with fail
        refine bodyPost_ret (results_tmp rfl _ _ _) rfl ⟨rfl, HNW.out⟩
    · have hf : r = true := by
        rw [HRR.out]
        exact decide_eq_true ⟨h0 (by omega), h1 (by omega)⟩
      subst hf
      clear h0 h1
      go_wp2_with fail
      refine bodyPost_ret (results_tmp rfl _ _ _) rfl ⟨rfl, HNW.out⟩
end Go.Proofs.Ytcgccoigjcdjeaa
namespace Go.Proofs.Ytcgccoigjcdjeaa
open Go.RowKit Go.Sort

theorem same43_any (x : Int) (bx : Bool) (ab : Nat) (k : Int) (w : World) (h : w.cell? ⟨ab, 0, none⟩ = some (.int .u64 k)) :
    Calls Try.prog 43 #[.agg #[.int .u64 x, .bool bx], .pointer (some ⟨ab, 0, none⟩)] w fun e w' => e = .returned (.bool (x == k)) ∧ New w w' := by
  have hn := World.new_ne w _ h
  go_enter Try.func43, Try.ntmps43
  go_wp2
  go_ret
  exact ⟨rfl, Chg.alloc _ _ _⟩

set_option maxRecDepth 100000 in
set_option maxHeartbeats 1600000 in
theorem index59_any (v : Value) (B : List (Int × Bool)) (ab : Nat) (k : Int) (w : World) (h : Bas w v B) (hk : w.cell? ⟨ab, 0, none⟩ = some (.int .u64 k)) (hn : B.length ≤ 2147483647) :
    Calls Try.prog 59 #[v, .func (.func 43) #[] #[.pointer (some ⟨ab, 0, none⟩)]] w fun e w' => (∃ r : Int, e = .returned (.int .i64 r) ∧ (0 ≤ r ↔ k ∈ B.map (·.1)) ∧ (r = -1 ∨ 0 ≤ r)) ∧ New w w' := by
  obtain ⟨ao, cap, rfl, h⟩ := h
  have H := Lib.hid h; have HN := Lib.hid hn; have HK := Lib.hid hk
  clear h hn hk
  go_enter Try.func59, Try.ntmps59
  go_wp2_with fail
  go_loopg [5, 8] B.length (fun n _ j wr => ∃ i : Nat, i ≤ B.length ∧ B.length ≤ n + i ∧ j = .int .i64 i ∧ k ∉ (B.take i).map (·.1) ∧ New w wr)
  case atStart => exact ⟨0, by omega, by omega, rfl, by simp, Chg.refl _ _⟩
  case round =>
    obtain ⟨i, hi, hg, rfl, hnk, hnew⟩ := hrel
    have HG := Lib.hid hg; have HNK := Lib.hid hnk; have HNW := Lib.hid hnew
    clear hg hnk hnew
    have hsm : B.length ≤ 2147483647 := HN.out
    by_cases hlt : i < B.length
    · obtain ⟨b, off, rfl, hc0, hc1⟩ := H.out i hlt
      have p0 := HNW.out.has hc0
      have p1 := HNW.out.has hc1
      have htk : (B.take (i + 1)).map (·.1) = (B.take i).map (·.1) ++ [B[i].1] := by rw [List.take_succ_eq_append_getElem hlt, List.map_append]; rfl
      have hmem : B[i].1 ∈ B.map (·.1) := List.mem_map.2 ⟨_, List.getElem_mem hlt, rfl⟩
      obtain ⟨x, hx⟩ : ∃ x, x = B[i] := ⟨_, rfl⟩
      rw [← hx] at p0 p1 htk hmem
      obtain ⟨xk, xb⟩ := x
      simp only at p0 p1 htk hmem
      have HTK := Lib.hid htk; have HME := Lib.hid hmem
      clear hx htk hmem hc0 hc1
      by_cases hxk : k = xk
      · subst hxk
        have hkk : (k == k) = true := by simp
        go_wp2_with (first
          | (go_at_call 43; refine (same43_any k xb ab k _ (HNW.out.has HK.out)).mono ?_; rw [hkk]; rintro e w1 ⟨rfl, m1⟩)
          | fail)
        refine bodyPost_ret (results_tmp rfl _ _ _) rfl ⟨⟨i, rfl, ⟨fun _ => HME.out, fun _ => by omega⟩, .inr (by omega)⟩, HNW.out.then m1⟩
      · have hxb : (xk == k) = false := by simp; exact fun e => hxk e.symm
        have HXK := Lib.hid hxk; clear hxk
        go_wp2_with (first
          | (go_at_call 43; refine (same43_any xk xb ab k _ (HNW.out.has HK.out)).mono ?_; rw [hxb]; rintro e w1 ⟨rfl, m1⟩)
          | fail)
        go_roundg (gk - 1)
        case measure => have := HG.out; omega
        case rel => exact ⟨i + 1, by omega, by have := HG.out; omega, by go_num, by rw [HTK.out]; have h1 := HNK.out; have h2 := HXK.out; rw [List.mem_append]; rintro (h | h); exact h1 h; simp at h; exact h2 h, HNW.out.then m1⟩
    · have hil : i = B.length := by omega
      subst hil
      have hkl : k ∉ B.map (·.1) := by have := HNK.out; rwa [List.take_length] at this
      have HKL := Lib.hid hkl; clear hkl
      go_wp2_with fail
      refine bodyPost_ret (results_tmp rfl _ _ _) rfl ⟨⟨-1, rfl, ⟨fun h => absurd h (by decide), fun h => absurd h HKL.out⟩, .inl rfl⟩, HNW.out⟩
set_option maxRecDepth 100000 in
theorem contains30_any (v : Value) (B : List (Int × Bool)) (ab : Nat) (k : Int) (w : World) (h : Bas w v B) (hk : w.cell? ⟨ab, 0, none⟩ = some (.int .u64 k)) (hn : B.length ≤ 2147483647) :
    Calls Try.prog 30 #[v, .func (.func 43) #[] #[.pointer (some ⟨ab, 0, none⟩)]] w fun e w' => e = .returned (.bool (decide (k ∈ B.map (·.1)))) ∧ New w w' := by
  go_enter Try.func30, Try.ntmps30
  go_wp2_with fail
  refine (index59_any v B ab k w h hk hn).mono ?_
  rintro e w' ⟨⟨r, rfl, hr, hr2⟩, hn'⟩
  have hdd : decide (0 ≤ r) = decide (k ∈ B.map (·.1)) := decide_eq_decide.2 hr
  have HDD := Lib.hid hdd
  clear hr hdd
  go_wp2_with fail
  refine bodyPost_ret (results_tmp rfl _ _ _) rfl ⟨?_, hn'⟩
  rw [← HDD.out]; rfl

def okBas (B : List (Int × Bool)) : Bool := decide ((B.map (·.1)).Nodup ∧ B.length ≤ 20)
set_option maxRecDepth 100000 in
set_option maxHeartbeats 1600000 in
theorem piballots_any (v : Value) (B : List (Int × Bool)) (w : World) (h : Bas w v B) (hcap : CapOk v) (hn : B.length ≤ 2147483647) :
    Calls Try.prog 16 #[v] w fun e w' => e = .returned (.bool (okBas B)) ∧ New w w' := by
  obtain ⟨ao, cap, rfl, h⟩ := h
  have hlc := hcap _ _ _ rfl
  clear hcap
  have hsub : ∀ i, i ≤ B.length → Bas w (.slice ao i cap) (B.take i) := fun i hi => by
    refine ⟨ao, cap, by simp [hi], fun j hj => ?_⟩
    have hj' : j < B.length := by simp at hj; omega
    obtain ⟨b, off, e, h1, h2⟩ := h j hj'
    exact ⟨b, off, e, by rw [List.getElem_take]; exact h1, by rw [List.getElem_take]; exact h2⟩
  have H := Lib.hid h; have HN := Lib.hid hn; have HS := Lib.hid hsub
  clear h hn hsub
  obtain ⟨r, hr⟩ : ∃ r, r = okBas B := ⟨_, rfl⟩
  rw [← hr]
  have HRR := Lib.hid hr; clear hr
  go_enter Try.func16, Try.ntmps16
  go_wp2_with fail
  go_loopg [3, 4, 7] B.length (fun n _ _ j wr => ∃ i : Nat, i ≤ B.length ∧ B.length ≤ n + i ∧ j = .int .i64 i ∧ ((B.take i).map (·.1)).Nodup ∧ New w wr)
  case atStart => exact ⟨0, by omega, by omega, rfl, by simp, Chg.refl _ _⟩
  case round =>
    obtain ⟨i, hi, hg, rfl, hd, hnew⟩ := hrel
    have HG := Lib.hid hg; have HD := Lib.hid hd; have HNW := Lib.hid hnew
    clear hg hd hnew
    have hsm : B.length ≤ 2147483647 := HN.out
    by_cases hlt : i < B.length
    · obtain ⟨b, off, rfl, hc0, hc1⟩ := H.out i hlt
      have p0 := HNW.out.has hc0
      have p1 := HNW.out.has hc1
      have htk : (B.take (i + 1)).map (·.1) = (B.take i).map (·.1) ++ [B[i].1] := by rw [List.take_succ_eq_append_getElem hlt, List.map_append]; rfl
      obtain ⟨x, hx⟩ : ∃ x, x = B[i] := ⟨_, rfl⟩
      rw [← hx] at p0 p1 htk
      obtain ⟨xk, xb⟩ := x
      simp only at p0 p1 htk
      have HTK := Lib.hid htk
      clear hx htk hc0 hc1
      have n1 : New w (wr.alloc (.cells #[.int .u64 xk, .bool xb] 41)) := HNW.out.then (Chg.alloc _ _ _)
      have N1 := Lib.hid n1; clear n1
      have hck : (wr.alloc (.cells #[.int .u64 xk, .bool xb] 41)).cell? ⟨wr.heap.size, 0, none⟩ = some (.int .u64 xk) := cell_of_block (block_new _ _) rfl
      have HCK := Lib.hid hck; clear hck
      have hxm : decide (xk ∈ (B.take i).map (·.1)) = true ∨ decide (xk ∈ (B.take i).map (·.1)) = false := by cases decide (xk ∈ (B.take i).map (·.1)) <;> simp
      rcases hxm with hxm | hxm
      · have hf : r = false := by
          rw [HRR.out]; unfold okBas
          simp only [decide_eq_false_iff_not]
          intro h
          have h1 : ((B.take (i + 1)).map (·.1)).Nodup := ((List.take_sublist _ _).map _).nodup h.1
          rw [HTK.out, List.nodup_append] at h1
          exact h1.2.2 xk (of_decide_eq_true hxm) xk (by simp) rfl
        subst hf
        have HXM := Lib.hid hxm; clear hxm
        go_wp2_with fail
        refine (contains30_any (.slice (some ⟨b, off, none⟩) i cap) (B.take i) wr.heap.size xk _ ((HS.out i hi).chg N1.out) HCK.out (by simp; omega)).mono ?_
        rw [HXM.out]
        rintro e w1 ⟨rfl, m1⟩
        go_wp2_with fail
        refine bodyPost_ret (results_tmp rfl _ _ _) rfl ⟨rfl, N1.out.then m1⟩
      · have HXM := Lib.hid hxm; clear hxm
        go_wp2_with fail
        refine (contains30_any (.slice (some ⟨b, off, none⟩) i cap) (B.take i) wr.heap.size xk _ ((HS.out i hi).chg N1.out) HCK.out (by simp; omega)).mono ?_
        rw [HXM.out]
        rintro e w1 ⟨rfl, m1⟩
        go_wp2_with fail
        go_roundg (gk - 1)
        case measure => have := HG.out; omega
        case rel =>
          refine ⟨i + 1, by omega, by have := HG.out; omega, by go_num, ?_, N1.out.then m1⟩
          rw [HTK.out, List.nodup_append]
          exact ⟨HD.out, by simp, fun y hy z hz e => by simp at hz; subst hz; subst e; exact of_decide_eq_false HXM.out hy⟩
    · have hil : i = B.length := by omega
      subst hil
      have hd := HD.out
      rw [List.take_length] at hd
      have he : r = decide (B.length ≤ 20) := by
        rw [HRR.out]; unfold okBas
        exact decide_eq_decide.2 ⟨fun h => h.2, fun h => ⟨hd, h⟩⟩
      have HE := Lib.hid he
      clear hd he
      go_wp2_with fail
      have hd12 : decide ((B.length : Int) ≤ 20) = decide (B.length ≤ 20) := decide_eq_decide.2 (by omega)
      refine bodyPost_ret (results_tmp rfl _ _ _) rfl ⟨?_, HNW.out⟩
      rw [HE.out, ← hd12]
      rfl
end Go.Proofs.Ytcgccoigjcdjeaa
namespace Go.Proofs.Ytcgccoigjcdjeaa
open Go.RowKit Go.Sort

/-- the cells of a list of pairs -/
def pcs {α : Type} (f g : α → Value) (B : List α) : List Value := B.flatMap fun p => [f p, g p]
theorem pcs_length {α : Type} (f g : α → Value) (B : List α) : (pcs f g B).length = B.length * 2 := by
  induction B with
  | nil => rfl
  | cons p B ih => unfold pcs at *; simp only [List.flatMap_cons, List.length_append, List.length_cons, List.length_nil, ih]; omega
theorem pcs_get {α : Type} (f g : α → Value) (B : List α) : ∀ i, (pcs f g B)[i * 2]? = B[i]?.map f ∧ (pcs f g B)[i * 2 + 1]? = B[i]?.map g := by
  induction B with
  | nil => intro i; simp [pcs]
  | cons p B ih =>
    intro i
    have e : pcs f g (p :: B) = f p :: g p :: pcs f g B := by simp [pcs]
    rw [e]
    cases i with
    | zero => simp
    | succ i =>
      have h := ih i
      rw [show (i + 1) * 2 = i * 2 + 1 + 1 by omega]
      simp only [List.getElem?_cons_succ]
      exact h
structure ST2 (t e : TypeId) (z : Value) : Prop where
  ex : ∃ i : TypeInfo, Try.prog.underlying t = some (.slice e) ∧ Try.prog.info? e = some i ∧ i.zero = some z ∧ i.size = 2 ∧ i.bytes = 16 ∧ z.cells.size = 2
theorem st2_of {t e : TypeId} {z : Value} (ht : Try.prog.underlying t = some (.slice e)) (h : (Try.prog.info? e).map (fun i => (i.zero, i.size, i.bytes)) = some (some z, 2, 16)) (hz : z.cells.size = 2) : ST2 t e z := by
  cases hi : Try.prog.info? e with
  | none => rw [hi] at h; cases h
  | some i =>
    rw [hi] at h
    simp only [Option.map_some, Option.some.injEq, Prod.mk.injEq] at h
    exact ⟨i, ht, hi, h.1, h.2.1, h.2.2, hz⟩
theorem st36 : ST2 36 41 (.agg #[.int .u64 0, .bool false]) := st2_of (by kernel_rfl) (by kernel_rfl) rfl
theorem st24 : ST2 24 33 (.agg #[.int .u64 0, .int .u64 0]) := st2_of (by kernel_rfl) (by kernel_rfl) rfl
theorem st45 : ST2 45 53 (.agg #[.int .i64 0, .int .u64 0]) := st2_of (by kernel_rfl) (by kernel_rfl) rfl
section
variable {w : World} {ops : Array Oper} {rest : List Oper} {o : Oper} {a : Act} {Q : Exit → Act → World → Prop} {t e : TypeId} {z : Value}
theorem op_appends2 (hg : o.guard = none) (s x : Operand) (hop : o.op = Op.call { callee := Callee.builtin Builtin.append, args := #[s, x], argTypes := #[t, t] }) (T : ST2 t e z) (base n : Nat) (v : Value) (xs : List Value) (hs : a.eval s = v) (hown : w.ownsRow base e 2 v n xs)
    (ad : Addr) (m c : Nat) (news : List Value) (hx : a.eval x = .slice (some ad) m c) (hl : news.length = m * 2) (hnews : ∀ (j : Nat) (u : Value), news[j]? = some u → w.cell? (ad.add j) = some u) (h1 : ∀ u ∈ news, u.oneCell' = true) (hn : n + m ≤ 2000000) (hbase : base ≤ w.heap.size)
    (hK : ∀ v' w', w'.ownsRow base e 2 v' (n + m) (xs ++ news) → Chg w w' (fun i => v.ownBlock = some i) → wpList Try.prog ops Q rest (a.put o.dst v') w') : wpList Try.prog ops Q (o :: rest) a w := by
  obtain ⟨i, h1', h2, h3, h4, h5, h6⟩ := T.ex
  exact wpList_append_own w hg s x t hop base e i z 2 16 h1' h2 h3 h4 h5 h6 (by decide) v n xs hs hown ad m c news hx hl hnews h1 (by unfold maxLen; omega) (by omega) hbase (fun v' w' r1 r2 _ => hK v' w' r1 (Chg.ofGrown r2))
end
theorem pairs_of_owns {α : Type} {f g : α → Value} {w : World} {base e : Nat} {v : Value} {B : List α} (h : w.ownsRow base e 2 v B.length (pcs f g B)) :
    ∃ ao cap, v = .slice ao B.length cap ∧ ∀ i (hi : i < B.length), ∃ b off, ao = some ⟨b, off, none⟩ ∧ w.cell? ⟨b, off + i * 2, none⟩ = some (f (B[i]'hi)) ∧ w.cell? ⟨b, off + i * 2 + 1, none⟩ = some (g (B[i]'hi)) := by
  rcases h.2 with ⟨rfl, hn⟩ | ⟨gb, cap, cur, rfl, hb, hg, _⟩
  · exact ⟨none, 0, by rw [hn], fun i hi => by omega⟩
  · refine ⟨_, cap, rfl, fun i hi => ⟨gb, 0, rfl, ?_⟩⟩
    have hc := h.cells (g := gb) rfl
    obtain ⟨e1, e2⟩ := pcs_get f g B i
    rw [List.getElem?_eq_getElem hi] at e1 e2
    have c1 := hc _ _ e1
    have c2 := hc _ _ e2
    have ad : ∀ j, (⟨gb, 0, none⟩ : Addr).add j = ⟨gb, j, none⟩ := fun j => by unfold Addr.add; split <;> simp_all
    rw [ad] at c1 c2
    exact ⟨by simpa using c1, by simpa using c2⟩
@[go_sem] theorem eqnil36 (w : World) (a : Option Addr) (l c : Nat) : (binOp .eql 36 (.slice a l c) (.slice none 0 0)).run Try.prog w = .ok (.bool a.isNone) w := Lib.run_eql_slice_nil w _ _ a l c 0 0 Try.underlying36
@[go_sem] theorem eqnil24 (w : World) (a : Option Addr) (l c : Nat) : (binOp .eql 24 (.slice a l c) (.slice none 0 0)).run Try.prog w = .ok (.bool a.isNone) w := Lib.run_eql_slice_nil w _ _ a l c 0 0 Try.underlying24
@[go_sem] theorem eqnil45 (w : World) (a : Option Addr) (l c : Nat) : (binOp .eql 45 (.slice a l c) (.slice none 0 0)).run Try.prog w = .ok (.bool a.isNone) w := Lib.run_eql_slice_nil w _ _ a l c 0 0 Try.underlying45

set_option maxRecDepth 100000 in
set_option maxHeartbeats 1600000 in
theorem clone19_any (v : Value) (B : List (Int × Bool)) (w : World) (h : Bas w v B) (hn : B.length ≤ 1000000) (hnil : NilOk v) :
    Calls Try.prog 19 #[v] w fun e w' => ∃ v', e = .returned v' ∧ Bas w' v' B ∧ New w w' := by
  obtain ⟨ao, cap, rfl, h⟩ := h
  cases ao with
  | none =>
    have hl : B = [] := by
      cases B with
      | nil => rfl
      | cons x l => obtain ⟨b, off, e, _⟩ := h 0 (by simp); cases e
    subst hl
    have hc := hnil cap rfl
    subst hc
    clear hnil h
    go_enter Try.func19, Try.ntmps19
    go_wp2_with fail
    go_ret
    exact ⟨_, rfl, ⟨none, 0, rfl, fun i hi => by simp at hi⟩, Chg.refl _ _⟩
  | some ad =>
    have hcells : ∀ (j : Nat) (u : Value), (pcs (fun p : Int × Bool => Value.int .u64 p.1) (fun p => Value.bool p.2) B)[j]? = some u → ∀ o, (w.alloc o).cell? (ad.add j) = some u := by
      intro j u hu o
      have hj : j < B.length * 2 := by have := (List.getElem?_eq_some_iff.1 hu).1; rwa [pcs_length] at this
      have hi : j / 2 < B.length := by omega
      obtain ⟨b, off, e, h1, h2⟩ := h (j / 2) hi
      cases e
      obtain ⟨e1, e2⟩ := pcs_get (fun p : Int × Bool => Value.int .u64 p.1) (fun p => Value.bool p.2) B (j / 2)
      rw [List.getElem?_eq_getElem hi] at e1 e2
      have e3 : (⟨b, off, none⟩ : Addr).add j = ⟨b, off + j, none⟩ := by unfold Addr.add; split <;> simp_all
      rw [e3]
      rcases Nat.mod_two_eq_zero_or_one j with hm | hm
      · have ej : j / 2 * 2 = j := by omega
        rw [ej] at e1 h1
        rw [e1] at hu; cases hu
        exact (Chg.alloc w o (fun _ => False)).has h1
      · have ej : j / 2 * 2 + 1 = j := by omega
        rw [ej] at e2
        rw [Nat.add_assoc, ej] at h2
        rw [e2] at hu; cases hu
        exact (Chg.alloc w o (fun _ => False)).has h2
    have HC := Lib.hid hcells; have HN := Lib.hid hn
    clear hcells hn h hnil
    go_enter Try.func19, Try.ntmps19
    go_wp2_with (first
      | (at_builtin; refine op_appends2 rfl (.tmp 5) (.tmp 6) rfl st36 w.heap.size 0 (.slice (some ⟨w.heap.size, 0, none⟩) 0 0) [] rfl (World.ownsRow_made w #[] 0 (Nat.le_refl _) (by decide) rfl) ad B.length cap (pcs (fun p : Int × Bool => Value.int .u64 p.1) (fun p => Value.bool p.2) B) rfl (pcs_length _ _ _) (fun j u hu => HC.out j u hu _) (by intro u hu; simp only [pcs, List.mem_flatMap, List.mem_cons, List.not_mem_nil, or_false] at hu; obtain ⟨x, _, rfl | rfl⟩ := hu <;> rfl) (by have := HN.out; omega) (by simp) ?_; intro v' w1 hown hch)
      | fail)
    go_ret
    rw [Nat.zero_add, List.nil_append] at hown
    have hb : ∀ x : Nat, Value.ownBlock (.slice (some ⟨w.heap.size, 0, none⟩) 0 0) = some x → x = w.heap.size := fun x e => by simp [Value.ownBlock] at e; exact e.symm
    exact ⟨v', rfl, pairs_of_owns hown, (Chg.alloc w _ _).trans hch (fun _ _ h => h) (fun i hi e => by have := hb i e; omega)⟩
end Go.Proofs.Ytcgccoigjcdjeaa
namespace Go.Proofs.Ytcgccoigjcdjeaa
open Go.RowKit Go.Sort

/-- a store into a cell that holds no number -/
theorem Us.setCell {w : World} {v : Value} {l : List Int} (h : Us w v l) {a : Addr} {u0 : Value} (ha : w.cell? a = some u0) (hne : ∀ k, u0 ≠ .int .u64 k) (x : Value) : Us (w.setCell a x) v l := by
  obtain ⟨ao, cap, rfl, h⟩ := h
  refine ⟨ao, cap, rfl, fun i hi => ?_⟩
  obtain ⟨b, off, e, hc⟩ := h i hi
  refine ⟨b, off, e, ?_⟩
  have hne2 : a ≠ ⟨b, off + i, none⟩ := by
    intro e2
    rw [e2, hc] at ha
    cases ha
    exact hne _ rfl
  simp [go_sem, hne2, hc]
set_option maxRecDepth 100000 in
set_option maxHeartbeats 1600000 in
theorem pivoters_any (a b : Value) (l0 l1 : List Int) (w : World) (h0 : Us w a l0) (h1 : Us w b l1) (m0 : NilOk a) (m1 : NilOk b) (n0 : l0.length ≤ 1000000) (n1 : l1.length ≤ 1000000) :
    Calls Try.prog 13 #[.agg #[a, b]] w fun e w' => ∃ oa ca ob cb, e = .returned (.agg #[.slice oa l0.length ca, .slice ob l1.length cb]) ∧ Us w' (.slice oa l0.length ca) l0 ∧ Us w' (.slice ob l1.length cb) l1 ∧ New w w' := by
  have n2 : ∀ o1 o2, New w ((w.alloc o1).alloc o2).drew := fun o1 o2 => ((Chg.alloc w _ _).then (Chg.alloc _ _ _)).then (Chg.drew _ _)
  have H0 := Lib.hid h0; have H1 := Lib.hid h1; have M0 := Lib.hid m0; have M1 := Lib.hid m1; have N0 := Lib.hid n0; have N1 := Lib.hid n1; have HN2 := Lib.hid n2
  obtain ⟨oa, ca, rfl, _⟩ := h0
  obtain ⟨ob, cb, rfl, _⟩ := h1
  clear m0 m1 n0 n1 n2
  go_enter Try.func13, Try.ntmps13
  go_wp2_with fail
  go_region_held3 (fun w' => w'.cell? ⟨w.heap.size, 0, none⟩ = some (.slice oa l0.length ca) ∧ w'.cell? ⟨w.heap.size, 1, none⟩ = some (.slice ob l1.length cb)) (go_keep)
    (first
      | (go_at_call 42; ((with_reducible refine (clone22_any (.slice oa l0.length ca) l0 _ (H0.out.new (HN2.out _ _)) N0.out M0.out).mono ?_); rintro e w1 ⟨x0, rfl, s0, p1, xa, ya, rfl⟩; have k1 := p1.rule))
      | (go_at_call 42; ((with_reducible refine (clone22_any (.slice ob l1.length cb) l1 _ (H1.out.new ((HN2.out _ _).then p1)) N1.out M1.out).mono ?_); rintro e w2 ⟨x1, rfl, s1, p2, xb, yb, rfl⟩; have k2 := p2.rule; have HBK := Lib.hid (p2.keeps (p1.keeps (block_drew (block_new1 w _ _)) (by simp)) (by simp)); have r0 := cell_of_block (off := 0) HBK.out rfl; have r1 := cell_of_block (off := 1) HBK.out rfl; have z0 := free_of_block (off := 0) HBK.out; have z1 := free_of_block (off := 1) HBK.out))
      | fail)
  rename_i hH
  clear hH k1 k2
  have hs0 := s0.new p2
  have hnw := ((HN2.out _ _).then p1).then p2
  have S0 := Lib.hid hs0; have S1 := Lib.hid s1; have HNW := Lib.hid hnw
  clear hs0 s0 s1 p1 p2 hnw
  go_wp2_with fail
  refine bodyPost_ret (v := ?_) ?_ rfl ?_
  rotate_left 1
  · simp [results, Try.results13, go_sem, r0, r1]
    rfl
  have hb1 := block_setCell (off := 0) HBK.out (.slice xa l0.length ya)
  have q0 := cell_of_block (off := 0) HBK.out rfl
  have q1 := cell_of_block (off := 1) hb1 rfl
  exact ⟨_, _, _, _, rfl, (S0.out.setCell q0 (by simp) _).setCell q1 (by simp) _, (S1.out.setCell q0 (by simp) _).setCell q1 (by simp) _, (HNW.out.trans (Chg.setCell _ _ _ (fun i => i = w.heap.size + 1) (fun _ => rfl)) (fun _ _ h => h) (fun i hi e => by omega)).trans (Chg.setCell _ _ _ (fun i => i = w.heap.size + 1) (fun _ => rfl)) (fun _ _ h => h) (fun i hi e => by omega)⟩
end Go.Proofs.Ytcgccoigjcdjeaa
