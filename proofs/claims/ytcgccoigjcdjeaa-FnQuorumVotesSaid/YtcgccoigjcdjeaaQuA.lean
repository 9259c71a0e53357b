/- impl.set, impl.joint. Condition: no number twice; fewer than a million. -/
import Derived.Test.YtcgccoigjcdjeaaConfW
namespace Go.Proofs.Ytcgccoigjcdjeaa
open Go.RowKit Go.Sort

set_option maxRecDepth 100000 in
set_option maxHeartbeats 1600000 in
theorem set65_any (v : Value) (l : List Int) (w : World) (h : Us w v l) (hd : l.Nodup) (hn : l.length ≤ 1000000) :
    Calls Try.prog 65 #[v] w fun e w' => ∃ o, e = .returned (.map o) ∧ SetV w' o l ∧ New w w' := by
  obtain ⟨ao, cap, rfl, h⟩ := h
  by_cases hl : l = []
  · subst hl
    clear h hd hn
    go_enter Try.func65, Try.ntmps65
    go_wp2_with fail
    refine bodyPost_ret (results_tmp rfl _ _ _) rfl ⟨none, rfl, SetV.nil _, Chg.refl _ _⟩
  · have hlen : 0 < l.length := List.length_pos_iff.2 hl
    have hlb : ((l.length : Int) == 0) = false := by simpa using hl
    have H := Lib.hid h; have HD := Lib.hid hd; have HN := Lib.hid hn; have HL := Lib.hid hl
    clear h hd hn hl
    go_enter Try.func65, Try.ntmps65
    go_wp2_with fail
    clear hlb
    go_loopg [4] l.length (fun n j wr => ∃ i : Nat, i ≤ l.length ∧ l.length ≤ n + i ∧ j = .int .i64 i ∧ SetV wr (some w.heap.size) (l.take i) ∧ New w wr)
    case atStart => exact ⟨0, by omega, by omega, rfl, SetV.made w, Chg.alloc _ _ _⟩
    case round =>
      obtain ⟨i, hi, hg, rfl, hs, hnew⟩ := hrel
      have HG := Lib.hid hg; have HS := Lib.hid hs; have HNW := Lib.hid hnew
      clear hg hs hnew
      by_cases hlt : i < l.length
      · obtain ⟨b, off, rfl, hc⟩ := H.out i hlt
        have hc' := HNW.out.has hc
        have hsmall : l.length ≤ 1000000 := HN.out
        have hins : ins (l.take i) l[i] = l.take (i + 1) := by
          rw [List.take_succ_eq_append_getElem hlt]
          refine ins_new fun hm => ?_
          have hnd := HD.out
          obtain ⟨j, hj, e⟩ := List.getElem_of_mem hm
          rw [List.getElem_take] at e
          have hj' : j < i := by simp at hj; omega
          have := (List.getElem_inj hnd).1 e
          omega
        have HINS := Lib.hid hins; clear hc hins
        go_wp2_with (first
          | (at_mapUpdate; refine set_update rfl _ _ _ _ rfl mt69 rfl HS.out rfl rfl ?_; intro w3 h3 s3 z3)
          | fail)
        go_roundg (gk - 1)
        case measure => have := HG.out; omega
        case rel =>
          exact ⟨i + 1, by omega, by have := HG.out; omega, by go_num, by rw [← HINS.out]; exact h3, HNW.out.trans s3.chg (fun _ _ h => h) (fun i hi e => by omega)⟩
      · have hil : i = l.length := by omega
        subst hil
        have hs : SetV wr (some w.heap.size) l := by have := HS.out; rwa [List.take_length] at this
        have HS2 := Lib.hid hs; clear hs
        go_wp2_with fail
        go_ret
        exact ⟨_, rfl, HS2.out, HNW.out⟩

set_option maxRecDepth 100000 in
set_option maxHeartbeats 1600000 in
theorem joint40_any (a b : Value) (l0 l1 : List Int) (w : World) (h0 : Us w a l0) (h1 : Us w b l1) (d0 : l0.Nodup) (d1 : l1.Nodup) (n0 : l0.length ≤ 1000000) (n1 : l1.length ≤ 1000000) :
    Calls Try.prog 40 #[.agg #[a, b]] w fun e w' => ∃ v0 v1, e = .returned (.agg #[.map v0, .map v1]) ∧ SetV w' v0 l0 ∧ SetV w' v1 l1 ∧ New w w' := by
  have n2 : ∀ o1 o2, New w ((w.alloc o1).alloc o2).drew := fun o1 o2 => ((Chg.alloc w _ _).then (Chg.alloc _ _ _)).then (Chg.drew _ _)
  have H0 := Lib.hid h0; have H1 := Lib.hid h1; have D0 := Lib.hid d0; have D1 := Lib.hid d1; have N0 := Lib.hid n0; have N1 := Lib.hid n1; have HN2 := Lib.hid n2
  obtain ⟨oa, ca, rfl, _⟩ := h0
  obtain ⟨ob, cb, rfl, _⟩ := h1
  clear d0 d1 n0 n1 n2
  go_enter Try.func40, Try.ntmps40
  go_wp2_with fail
  go_region_held3 (fun w' => w'.cell? ⟨w.heap.size, 0, none⟩ = some (.slice oa l0.length ca) ∧ w'.cell? ⟨w.heap.size, 1, none⟩ = some (.slice ob l1.length cb)) (go_keep)
    (first
      | (go_at_call 65; ((with_reducible refine (set65_any (.slice oa l0.length ca) l0 _ (H0.out.new (HN2.out _ _)) D0.out N0.out).mono ?_); rintro e w1 ⟨x0, rfl, s0, m1⟩; have k1 := m1.rule))
      | (go_at_call 65; ((with_reducible refine (set65_any (.slice ob l1.length cb) l1 _ (H1.out.new ((HN2.out _ _).then m1)) D1.out N1.out).mono ?_); rintro e w2 ⟨x1, rfl, s1, m2⟩; have k2 := m2.rule; have HBK := Lib.hid (m2.keeps (m1.keeps (block_drew (block_new1 w _ _)) (by simp)) (by simp)); have r0 := cell_of_block (off := 0) HBK.out rfl; have r1 := cell_of_block (off := 1) HBK.out rfl; have z0 := free_of_block (off := 0) HBK.out; have z1 := free_of_block (off := 1) HBK.out))
      | fail)
  rename_i hH
  clear hH k1 k2
  have hs0 := s0.chg m2 (by simp)
  have hnw := ((HN2.out _ _).then m1).then m2
  have S0 := Lib.hid hs0; have S1 := Lib.hid s1; have HNW := Lib.hid hnw
  clear hs0 s0 s1 m1 m2 hnw
  go_wp2_with fail
  refine bodyPost_ret (v := ?_) ?_ rfl ?_
  rotate_left 1
  · simp [results, Try.results40, go_sem, r0, r1]
    rfl
  exact ⟨_, _, rfl, (S0.out.setCell _ _).setCell _ _, (S1.out.setCell _ _).setCell _ _, (HNW.out.trans (Chg.setCell _ _ _ (fun i => i = w.heap.size + 1) (fun _ => rfl)) (fun _ _ h => h) (fun i hi e => by omega)).trans (Chg.setCell _ _ _ (fun i => i = w.heap.size + 1) (fun _ => rfl)) (fun _ _ h => h) (fun i hi e => by omega)⟩
end Go.Proofs.Ytcgccoigjcdjeaa
