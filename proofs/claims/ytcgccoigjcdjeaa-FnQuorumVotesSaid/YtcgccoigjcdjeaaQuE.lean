/- laws.piBallots and what it calls. Condition: at most 2^31 - 1 votes. -/
import Derived.Test.YtcgccoigjcdjeaaQuD
namespace Go.Proofs.Ytcgccoigjcdjeaa
open Go.RowKit Go.Sort

theorem same43_any (x : Int) (bx : Bool) (ab : Nat) (k : Int) (w : World) (h : w.cell? ⟨ab, 0, none⟩ = some (.int .u64 k)) :
    Calls Try.prog 43 #[.agg #[.int .u64 x, .bool bx], .pointer (some ⟨ab, 0, none⟩)] w fun e w' => e = .returned (.bool (x == k)) ∧ New w w' := by
  have hn := World.new_ne w _ h
  go_enter Try.func43, Try.ntmps43
  go_wp2
  go_ret
  exact ⟨rfl, Chg.alloc _ _ _⟩

set_option maxRecDepth 100000 in
set_option maxHeartbeats 1600000 in
theorem index59_any (v : Value) (B : List (Int × Bool)) (ab : Nat) (k : Int) (w : World) (h : Bas w v B) (hk : w.cell? ⟨ab, 0, none⟩ = some (.int .u64 k)) (hn : B.length ≤ 2147483647) :
    Calls Try.prog 59 #[v, .func (.func 43) #[] #[.pointer (some ⟨ab, 0, none⟩)]] w fun e w' => (∃ r : Int, e = .returned (.int .i64 r) ∧ (0 ≤ r ↔ k ∈ B.map (·.1)) ∧ (r = -1 ∨ 0 ≤ r)) ∧ New w w' := by
  obtain ⟨ao, cap, rfl, h⟩ := h
  have H := Lib.hid h; have HN := Lib.hid hn; have HK := Lib.hid hk
  clear h hn hk
  go_enter Try.func59, Try.ntmps59
  go_wp2_with fail
  go_loopg [5, 8] B.length (fun n _ j wr => ∃ i : Nat, i ≤ B.length ∧ B.length ≤ n + i ∧ j = .int .i64 i ∧ k ∉ (B.take i).map (·.1) ∧ New w wr)
  case atStart => exact ⟨0, by omega, by omega, rfl, by simp, Chg.refl _ _⟩
  case round =>
    obtain ⟨i, hi, hg, rfl, hnk, hnew⟩ := hrel
    have HG := Lib.hid hg; have HNK := Lib.hid hnk; have HNW := Lib.hid hnew
    clear hg hnk hnew
    have hsm : B.length ≤ 2147483647 := HN.out
    by_cases hlt : i < B.length
    · obtain ⟨b, off, rfl, hc0, hc1⟩ := H.out i hlt
      have p0 := HNW.out.has hc0
      have p1 := HNW.out.has hc1
      have htk : (B.take (i + 1)).map (·.1) = (B.take i).map (·.1) ++ [B[i].1] := by rw [List.take_succ_eq_append_getElem hlt, List.map_append]; rfl
      have hmem : B[i].1 ∈ B.map (·.1) := List.mem_map.2 ⟨_, List.getElem_mem hlt, rfl⟩
      obtain ⟨x, hx⟩ : ∃ x, x = B[i] := ⟨_, rfl⟩
      rw [← hx] at p0 p1 htk hmem
      obtain ⟨xk, xb⟩ := x
      simp only at p0 p1 htk hmem
      have HTK := Lib.hid htk; have HME := Lib.hid hmem
      clear hx htk hmem hc0 hc1
      by_cases hxk : k = xk
      · subst hxk
        have hkk : (k == k) = true := by simp
        go_wp2_with (first
          | (go_at_call 43; refine (same43_any k xb ab k _ (HNW.out.has HK.out)).mono ?_; rw [hkk]; rintro e w1 ⟨rfl, m1⟩)
          | fail)
        refine bodyPost_ret (results_tmp rfl _ _ _) rfl ⟨⟨i, rfl, ⟨fun _ => HME.out, fun _ => by omega⟩, .inr (by omega)⟩, HNW.out.then m1⟩
      · have hxb : (xk == k) = false := by simp; exact fun e => hxk e.symm
        have HXK := Lib.hid hxk; clear hxk
        go_wp2_with (first
          | (go_at_call 43; refine (same43_any xk xb ab k _ (HNW.out.has HK.out)).mono ?_; rw [hxb]; rintro e w1 ⟨rfl, m1⟩)
          | fail)
        go_roundg (gk - 1)
        case measure => have := HG.out; omega
        case rel => exact ⟨i + 1, by omega, by have := HG.out; omega, by go_num, by rw [HTK.out]; have h1 := HNK.out; have h2 := HXK.out; rw [List.mem_append]; rintro (h | h); exact h1 h; simp at h; exact h2 h, HNW.out.then m1⟩
    · have hil : i = B.length := by omega
      subst hil
      have hkl : k ∉ B.map (·.1) := by have := HNK.out; rwa [List.take_length] at this
      have HKL := Lib.hid hkl; clear hkl
      go_wp2_with fail
      refine bodyPost_ret (results_tmp rfl _ _ _) rfl ⟨⟨-1, rfl, ⟨fun h => absurd h (by decide), fun h => absurd h HKL.out⟩, .inl rfl⟩, HNW.out⟩
set_option maxRecDepth 100000 in
theorem contains30_any (v : Value) (B : List (Int × Bool)) (ab : Nat) (k : Int) (w : World) (h : Bas w v B) (hk : w.cell? ⟨ab, 0, none⟩ = some (.int .u64 k)) (hn : B.length ≤ 2147483647) :
    Calls Try.prog 30 #[v, .func (.func 43) #[] #[.pointer (some ⟨ab, 0, none⟩)]] w fun e w' => e = .returned (.bool (decide (k ∈ B.map (·.1)))) ∧ New w w' := by
  go_enter Try.func30, Try.ntmps30
  go_wp2_with fail
  refine (index59_any v B ab k w h hk hn).mono ?_
  rintro e w' ⟨⟨r, rfl, hr, hr2⟩, hn'⟩
  have hdd : decide (0 ≤ r) = decide (k ∈ B.map (·.1)) := decide_eq_decide.2 hr
  have HDD := Lib.hid hdd
  clear hr hdd
  go_wp2_with fail
  refine bodyPost_ret (results_tmp rfl _ _ _) rfl ⟨?_, hn'⟩
  rw [← HDD.out]; rfl

def okBas (B : List (Int × Bool)) : Bool := decide ((B.map (·.1)).Nodup ∧ B.length ≤ 20)
set_option maxRecDepth 100000 in
set_option maxHeartbeats 1600000 in
theorem piballots_any (v : Value) (B : List (Int × Bool)) (w : World) (h : Bas w v B) (hcap : CapOk v) (hn : B.length ≤ 2147483647) :
    Calls Try.prog 16 #[v] w fun e w' => e = .returned (.bool (okBas B)) ∧ New w w' := by
  obtain ⟨ao, cap, rfl, h⟩ := h
  have hlc := hcap _ _ _ rfl
  clear hcap
  have hsub : ∀ i, i ≤ B.length → Bas w (.slice ao i cap) (B.take i) := fun i hi => by
    refine ⟨ao, cap, by simp [hi], fun j hj => ?_⟩
    have hj' : j < B.length := by simp at hj; omega
    obtain ⟨b, off, e, h1, h2⟩ := h j hj'
    exact ⟨b, off, e, by rw [List.getElem_take]; exact h1, by rw [List.getElem_take]; exact h2⟩
  have H := Lib.hid h; have HN := Lib.hid hn; have HS := Lib.hid hsub
  clear h hn hsub
  obtain ⟨r, hr⟩ : ∃ r, r = okBas B := ⟨_, rfl⟩
  rw [← hr]
  have HRR := Lib.hid hr; clear hr
  go_enter Try.func16, Try.ntmps16
  go_wp2_with fail
  go_loopg [3, 4, 7] B.length (fun n _ _ j wr => ∃ i : Nat, i ≤ B.length ∧ B.length ≤ n + i ∧ j = .int .i64 i ∧ ((B.take i).map (·.1)).Nodup ∧ New w wr)
  case atStart => exact ⟨0, by omega, by omega, rfl, by simp, Chg.refl _ _⟩
  case round =>
    obtain ⟨i, hi, hg, rfl, hd, hnew⟩ := hrel
    have HG := Lib.hid hg; have HD := Lib.hid hd; have HNW := Lib.hid hnew
    clear hg hd hnew
    have hsm : B.length ≤ 2147483647 := HN.out
    by_cases hlt : i < B.length
    · obtain ⟨b, off, rfl, hc0, hc1⟩ := H.out i hlt
      have p0 := HNW.out.has hc0
      have p1 := HNW.out.has hc1
      have htk : (B.take (i + 1)).map (·.1) = (B.take i).map (·.1) ++ [B[i].1] := by rw [List.take_succ_eq_append_getElem hlt, List.map_append]; rfl
      obtain ⟨x, hx⟩ : ∃ x, x = B[i] := ⟨_, rfl⟩
      rw [← hx] at p0 p1 htk
      obtain ⟨xk, xb⟩ := x
      simp only at p0 p1 htk
      have HTK := Lib.hid htk
      clear hx htk hc0 hc1
      have n1 : New w (wr.alloc (.cells #[.int .u64 xk, .bool xb] 41)) := HNW.out.then (Chg.alloc _ _ _)
      have N1 := Lib.hid n1; clear n1
      have hck : (wr.alloc (.cells #[.int .u64 xk, .bool xb] 41)).cell? ⟨wr.heap.size, 0, none⟩ = some (.int .u64 xk) := cell_of_block (block_new _ _) rfl
      have HCK := Lib.hid hck; clear hck
      have hxm : decide (xk ∈ (B.take i).map (·.1)) = true ∨ decide (xk ∈ (B.take i).map (·.1)) = false := by cases decide (xk ∈ (B.take i).map (·.1)) <;> simp
      rcases hxm with hxm | hxm
      · have hf : r = false := by
          rw [HRR.out]; unfold okBas
          simp only [decide_eq_false_iff_not]
          intro h
          have h1 : ((B.take (i + 1)).map (·.1)).Nodup := ((List.take_sublist _ _).map _).nodup h.1
          rw [HTK.out, List.nodup_append] at h1
          exact h1.2.2 xk (of_decide_eq_true hxm) xk (by simp) rfl
        subst hf
        have HXM := Lib.hid hxm; clear hxm
        go_wp2_with fail
        refine (contains30_any (.slice (some ⟨b, off, none⟩) i cap) (B.take i) wr.heap.size xk _ ((HS.out i hi).chg N1.out) HCK.out (by simp; omega)).mono ?_
        rw [HXM.out]
        rintro e w1 ⟨rfl, m1⟩
        go_wp2_with fail
        refine bodyPost_ret (results_tmp rfl _ _ _) rfl ⟨rfl, N1.out.then m1⟩
      · have HXM := Lib.hid hxm; clear hxm
        go_wp2_with fail
        refine (contains30_any (.slice (some ⟨b, off, none⟩) i cap) (B.take i) wr.heap.size xk _ ((HS.out i hi).chg N1.out) HCK.out (by simp; omega)).mono ?_
        rw [HXM.out]
        rintro e w1 ⟨rfl, m1⟩
        go_wp2_with fail
        go_roundg (gk - 1)
        case measure => have := HG.out; omega
        case rel =>
          refine ⟨i + 1, by omega, by have := HG.out; omega, by go_num, ?_, N1.out.then m1⟩
          rw [HTK.out, List.nodup_append]
          exact ⟨HD.out, by simp, fun y hy z hz e => by simp at hz; subst hz; subst e; exact of_decide_eq_false HXM.out hy⟩
    · have hil : i = B.length := by omega
      subst hil
      have hd := HD.out
      rw [List.take_length] at hd
      have he : r = decide (B.length ≤ 20) := by
        rw [HRR.out]; unfold okBas
        exact decide_eq_decide.2 ⟨fun h => h.2, fun h => ⟨hd, h⟩⟩
      have HE := Lib.hid he
      clear hd he
      go_wp2_with fail
      have hd12 : decide ((B.length : Int) ≤ 20) = decide (B.length ≤ 20) := decide_eq_decide.2 (by omega)
      refine bodyPost_ret (results_tmp rfl _ _ _) rfl ⟨?_, HNW.out⟩
      rw [HE.out, ← hd12]
      rfl
end Go.Proofs.Ytcgccoigjcdjeaa
