/- slices.Index, Contains at numbers; laws.piIDs, piVoters, zzFits22. Condition: at most 2^31 - 1 numbers. -/
import Derived.Test.YtcgccoigjcdjeaaQuC
namespace Go.Proofs.Ytcgccoigjcdjeaa
open Go.RowKit Go.Sort

set_option maxRecDepth 100000 in
set_option maxHeartbeats 1600000 in
theorem index62_any (v : Value) (l : List Int) (k : Int) (w : World) (h : Us w v l) (hn : l.length ≤ 2147483647) :
    Calls Try.prog 62 #[v, .int .u64 k] w fun e w' => (∃ r : Int, e = .returned (.int .i64 r) ∧ (0 ≤ r ↔ k ∈ l) ∧ (r = -1 ∨ 0 ≤ r)) ∧ w = w' := by
  obtain ⟨ao, cap, rfl, h⟩ := h
  have H := Lib.hid h; have HN := Lib.hid hn
  clear h hn
  go_enter Try.func62, Try.ntmps62
  go_wp2_with fail
  go_loopg [5, 8] l.length (fun n _ j wr => ∃ i : Nat, i ≤ l.length ∧ l.length ≤ n + i ∧ j = .int .i64 i ∧ k ∉ l.take i ∧ w = wr)
  case atStart => exact ⟨0, by omega, by omega, rfl, by simp, rfl⟩
  case round =>
    obtain ⟨i, hi, hg, rfl, hk, rfl⟩ := hrel
    have HG := Lib.hid hg; have HK := Lib.hid hk
    clear hg hk
    have hsm : l.length ≤ 2147483647 := HN.out
    by_cases hlt : i < l.length
    · obtain ⟨b, off, rfl, hc⟩ := H.out i hlt
      have htk := List.take_succ_eq_append_getElem hlt
      have hmem := List.getElem_mem hlt
      obtain ⟨x, hx⟩ : ∃ x, x = l[i] := ⟨_, rfl⟩
      rw [← hx] at hc htk hmem
      have HTK := Lib.hid htk; have HME := Lib.hid hmem
      clear hx htk hmem
      by_cases hxk : k = x
      · subst hxk
        go_wp2_with fail
        refine bodyPost_ret (results_tmp rfl _ _ _) rfl ⟨⟨i, rfl, ⟨fun _ => HME.out, fun _ => by omega⟩, .inr (by omega)⟩, rfl⟩
      · have hxb : (k == x) = false := by simpa using hxk
        have HXK := Lib.hid hxk; clear hxk
        go_wp2_with fail
        go_roundg (gk - 1)
        case measure => have := HG.out; omega
        case rel => exact ⟨i + 1, by omega, by have := HG.out; omega, by go_num, by rw [HTK.out]; have h1 := HK.out; have h2 := HXK.out; simp [h1, h2], rfl⟩
    · have hil : i = l.length := by omega
      subst hil
      have hkl : k ∉ l := by have := HK.out; rwa [List.take_length] at this
      have HKL := Lib.hid hkl; clear hkl
      go_wp2_with fail
      refine bodyPost_ret (results_tmp rfl _ _ _) rfl ⟨⟨-1, rfl, ⟨fun h => absurd h (by decide), fun h => absurd h HKL.out⟩, .inl rfl⟩, rfl⟩
set_option maxRecDepth 100000 in
theorem contains36_any (v : Value) (l : List Int) (k : Int) (w : World) (h : Us w v l) (hn : l.length ≤ 2147483647) :
    Calls Try.prog 36 #[v, .int .u64 k] w fun e w' => e = .returned (.bool (decide (k ∈ l))) ∧ w' = w := by
  go_enter Try.func36, Try.ntmps36
  go_wp2_with fail
  refine (index62_any v l k w h hn).mono ?_
  rintro e w' ⟨⟨r, rfl, hr, hr2⟩, rfl⟩
  go_wp2_with fail
  refine bodyPost_ret (results_tmp rfl _ _ _) rfl ⟨rfl, rfl⟩

def CapOk (v : Value) : Prop := ∀ ao n cap, v = .slice ao n cap → n ≤ cap
def okIDs (l : List Int) : Bool := decide (l.Nodup ∧ (∀ x ∈ l, 1 ≤ x) ∧ l.length ≤ 12)
set_option maxRecDepth 100000 in
set_option maxHeartbeats 1600000 in
theorem piids_any (v : Value) (l : List Int) (w : World) (h : Us w v l) (hcap : CapOk v) (hn : l.length ≤ 2147483647) :
    Calls Try.prog 9 #[v] w fun e w' => e = .returned (.bool (okIDs l)) ∧ w' = w := by
  obtain ⟨ao, cap, rfl, h⟩ := h
  have hlc := hcap _ _ _ rfl
  clear hcap
  have hsub : ∀ i, i ≤ l.length → Us w (.slice ao i cap) (l.take i) := fun i hi => by
    refine ⟨ao, cap, by simp [hi], fun j hj => ?_⟩
    have hj' : j < l.length := by simp at hj; omega
    obtain ⟨b, off, e, hc⟩ := h j hj'
    exact ⟨b, off, e, by rw [List.getElem_take]; exact hc⟩
  have H := Lib.hid h; have HN := Lib.hid hn; have HS := Lib.hid hsub
  clear h hn hsub
  obtain ⟨r, hr⟩ : ∃ r, r = okIDs l := ⟨_, rfl⟩
  rw [← hr]
  have HRR := Lib.hid hr; clear hr
  go_enter Try.func9, Try.ntmps9
  go_wp2_with fail
  go_loopg [3, 4, 7] l.length (fun n _ _ j wr => ∃ i : Nat, i ≤ l.length ∧ l.length ≤ n + i ∧ j = .int .i64 i ∧ (l.take i).Nodup ∧ (∀ x ∈ l.take i, 1 ≤ x) ∧ wr = w)
  case atStart => exact ⟨0, by omega, by omega, rfl, by simp, by simp, rfl⟩
  case round =>
    obtain ⟨i, hi, hg, rfl, hd, hp, rfl⟩ := hrel
    have HG := Lib.hid hg; have HD := Lib.hid hd; have HP := Lib.hid hp
    clear hg hd hp
    have hsm : l.length ≤ 2147483647 := HN.out
    by_cases hlt : i < l.length
    · obtain ⟨b, off, rfl, hc⟩ := H.out i hlt
      have htk := List.take_succ_eq_append_getElem hlt
      have hmem := List.getElem_mem hlt
      obtain ⟨x, hx⟩ : ∃ x, x = l[i] := ⟨_, rfl⟩
      rw [← hx] at hc htk hmem
      have HTK := Lib.hid htk; have HME := Lib.hid hmem
      clear hx htk hmem
      by_cases hx1 : x < 1
      · have hf : r = false := by
          rw [HRR.out]; unfold okIDs
          simp only [decide_eq_false_iff_not]
          intro h; have := h.2.1 x HME.out; omega
        have hxd : decide (x < 1) = true := by simpa using hx1
        subst hf
        go_wp2_with fail
        refine bodyPost_ret (results_tmp rfl _ _ _) rfl ⟨rfl, rfl⟩
      · have hxd : decide (x < 1) = false := by simpa using hx1
        have hxm : decide (x ∈ l.take i) = true ∨ decide (x ∈ l.take i) = false := by cases decide (x ∈ l.take i) <;> simp
        rcases hxm with hxm | hxm
        · have hf : r = false := by
            rw [HRR.out]; unfold okIDs
            simp only [decide_eq_false_iff_not]
            intro h
            have h1 : (l.take (i + 1)).Nodup := (List.take_sublist _ _).nodup h.1
            rw [HTK.out, List.nodup_append] at h1
            exact h1.2.2 x (of_decide_eq_true hxm) x (by simp) rfl
          subst hf
          go_wp2_with (first
            | (go_at_call 36; refine (contains36_any (.slice (some ⟨b, off, none⟩) i cap) (l.take i) x _ (HS.out i hi) (by simp; omega)).mono ?_; rw [hxm]; rintro e w1 ⟨rfl, rfl⟩)
            | fail)
          refine bodyPost_ret (results_tmp rfl _ _ _) rfl ⟨rfl, rfl⟩
        · have hxm' := of_decide_eq_false hxm
          have HXM := Lib.hid hxm'
          have hx1' : 1 ≤ x := by omega
          have HX1 := Lib.hid hx1'
          clear hxm' hx1'
          go_wp2_with (first
            | (go_at_call 36; refine (contains36_any (.slice (some ⟨b, off, none⟩) i cap) (l.take i) x _ (HS.out i hi) (by simp; omega)).mono ?_; rw [hxm]; rintro e w1 ⟨rfl, rfl⟩)
            | fail)
          go_roundg (gk - 1)
          case measure => have := HG.out; omega
          case rel =>
            refine ⟨i + 1, by omega, by have := HG.out; omega, by go_num, ?_, ?_, rfl⟩
            · rw [HTK.out, List.nodup_append]
              exact ⟨HD.out, by simp, fun y hy z hz e => by simp at hz; subst hz; subst e; exact HXM.out hy⟩
            · intro y hy
              rw [HTK.out] at hy
              rcases List.mem_append.1 hy with hy | hy
              · exact HP.out y hy
              · simp at hy; subst hy; exact HX1.out
    · have hil : i = l.length := by omega
      subst hil
      have hd := HD.out
      have hp := HP.out
      rw [List.take_length] at hd hp
      have he : r = decide (l.length ≤ 12) := by
        rw [HRR.out]; unfold okIDs
        exact decide_eq_decide.2 ⟨fun h => h.2.2, fun h => ⟨hd, hp, h⟩⟩
      have HE := Lib.hid he
      clear hd hp he
      go_wp2_with fail
      have hd12 : decide ((l.length : Int) ≤ 12) = decide (l.length ≤ 12) := decide_eq_decide.2 (by omega)
      refine bodyPost_ret (results_tmp rfl _ _ _) rfl ⟨?_, rfl⟩
      rw [HE.out, ← hd12]
      rfl

set_option maxRecDepth 100000 in
theorem fits22_any (a b : Value) (l0 l1 : List Int) (w : World) (h0 : Us w a l0) (h1 : Us w b l1) :
    Calls Try.prog 8 #[.agg #[a, b]] w fun e w' => (e = .returned (.bool (decide (l0.length ≤ 2147483647 ∧ l1.length ≤ 2147483647)))) ∧ New w w' := by
  obtain ⟨oa, ca, rfl, _⟩ := h0
  obtain ⟨ob, cb, rfl, _⟩ := h1
  have i0 : ∀ w, (Instr.index 23 (.agg #[.slice oa l0.length ca, .slice ob l1.length cb]) (.int .i64 0)).run Try.prog w = .ok (.slice oa l0.length ca) w := fun _ => by kernel_rfl
  have i1 : ∀ w, (Instr.index 23 (.agg #[.slice oa l0.length ca, .slice ob l1.length cb]) (.int .i64 1)).run Try.prog w = .ok (.slice ob l1.length cb) w := fun _ => by kernel_rfl
  have I0 := Lib.hid i0; have I1 := Lib.hid i1
  clear i0 i1
  obtain ⟨r, hr⟩ : ∃ r, r = decide (l0.length ≤ 2147483647 ∧ l1.length ≤ 2147483647) := ⟨_, rfl⟩
  rw [← hr]
  have HRR := Lib.hid hr; clear hr
  go_enter Try.func8, Try.ntmps8
  go_wp2_with fail
  go_loopg [4, 6] 3 (fun n _ j wr => ∃ i : Nat, i ≤ 2 ∧ 3 ≤ n + i ∧ j = .int .i64 i ∧ (0 < i → l0.length ≤ 2147483647) ∧ (1 < i → l1.length ≤ 2147483647) ∧ New w wr)
  case atStart => exact ⟨0, by omega, by omega, rfl, by omega, by omega, Chg.alloc _ _ _⟩
  case round =>
    obtain ⟨i, hi, hg, rfl, h0, h1, hnew⟩ := hrel
    have HNW := Lib.hid hnew; clear hnew
    have hc : i = 0 ∨ i = 1 ∨ i = 2 := by omega
    rcases hc with rfl | rfl | rfl
    · have j0 := I0.out
      by_cases hb : l0.length ≤ 2147483647
      · have hd : decide ((2147483647 : Int) < (l0.length : Int)) = false := by simp; omega
        clear h0 h1
        go_wp2_with fail
        go_roundg (gk - 1)
        case measure => omega
        case rel => exact ⟨1, by omega, by omega, rfl, fun _ => hb, by omega, HNW.out⟩
      · have hf : r = false := by rw [HRR.out]; simp; omega
        subst hf
        have hd : decide ((2147483647 : Int) < (l0.length : Int)) = true := by simp; omega
        clear h0 h1
        go_wp2_with fail
        refine bodyPost_ret (results_tmp rfl _ _ _) rfl ⟨rfl, HNW.out⟩
    · have j1 := I1.out
      have hb0 := h0 (by omega)
      by_cases hb : l1.length ≤ 2147483647
      · have hd : decide ((2147483647 : Int) < (l1.length : Int)) = false := by simp; omega
        clear h0 h1
        go_wp2_with fail
        go_roundg (gk - 1)
        case measure => omega
        case rel => exact ⟨2, by omega, by omega, rfl, fun _ => hb0, fun _ => hb, HNW.out⟩
      · have hf : r = false := by rw [HRR.out]; simp; omega
        subst hf
        have hd : decide ((2147483647 : Int) < (l1.length : Int)) = true := by simp; omega
        clear h0 h1
        go_wp2_with fail
        refine bodyPost_ret (results_tmp rfl _ _ _) rfl ⟨rfl, HNW.out⟩
    · have hf : r = true := by
        rw [HRR.out]
        exact decide_eq_true ⟨h0 (by omega), h1 (by omega)⟩
      subst hf
      clear h0 h1
      go_wp2_with fail
      refine bodyPost_ret (results_tmp rfl _ _ _) rfl ⟨rfl, HNW.out⟩
end Go.Proofs.Ytcgccoigjcdjeaa
