/- slices.ContainsFunc at votes, slices.IndexFunc at acknowledgements, as laws.FnQuorumVotes calls them. Condition: at most 2^31 - 1 of them. -/
import Derived.Test.YtcgccoigjcdjeaaQuK
namespace Go.Proofs.Ytcgccoigjcdjeaa
open Go.RowKit Go.Sort

theorem same31_any (x : Int) (bx : Bool) (ab : Nat) (k : Int) (w : World) (h : w.cell? ⟨ab, 0, none⟩ = some (.int .u64 k)) :
    Calls Try.prog 31 #[.agg #[.int .u64 x, .bool bx], .pointer (some ⟨ab, 0, none⟩)] w fun e w' => e = .returned (.bool (x == k)) ∧ New w w' := by
  have hn := World.new_ne w _ h
  go_enter Try.func31, Try.ntmps31
  go_wp2
  go_ret
  exact ⟨rfl, Chg.alloc _ _ _⟩

set_option maxRecDepth 100000 in
set_option maxHeartbeats 1600000 in
theorem index59b_any (v : Value) (B : List (Int × Bool)) (ab : Nat) (k : Int) (w : World) (h : Bas w v B) (hk : w.cell? ⟨ab, 0, none⟩ = some (.int .u64 k)) (hn : B.length ≤ 2147483647) :
    Calls Try.prog 59 #[v, .func (.func 31) #[] #[.pointer (some ⟨ab, 0, none⟩)]] w fun e w' => (∃ r : Int, e = .returned (.int .i64 r) ∧ (0 ≤ r ↔ k ∈ B.map (·.1)) ∧ (r = -1 ∨ 0 ≤ r)) ∧ New w w' := by
  obtain ⟨ao, cap, rfl, h⟩ := h
  have H := Lib.hid h; have HN := Lib.hid hn; have HK := Lib.hid hk
  clear h hn hk
  go_enter Try.func59, Try.ntmps59
  go_wp2_with fail
  go_loopg [5, 8] B.length (fun n _ j wr => ∃ i : Nat, i ≤ B.length ∧ B.length ≤ n + i ∧ j = .int .i64 i ∧ k ∉ (B.take i).map (·.1) ∧ New w wr)
  case atStart => exact ⟨0, by omega, by omega, rfl, by simp, Chg.refl _ _⟩
  case round =>
    obtain ⟨i, hi, hg, rfl, hnk, hnew⟩ := hrel
    have HG := Lib.hid hg; have HNK := Lib.hid hnk; have HNW := Lib.hid hnew
    clear hg hnk hnew
    have hsm : B.length ≤ 2147483647 := HN.out
    by_cases hlt : i < B.length
    · obtain ⟨b, off, rfl, hc0, hc1⟩ := H.out i hlt
      have p0 := HNW.out.has hc0
      have p1 := HNW.out.has hc1
      have htk : (B.take (i + 1)).map (·.1) = (B.take i).map (·.1) ++ [B[i].1] := by rw [List.take_succ_eq_append_getElem hlt, List.map_append]; rfl
      have hmem : B[i].1 ∈ B.map (·.1) := List.mem_map.2 ⟨_, List.getElem_mem hlt, rfl⟩
      obtain ⟨x, hx⟩ : ∃ x, x = B[i] := ⟨_, rfl⟩
      rw [← hx] at p0 p1 htk hmem
      obtain ⟨xk, xb⟩ := x
      simp only at p0 p1 htk hmem
      have HTK := Lib.hid htk; have HME := Lib.hid hmem
      clear hx htk hmem hc0 hc1
      by_cases hxk : k = xk
      · subst hxk
        have hkk : (k == k) = true := by simp
        go_wp2_with (first
          | (go_at_call 31; refine (same31_any k xb ab k _ (HNW.out.has HK.out)).mono ?_; rw [hkk]; rintro e w1 ⟨rfl, m1⟩)
          | fail)
        refine bodyPost_ret (results_tmp rfl _ _ _) rfl ⟨⟨i, rfl, ⟨fun _ => HME.out, fun _ => by omega⟩, .inr (by omega)⟩, HNW.out.then m1⟩
      · have hxb : (xk == k) = false := by simp; exact fun e => hxk e.symm
        have HXK := Lib.hid hxk; clear hxk
        go_wp2_with (first
          | (go_at_call 31; refine (same31_any xk xb ab k _ (HNW.out.has HK.out)).mono ?_; rw [hxb]; rintro e w1 ⟨rfl, m1⟩)
          | fail)
        go_roundg (gk - 1)
        case measure => have := HG.out; omega
        case rel => exact ⟨i + 1, by omega, by have := HG.out; omega, by go_num, by rw [HTK.out]; have h1 := HNK.out; have h2 := HXK.out; rw [List.mem_append]; rintro (h | h); exact h1 h; simp at h; exact h2 h, HNW.out.then m1⟩
    · have hil : i = B.length := by omega
      subst hil
      have hkl : k ∉ B.map (·.1) := by have := HNK.out; rwa [List.take_length] at this
      have HKL := Lib.hid hkl; clear hkl
      go_wp2_with fail
      refine bodyPost_ret (results_tmp rfl _ _ _) rfl ⟨⟨-1, rfl, ⟨fun h => absurd h (by decide), fun h => absurd h HKL.out⟩, .inl rfl⟩, HNW.out⟩
set_option maxRecDepth 100000 in
theorem contains30b_any (v : Value) (B : List (Int × Bool)) (ab : Nat) (k : Int) (w : World) (h : Bas w v B) (hk : w.cell? ⟨ab, 0, none⟩ = some (.int .u64 k)) (hn : B.length ≤ 2147483647) :
    Calls Try.prog 30 #[v, .func (.func 31) #[] #[.pointer (some ⟨ab, 0, none⟩)]] w fun e w' => e = .returned (.bool (decide (k ∈ B.map (·.1)))) ∧ New w w' := by
  go_enter Try.func30, Try.ntmps30
  go_wp2_with fail
  refine (index59b_any v B ab k w h hk hn).mono ?_
  rintro e w' ⟨⟨r, rfl, hr, hr2⟩, hn'⟩
  have hdd : decide (0 ≤ r) = decide (k ∈ B.map (·.1)) := decide_eq_decide.2 hr
  have HDD := Lib.hid hdd
  clear hr hdd
  go_wp2_with fail
  refine bodyPost_ret (results_tmp rfl _ _ _) rfl ⟨?_, hn'⟩
  rw [← HDD.out]; rfl

/-- where a member is found -/
def AtR (B : List (Int × Int)) (k r : Int) : Prop := (r = -1 ∧ k ∉ B.map (·.1)) ∨ ∃ (i : Nat) (v : Int), r = i ∧ B[i]? = some (k, v)
theorem same33_any (x : Int) (bx : Int) (ab : Nat) (k : Int) (w : World) (h : w.cell? ⟨ab, 0, none⟩ = some (.int .u64 k)) :
    Calls Try.prog 33 #[.agg #[.int .u64 x, .int .u64 bx], .pointer (some ⟨ab, 0, none⟩)] w fun e w' => e = .returned (.bool (x == k)) ∧ New w w' := by
  have hn := World.new_ne w _ h
  go_enter Try.func33, Try.ntmps33
  go_wp2
  go_ret
  exact ⟨rfl, Chg.alloc _ _ _⟩

set_option maxRecDepth 100000 in
set_option maxHeartbeats 1600000 in
theorem index32b_any (v : Value) (B : List (Int × Int)) (ab : Nat) (k : Int) (w : World) (h : Acs w v B) (hk : w.cell? ⟨ab, 0, none⟩ = some (.int .u64 k)) (hn : B.length ≤ 2147483647) :
    Calls Try.prog 32 #[v, .func (.func 33) #[] #[.pointer (some ⟨ab, 0, none⟩)]] w fun e w' => (∃ r : Int, e = .returned (.int .i64 r) ∧ AtR B k r) ∧ New w w' := by
  obtain ⟨ao, cap, rfl, h⟩ := h
  have H := Lib.hid h; have HN := Lib.hid hn; have HK := Lib.hid hk
  clear h hn hk
  go_enter Try.func32, Try.ntmps32
  go_wp2_with fail
  go_loopg [5, 8] B.length (fun n _ j wr => ∃ i : Nat, i ≤ B.length ∧ B.length ≤ n + i ∧ j = .int .i64 i ∧ k ∉ (B.take i).map (·.1) ∧ New w wr)
  case atStart => exact ⟨0, by omega, by omega, rfl, by simp, Chg.refl _ _⟩
  case round =>
    obtain ⟨i, hi, hg, rfl, hnk, hnew⟩ := hrel
    have HG := Lib.hid hg; have HNK := Lib.hid hnk; have HNW := Lib.hid hnew
    clear hg hnk hnew
    have hsm : B.length ≤ 2147483647 := HN.out
    by_cases hlt : i < B.length
    · obtain ⟨b, off, rfl, hc0, hc1⟩ := H.out i hlt
      have p0 := HNW.out.has hc0
      have p1 := HNW.out.has hc1
      have htk : (B.take (i + 1)).map (·.1) = (B.take i).map (·.1) ++ [B[i].1] := by rw [List.take_succ_eq_append_getElem hlt, List.map_append]; rfl
      obtain ⟨x, hx⟩ : ∃ x, x = B[i] := ⟨_, rfl⟩
      rw [← hx] at p0 p1 htk
      have hix : B[i]? = some x := by rw [hx]; exact List.getElem?_eq_getElem hlt
      obtain ⟨xk, xb⟩ := x
      simp only at p0 p1 htk
      have HTK := Lib.hid htk; have HIX := Lib.hid hix
      clear hx htk hix hc0 hc1
      by_cases hxk : k = xk
      · subst hxk
        have hkk : (k == k) = true := by simp
        go_wp2_with (first
          | (go_at_call 33; refine (same33_any k xb ab k _ (HNW.out.has HK.out)).mono ?_; rw [hkk]; rintro e w1 ⟨rfl, m1⟩)
          | fail)
        refine bodyPost_ret (results_tmp rfl _ _ _) rfl ⟨⟨i, rfl, .inr ⟨i, xb, rfl, HIX.out⟩⟩, HNW.out.then m1⟩
      · have hxb : (xk == k) = false := by simp; exact fun e => hxk e.symm
        have HXK := Lib.hid hxk; clear hxk
        go_wp2_with (first
          | (go_at_call 33; refine (same33_any xk xb ab k _ (HNW.out.has HK.out)).mono ?_; rw [hxb]; rintro e w1 ⟨rfl, m1⟩)
          | fail)
        go_roundg (gk - 1)
        case measure => have := HG.out; omega
        case rel => exact ⟨i + 1, by omega, by have := HG.out; omega, by go_num, by rw [HTK.out]; have h1 := HNK.out; have h2 := HXK.out; rw [List.mem_append]; rintro (h | h); exact h1 h; simp at h; exact h2 h, HNW.out.then m1⟩
    · have hil : i = B.length := by omega
      subst hil
      have hkl : k ∉ B.map (·.1) := by have := HNK.out; rwa [List.take_length] at this
      have HKL := Lib.hid hkl; clear hkl
      go_wp2_with fail
      refine bodyPost_ret (results_tmp rfl _ _ _) rfl ⟨⟨-1, rfl, .inl ⟨rfl, HKL.out⟩⟩, HNW.out⟩
end Go.Proofs.Ytcgccoigjcdjeaa
