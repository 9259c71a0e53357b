/- laws.piAcks and what it calls; slices.Clone at what is acknowledged. Condition: at most 2^31 - 1 of them. -/
import Derived.Test.YtcgccoigjcdjeaaQuG
namespace Go.Proofs.Ytcgccoigjcdjeaa
open Go.RowKit Go.Sort

/-- what is acknowledged, as it is read -/
def Acs (w : World) (v : Value) (B : List (Int × Int)) : Prop :=
  ∃ ao cap, v = .slice ao B.length cap ∧ ∀ i (hi : i < B.length), ∃ b off, ao = some ⟨b, off, none⟩ ∧ w.cell? ⟨b, off + i * 2, none⟩ = some (.int .u64 (B[i]'hi).1) ∧ w.cell? ⟨b, off + i * 2 + 1, none⟩ = some (.int .u64 (B[i]'hi).2)
theorem Acs.chg {w w' : World} {v : Value} {B : List (Int × Int)} (h : Acs w v B) (c : New w w') : Acs w' v B := by
  obtain ⟨ao, cap, rfl, h⟩ := h
  exact ⟨ao, cap, rfl, fun i hi => by obtain ⟨b, off, e, h1, h2⟩ := h i hi; exact ⟨b, off, e, c.has h1, c.has h2⟩⟩

theorem same38_any (x : Int) (bx : Int) (ab : Nat) (k : Int) (w : World) (h : w.cell? ⟨ab, 0, none⟩ = some (.int .u64 k)) :
    Calls Try.prog 38 #[.agg #[.int .u64 x, .int .u64 bx], .pointer (some ⟨ab, 0, none⟩)] w fun e w' => e = .returned (.bool (x == k)) ∧ New w w' := by
  have hn := World.new_ne w _ h
  go_enter Try.func38, Try.ntmps38
  go_wp2
  go_ret
  exact ⟨rfl, Chg.alloc _ _ _⟩

set_option maxRecDepth 100000 in
set_option maxHeartbeats 1600000 in
theorem index32_any (v : Value) (B : List (Int × Int)) (ab : Nat) (k : Int) (w : World) (h : Acs w v B) (hk : w.cell? ⟨ab, 0, none⟩ = some (.int .u64 k)) (hn : B.length ≤ 2147483647) :
    Calls Try.prog 32 #[v, .func (.func 38) #[] #[.pointer (some ⟨ab, 0, none⟩)]] w fun e w' => (∃ r : Int, e = .returned (.int .i64 r) ∧ (0 ≤ r ↔ k ∈ B.map (·.1)) ∧ (r = -1 ∨ 0 ≤ r)) ∧ New w w' := by
  obtain ⟨ao, cap, rfl, h⟩ := h
  have H := Lib.hid h; have HN := Lib.hid hn; have HK := Lib.hid hk
  clear h hn hk
  go_enter Try.func32, Try.ntmps32
  go_wp2_with fail
  go_loopg [5, 8] B.length (fun n _ j wr => ∃ i : Nat, i ≤ B.length ∧ B.length ≤ n + i ∧ j = .int .i64 i ∧ k ∉ (B.take i).map (·.1) ∧ New w wr)
  case atStart => exact ⟨0, by omega, by omega, rfl, by simp, Chg.refl _ _⟩
  case round =>
    obtain ⟨i, hi, hg, rfl, hnk, hnew⟩ := hrel
    have HG := Lib.hid hg; have HNK := Lib.hid hnk; have HNW := Lib.hid hnew
    clear hg hnk hnew
    have hsm : B.length ≤ 2147483647 := HN.out
    by_cases hlt : i < B.length
    · obtain ⟨b, off, rfl, hc0, hc1⟩ := H.out i hlt
      have p0 := HNW.out.has hc0
      have p1 := HNW.out.has hc1
      have htk : (B.take (i + 1)).map (·.1) = (B.take i).map (·.1) ++ [B[i].1] := by rw [List.take_succ_eq_append_getElem hlt, List.map_append]; rfl
      have hmem : B[i].1 ∈ B.map (·.1) := List.mem_map.2 ⟨_, List.getElem_mem hlt, rfl⟩
      obtain ⟨x, hx⟩ : ∃ x, x = B[i] := ⟨_, rfl⟩
      rw [← hx] at p0 p1 htk hmem
      obtain ⟨xk, xb⟩ := x
      simp only at p0 p1 htk hmem
      have HTK := Lib.hid htk; have HME := Lib.hid hmem
      clear hx htk hmem hc0 hc1
      by_cases hxk : k = xk
      · subst hxk
        have hkk : (k == k) = true := by simp
        go_wp2_with (first
          | (go_at_call 38; refine (same38_any k xb ab k _ (HNW.out.has HK.out)).mono ?_; rw [hkk]; rintro e w1 ⟨rfl, m1⟩)
          | fail)
        refine bodyPost_ret (results_tmp rfl _ _ _) rfl ⟨⟨i, rfl, ⟨fun _ => HME.out, fun _ => by omega⟩, .inr (by omega)⟩, HNW.out.then m1⟩
      · have hxb : (xk == k) = false := by simp; exact fun e => hxk e.symm
        have HXK := Lib.hid hxk; clear hxk
        go_wp2_with (first
          | (go_at_call 38; refine (same38_any xk xb ab k _ (HNW.out.has HK.out)).mono ?_; rw [hxb]; rintro e w1 ⟨rfl, m1⟩)
          | fail)
        go_roundg (gk - 1)
        case measure => have := HG.out; omega
        case rel => exact ⟨i + 1, by omega, by have := HG.out; omega, by go_num, by rw [HTK.out]; have h1 := HNK.out; have h2 := HXK.out; rw [List.mem_append]; rintro (h | h); exact h1 h; simp at h; exact h2 h, HNW.out.then m1⟩
    · have hil : i = B.length := by omega
      subst hil
      have hkl : k ∉ B.map (·.1) := by have := HNK.out; rwa [List.take_length] at this
      have HKL := Lib.hid hkl; clear hkl
      go_wp2_with fail
      refine bodyPost_ret (results_tmp rfl _ _ _) rfl ⟨⟨-1, rfl, ⟨fun h => absurd h (by decide), fun h => absurd h HKL.out⟩, .inl rfl⟩, HNW.out⟩
set_option maxRecDepth 100000 in
theorem contains37_any (v : Value) (B : List (Int × Int)) (ab : Nat) (k : Int) (w : World) (h : Acs w v B) (hk : w.cell? ⟨ab, 0, none⟩ = some (.int .u64 k)) (hn : B.length ≤ 2147483647) :
    Calls Try.prog 37 #[v, .func (.func 38) #[] #[.pointer (some ⟨ab, 0, none⟩)]] w fun e w' => e = .returned (.bool (decide (k ∈ B.map (·.1)))) ∧ New w w' := by
  go_enter Try.func37, Try.ntmps37
  go_wp2_with fail
  refine (index32_any v B ab k w h hk hn).mono ?_
  rintro e w' ⟨⟨r, rfl, hr, hr2⟩, hn'⟩
  have hdd : decide (0 ≤ r) = decide (k ∈ B.map (·.1)) := decide_eq_decide.2 hr
  have HDD := Lib.hid hdd
  clear hr hdd
  go_wp2_with fail
  refine bodyPost_ret (results_tmp rfl _ _ _) rfl ⟨?_, hn'⟩
  rw [← HDD.out]; rfl

def okAcs (B : List (Int × Int)) : Bool := decide ((B.map (·.1)).Nodup ∧ B.length ≤ 20)
set_option maxRecDepth 100000 in
set_option maxHeartbeats 1600000 in
theorem piacks_any (v : Value) (B : List (Int × Int)) (w : World) (h : Acs w v B) (hcap : CapOk v) (hn : B.length ≤ 2147483647) :
    Calls Try.prog 10 #[v] w fun e w' => e = .returned (.bool (okAcs B)) ∧ New w w' := by
  obtain ⟨ao, cap, rfl, h⟩ := h
  have hlc := hcap _ _ _ rfl
  clear hcap
  have hsub : ∀ i, i ≤ B.length → Acs w (.slice ao i cap) (B.take i) := fun i hi => by
    refine ⟨ao, cap, by simp [hi], fun j hj => ?_⟩
    have hj' : j < B.length := by simp at hj; omega
    obtain ⟨b, off, e, h1, h2⟩ := h j hj'
    exact ⟨b, off, e, by rw [List.getElem_take]; exact h1, by rw [List.getElem_take]; exact h2⟩
  have H := Lib.hid h; have HN := Lib.hid hn; have HS := Lib.hid hsub
  clear h hn hsub
  obtain ⟨r, hr⟩ : ∃ r, r = okAcs B := ⟨_, rfl⟩
  rw [← hr]
  have HRR := Lib.hid hr; clear hr
  go_enter Try.func10, Try.ntmps10
  go_wp2_with fail
  go_loopg [3, 4, 7] B.length (fun n _ _ j wr => ∃ i : Nat, i ≤ B.length ∧ B.length ≤ n + i ∧ j = .int .i64 i ∧ ((B.take i).map (·.1)).Nodup ∧ New w wr)
  case atStart => exact ⟨0, by omega, by omega, rfl, by simp, Chg.refl _ _⟩
  case round =>
    obtain ⟨i, hi, hg, rfl, hd, hnew⟩ := hrel
    have HG := Lib.hid hg; have HD := Lib.hid hd; have HNW := Lib.hid hnew
    clear hg hd hnew
    have hsm : B.length ≤ 2147483647 := HN.out
    by_cases hlt : i < B.length
    · obtain ⟨b, off, rfl, hc0, hc1⟩ := H.out i hlt
      have p0 := HNW.out.has hc0
      have p1 := HNW.out.has hc1
      have htk : (B.take (i + 1)).map (·.1) = (B.take i).map (·.1) ++ [B[i].1] := by rw [List.take_succ_eq_append_getElem hlt, List.map_append]; rfl
      obtain ⟨x, hx⟩ : ∃ x, x = B[i] := ⟨_, rfl⟩
      rw [← hx] at p0 p1 htk
      obtain ⟨xk, xb⟩ := x
      simp only at p0 p1 htk
      have HTK := Lib.hid htk
      clear hx htk hc0 hc1
      have n1 : New w (wr.alloc (.cells #[.int .u64 xk, .int .u64 xb] 33)) := HNW.out.then (Chg.alloc _ _ _)
      have N1 := Lib.hid n1; clear n1
      have hck : (wr.alloc (.cells #[.int .u64 xk, .int .u64 xb] 33)).cell? ⟨wr.heap.size, 0, none⟩ = some (.int .u64 xk) := cell_of_block (block_new _ _) rfl
      have HCK := Lib.hid hck; clear hck
      have hxm : decide (xk ∈ (B.take i).map (·.1)) = true ∨ decide (xk ∈ (B.take i).map (·.1)) = false := by cases decide (xk ∈ (B.take i).map (·.1)) <;> simp
      rcases hxm with hxm | hxm
      · have hf : r = false := by
          rw [HRR.out]; unfold okAcs
          simp only [decide_eq_false_iff_not]
          intro h
          have h1 : ((B.take (i + 1)).map (·.1)).Nodup := ((List.take_sublist _ _).map _).nodup h.1
          rw [HTK.out, List.nodup_append] at h1
          exact h1.2.2 xk (of_decide_eq_true hxm) xk (by simp) rfl
        subst hf
        have HXM := Lib.hid hxm; clear hxm
        go_wp2_with fail
        refine (contains37_any (.slice (some ⟨b, off, none⟩) i cap) (B.take i) wr.heap.size xk _ ((HS.out i hi).chg N1.out) HCK.out (by simp; omega)).mono ?_
        rw [HXM.out]
        rintro e w1 ⟨rfl, m1⟩
        go_wp2_with fail
        refine bodyPost_ret (results_tmp rfl _ _ _) rfl ⟨rfl, N1.out.then m1⟩
      · have HXM := Lib.hid hxm; clear hxm
        go_wp2_with fail
        refine (contains37_any (.slice (some ⟨b, off, none⟩) i cap) (B.take i) wr.heap.size xk _ ((HS.out i hi).chg N1.out) HCK.out (by simp; omega)).mono ?_
        rw [HXM.out]
        rintro e w1 ⟨rfl, m1⟩
        go_wp2_with fail
        go_roundg (gk - 1)
        case measure => have := HG.out; omega
        case rel =>
          refine ⟨i + 1, by omega, by have := HG.out; omega, by go_num, ?_, N1.out.then m1⟩
          rw [HTK.out, List.nodup_append]
          exact ⟨HD.out, by simp, fun y hy z hz e => by simp at hz; subst hz; subst e; exact of_decide_eq_false HXM.out hy⟩
    · have hil : i = B.length := by omega
      subst hil
      have hd := HD.out
      rw [List.take_length] at hd
      have he : r = decide (B.length ≤ 20) := by
        rw [HRR.out]; unfold okAcs
        exact decide_eq_decide.2 ⟨fun h => h.2, fun h => ⟨hd, h⟩⟩
      have HE := Lib.hid he
      clear hd he
      go_wp2_with fail
      have hd12 : decide ((B.length : Int) ≤ 20) = decide (B.length ≤ 20) := decide_eq_decide.2 (by omega)
      refine bodyPost_ret (results_tmp rfl _ _ _) rfl ⟨?_, HNW.out⟩
      rw [HE.out, ← hd12]
      rfl
set_option maxRecDepth 100000 in
set_option maxHeartbeats 1600000 in
theorem clone14_any (v : Value) (B : List (Int × Int)) (w : World) (h : Acs w v B) (hn : B.length ≤ 1000000) (hnil : NilOk v) :
    Calls Try.prog 14 #[v] w fun e w' => ∃ v', e = .returned v' ∧ Acs w' v' B ∧ New w w' := by
  obtain ⟨ao, cap, rfl, h⟩ := h
  cases ao with
  | none =>
    have hl : B = [] := by
      cases B with
      | nil => rfl
      | cons x l => obtain ⟨b, off, e, _⟩ := h 0 (by simp); cases e
    subst hl
    have hc := hnil cap rfl
    subst hc
    clear hnil h
    go_enter Try.func14, Try.ntmps14
    go_wp2_with fail
    go_ret
    exact ⟨_, rfl, ⟨none, 0, rfl, fun i hi => by simp at hi⟩, Chg.refl _ _⟩
  | some ad =>
    have hcells : ∀ (j : Nat) (u : Value), (pcs (fun p : Int × Int => Value.int .u64 p.1) (fun p => Value.int .u64 p.2) B)[j]? = some u → ∀ o, (w.alloc o).cell? (ad.add j) = some u := by
      intro j u hu o
      have hj : j < B.length * 2 := by have := (List.getElem?_eq_some_iff.1 hu).1; rwa [pcs_length] at this
      have hi : j / 2 < B.length := by omega
      obtain ⟨b, off, e, h1, h2⟩ := h (j / 2) hi
      cases e
      obtain ⟨e1, e2⟩ := pcs_get (fun p : Int × Int => Value.int .u64 p.1) (fun p => Value.int .u64 p.2) B (j / 2)
      rw [List.getElem?_eq_getElem hi] at e1 e2
      have e3 : (⟨b, off, none⟩ : Addr).add j = ⟨b, off + j, none⟩ := by unfold Addr.add; split <;> simp_all
      rw [e3]
      rcases Nat.mod_two_eq_zero_or_one j with hm | hm
      · have ej : j / 2 * 2 = j := by omega
        rw [ej] at e1 h1
        rw [e1] at hu; cases hu
        exact (Chg.alloc w o (fun _ => False)).has h1
      · have ej : j / 2 * 2 + 1 = j := by omega
        rw [ej] at e2
        rw [Nat.add_assoc, ej] at h2
        rw [e2] at hu; cases hu
        exact (Chg.alloc w o (fun _ => False)).has h2
    have HC := Lib.hid hcells; have HN := Lib.hid hn
    clear hcells hn h hnil
    go_enter Try.func14, Try.ntmps14
    go_wp2_with (first
      | (at_builtin; refine op_appends2 rfl (.tmp 5) (.tmp 6) rfl st24 w.heap.size 0 (.slice (some ⟨w.heap.size, 0, none⟩) 0 0) [] rfl (World.ownsRow_made w #[] 0 (Nat.le_refl _) (by decide) rfl) ad B.length cap (pcs (fun p : Int × Int => Value.int .u64 p.1) (fun p => Value.int .u64 p.2) B) rfl (pcs_length _ _ _) (fun j u hu => HC.out j u hu _) (by intro u hu; simp only [pcs, List.mem_flatMap, List.mem_cons, List.not_mem_nil, or_false] at hu; obtain ⟨x, _, rfl | rfl⟩ := hu <;> rfl) (by have := HN.out; omega) (by simp) ?_; intro v' w1 hown hch)
      | fail)
    go_ret
    rw [Nat.zero_add, List.nil_append] at hown
    have hb : ∀ x : Nat, Value.ownBlock (.slice (some ⟨w.heap.size, 0, none⟩) 0 0) = some x → x = w.heap.size := fun x e => by simp [Value.ownBlock] at e; exact e.symm
    exact ⟨v', rfl, pairs_of_owns hown, (Chg.alloc w _ _).trans hch (fun _ _ h => h) (fun i hi e => by have := hb i e; omega)⟩
end Go.Proofs.Ytcgccoigjcdjeaa
