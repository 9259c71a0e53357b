/- quorum.JointConfig.CommittedIndex, impl.Committed. Condition: at most 12 members a list, what is acknowledged at least 0, none twice. -/
import Derived.Test.YtcgccoigjcdjeaaQuZ
import Derived.Test.YtcgccoigjcdjeaaOpZ
namespace Go.Proofs.Ytcgccoigjcdjeaa
open Go.RowKit Go.Sort

/-- what is acknowledged, as it is read -/
def Acs (w : World) (v : Value) (B : List (Int × Int)) : Prop :=
  ∃ ao cap, v = .slice ao B.length cap ∧ ∀ i (hi : i < B.length), ∃ b off, ao = some ⟨b, off, none⟩ ∧ w.cell? ⟨b, off + i * 2, none⟩ = some (.int .u64 (B[i]'hi).1) ∧ w.cell? ⟨b, off + i * 2 + 1, none⟩ = some (.int .u64 (B[i]'hi).2)
theorem Acs.chg {w w' : World} {v : Value} {B : List (Int × Int)} (h : Acs w v B) (c : New w w') : Acs w' v B := by
  obtain ⟨ao, cap, rfl, h⟩ := h
  exact ⟨ao, cap, rfl, fun i hi => by obtain ⟨b, off, e, h1, h2⟩ := h i hi; exact ⟨b, off, e, c.has h1, c.has h2⟩⟩

theorem same38_any (x : Int) (bx : Int) (ab : Nat) (k : Int) (w : World) (h : w.cell? ⟨ab, 0, none⟩ = some (.int .u64 k)) :
    Calls Try.prog 38 #[.agg #[.int .u64 x, .int .u64 bx], .pointer (some ⟨ab, 0, none⟩)] w fun e w' => e = .returned (.bool (x == k)) ∧ New w w' := by
  have hn := World.new_ne w _ h
  go_enter Try.func38, Try.ntmps38
  go_wp2
  go_ret
  exact ⟨rfl, Chg.alloc _ _ _⟩

set_option maxRecDepth 100000 in
set_option maxHeartbeats 1600000 in
theorem index32_any (v : Value) (B : List (Int × Int)) (ab : Nat) (k : Int) (w : World) (h : Acs w v B) (hk : w.cell? ⟨ab, 0, none⟩ = some (.int .u64 k)) (hn : B.length ≤ 2147483647) :
    Calls Try.prog 32 #[v, .func (.func 38) #[] #[.pointer (some ⟨ab, 0, none⟩)]] w fun e w' => (∃ r : Int, e = .returned (.int .i64 r) ∧ (0 ≤ r ↔ k ∈ B.map (·.1)) ∧ (r = -1 ∨ 0 ≤ r)) ∧ New w w' := by
  obtain ⟨ao, cap, rfl, h⟩ := h
  have H := Lib.hid h; have HN := Lib.hid hn; have HK := Lib.hid hk
  clear h hn hk
  go_enter Try.func32, Try.ntmps32
  go_wp2_with fail
  go_loopg [5, 8] B.length (fun n _ j wr => ∃ i : Nat, i ≤ B.length ∧ B.length ≤ n + i ∧ j = .int .i64 i ∧ k ∉ (B.take i).map (·.1) ∧ New w wr)
  case atStart => exact ⟨0, by omega, by omega, rfl, by simp, Chg.refl _ _⟩
  case round =>
    obtain ⟨i, hi, hg, rfl, hnk, hnew⟩ := hrel
    have HG := Lib.hid hg; have HNK := Lib.hid hnk; have HNW := Lib.hid hnew
    clear hg hnk hnew
    have hsm : B.length ≤ 2147483647 := HN.out
    by_cases hlt : i < B.length
    · obtain ⟨b, off, rfl, hc0, hc1⟩ := H.out i hlt
      have p0 := HNW.out.has hc0
      have p1 := HNW.out.has hc1
      have htk : (B.take (i + 1)).map (·.1) = (B.take i).map (·.1) ++ [B[i].1] := by rw [List.take_succ_eq_append_getElem hlt, List.map_append]; rfl
      have hmem : B[i].1 ∈ B.map (·.1) := List.mem_map.2 ⟨_, List.getElem_mem hlt, rfl⟩
      obtain ⟨x, hx⟩ : ∃ x, x = B[i] := ⟨_, rfl⟩
      rw [← hx] at p0 p1 htk hmem
      obtain ⟨xk, xb⟩ := x
      simp only at p0 p1 htk hmem
      have HTK := Lib.hid htk; have HME := Lib.hid hmem
      clear hx htk hmem hc0 hc1
      by_cases hxk : k = xk
      · subst hxk
        have hkk : (k == k) = true := by simp
        go_wp2_with (first
          | (go_at_call 38; refine (same38_any k xb ab k _ (HNW.out.has HK.out)).mono ?_; rw [hkk]; rintro e w1 ⟨rfl, m1⟩)
          | fail)
        refine bodyPost_ret (results_tmp rfl _ _ _) rfl ⟨⟨i, rfl, ⟨fun _ => HME.out, fun _ => by omega⟩, .inr (by omega)⟩, HNW.out.then m1⟩
      · have hxb : (xk == k) = false := by simp; exact fun e => hxk e.symm
        have HXK := Lib.hid hxk; clear hxk
        go_wp2_with (first
          | (go_at_call 38; refine (same38_any xk xb ab k _ (HNW.out.has HK.out)).mono ?_; rw [hxb]; rintro e w1 ⟨rfl, m1⟩)
          | fail)
        go_roundg (gk - 1)
        case measure => have := HG.out; omega
        case rel => exact ⟨i + 1, by omega, by have := HG.out; omega, by go_num, by rw [HTK.out]; have h1 := HNK.out; have h2 := HXK.out; rw [List.mem_append]; rintro (h | h); exact h1 h; simp at h; exact h2 h, HNW.out.then m1⟩
    · have hil : i = B.length := by omega
      subst hil
      have hkl : k ∉ B.map (·.1) := by have := HNK.out; rwa [List.take_length] at this
      have HKL := Lib.hid hkl; clear hkl
      go_wp2_with fail
      refine bodyPost_ret (results_tmp rfl _ _ _) rfl ⟨⟨-1, rfl, ⟨fun h => absurd h (by decide), fun h => absurd h HKL.out⟩, .inl rfl⟩, HNW.out⟩
set_option maxRecDepth 100000 in
theorem contains37_any (v : Value) (B : List (Int × Int)) (ab : Nat) (k : Int) (w : World) (h : Acs w v B) (hk : w.cell? ⟨ab, 0, none⟩ = some (.int .u64 k)) (hn : B.length ≤ 2147483647) :
    Calls Try.prog 37 #[v, .func (.func 38) #[] #[.pointer (some ⟨ab, 0, none⟩)]] w fun e w' => e = .returned (.bool (decide (k ∈ B.map (·.1)))) ∧ New w w' := by
  go_enter Try.func37, Try.ntmps37
  go_wp2_with fail
  refine (index32_any v B ab k w h hk hn).mono ?_
  rintro e w' ⟨⟨r, rfl, hr, hr2⟩, hn'⟩
  have hdd : decide (0 ≤ r) = decide (k ∈ B.map (·.1)) := decide_eq_decide.2 hr
  have HDD := Lib.hid hdd
  clear hr hdd
  go_wp2_with fail
  refine bodyPost_ret (results_tmp rfl _ _ _) rfl ⟨?_, hn'⟩
  rw [← HDD.out]; rfl

def okAcs (B : List (Int × Int)) : Bool := decide ((B.map (·.1)).Nodup ∧ B.length ≤ 20)
set_option maxRecDepth 100000 in
set_option maxHeartbeats 1600000 in
theorem piacks_any (v : Value) (B : List (Int × Int)) (w : World) (h : Acs w v B) (hcap : CapOk v) (hn : B.length ≤ 2147483647) :
    Calls Try.prog 10 #[v] w fun e w' => e = .returned (.bool (okAcs B)) ∧ New w w' := by
  obtain ⟨ao, cap, rfl, h⟩ := h
  have hlc := hcap _ _ _ rfl
  clear hcap
  have hsub : ∀ i, i ≤ B.length → Acs w (.slice ao i cap) (B.take i) := fun i hi => by
    refine ⟨ao, cap, by simp [hi], fun j hj => ?_⟩
    have hj' : j < B.length := by simp at hj; omega
    obtain ⟨b, off, e, h1, h2⟩ := h j hj'
    exact ⟨b, off, e, by rw [List.getElem_take]; exact h1, by rw [List.getElem_take]; exact h2⟩
  have H := Lib.hid h; have HN := Lib.hid hn; have HS := Lib.hid hsub
  clear h hn hsub
  obtain ⟨r, hr⟩ : ∃ r, r = okAcs B := ⟨_, rfl⟩
  rw [← hr]
  have HRR := Lib.hid hr; clear hr
  go_enter Try.func10, Try.ntmps10
  go_wp2_with fail
  go_loopg [3, 4, 7] B.length (fun n _ _ j wr => ∃ i : Nat, i ≤ B.length ∧ B.length ≤ n + i ∧ j = .int .i64 i ∧ ((B.take i).map (·.1)).Nodup ∧ New w wr)
  case atStart => exact ⟨0, by omega, by omega, rfl, by simp, Chg.refl _ _⟩
  case round =>
    obtain ⟨i, hi, hg, rfl, hd, hnew⟩ := hrel
    have HG := Lib.hid hg; have HD := Lib.hid hd; have HNW := Lib.hid hnew
    clear hg hd hnew
    have hsm : B.length ≤ 2147483647 := HN.out
    by_cases hlt : i < B.length
    · obtain ⟨b, off, rfl, hc0, hc1⟩ := H.out i hlt
      have p0 := HNW.out.has hc0
      have p1 := HNW.out.has hc1
      have htk : (B.take (i + 1)).map (·.1) = (B.take i).map (·.1) ++ [B[i].1] := by rw [List.take_succ_eq_append_getElem hlt, List.map_append]; rfl
      obtain ⟨x, hx⟩ : ∃ x, x = B[i] := ⟨_, rfl⟩
      rw [← hx] at p0 p1 htk
      obtain ⟨xk, xb⟩ := x
      simp only at p0 p1 htk
      have HTK := Lib.hid htk
      clear hx htk hc0 hc1
      have n1 : New w (wr.alloc (.cells #[.int .u64 xk, .int .u64 xb] 33)) := HNW.out.then (Chg.alloc _ _ _)
      have N1 := Lib.hid n1; clear n1
      have hck : (wr.alloc (.cells #[.int .u64 xk, .int .u64 xb] 33)).cell? ⟨wr.heap.size, 0, none⟩ = some (.int .u64 xk) := cell_of_block (block_new _ _) rfl
      have HCK := Lib.hid hck; clear hck
      have hxm : decide (xk ∈ (B.take i).map (·.1)) = true ∨ decide (xk ∈ (B.take i).map (·.1)) = false := by cases decide (xk ∈ (B.take i).map (·.1)) <;> simp
      rcases hxm with hxm | hxm
      · have hf : r = false := by
          rw [HRR.out]; unfold okAcs
          simp only [decide_eq_false_iff_not]
          intro h
          have h1 : ((B.take (i + 1)).map (·.1)).Nodup := ((List.take_sublist _ _).map _).nodup h.1
          rw [HTK.out, List.nodup_append] at h1
          exact h1.2.2 xk (of_decide_eq_true hxm) xk (by simp) rfl
        subst hf
        have HXM := Lib.hid hxm; clear hxm
        go_wp2_with fail
        refine (contains37_any (.slice (some ⟨b, off, none⟩) i cap) (B.take i) wr.heap.size xk _ ((HS.out i hi).chg N1.out) HCK.out (by simp; omega)).mono ?_
        rw [HXM.out]
        rintro e w1 ⟨rfl, m1⟩
        go_wp2_with fail
        refine bodyPost_ret (results_tmp rfl _ _ _) rfl ⟨rfl, N1.out.then m1⟩
      · have HXM := Lib.hid hxm; clear hxm
        go_wp2_with fail
        refine (contains37_any (.slice (some ⟨b, off, none⟩) i cap) (B.take i) wr.heap.size xk _ ((HS.out i hi).chg N1.out) HCK.out (by simp; omega)).mono ?_
        rw [HXM.out]
        rintro e w1 ⟨rfl, m1⟩
        go_wp2_with fail
        go_roundg (gk - 1)
        case measure => have := HG.out; omega
        case rel =>
          refine ⟨i + 1, by omega, by have := HG.out; omega, by go_num, ?_, N1.out.then m1⟩
          rw [HTK.out, List.nodup_append]
          exact ⟨HD.out, by simp, fun y hy z hz e => by simp at hz; subst hz; subst e; exact of_decide_eq_false HXM.out hy⟩
    · have hil : i = B.length := by omega
      subst hil
      have hd := HD.out
      rw [List.take_length] at hd
      have he : r = decide (B.length ≤ 20) := by
        rw [HRR.out]; unfold okAcs
        exact decide_eq_decide.2 ⟨fun h => h.2, fun h => ⟨hd, h⟩⟩
      have HE := Lib.hid he
      clear hd he
      go_wp2_with fail
      have hd12 : decide ((B.length : Int) ≤ 20) = decide (B.length ≤ 20) := decide_eq_decide.2 (by omega)
      refine bodyPost_ret (results_tmp rfl _ _ _) rfl ⟨?_, HNW.out⟩
      rw [HE.out, ← hd12]
      rfl
set_option maxRecDepth 100000 in
set_option maxHeartbeats 1600000 in
theorem clone14_any (v : Value) (B : List (Int × Int)) (w : World) (h : Acs w v B) (hn : B.length ≤ 1000000) (hnil : NilOk v) :
    Calls Try.prog 14 #[v] w fun e w' => ∃ v', e = .returned v' ∧ Acs w' v' B ∧ New w w' := by
  obtain ⟨ao, cap, rfl, h⟩ := h
  cases ao with
  | none =>
    have hl : B = [] := by
      cases B with
      | nil => rfl
      | cons x l => obtain ⟨b, off, e, _⟩ := h 0 (by simp); cases e
    subst hl
    have hc := hnil cap rfl
    subst hc
    clear hnil h
    go_enter Try.func14, Try.ntmps14
    go_wp2_with fail
    go_ret
    exact ⟨_, rfl, ⟨none, 0, rfl, fun i hi => by simp at hi⟩, Chg.refl _ _⟩
  | some ad =>
    have hcells : ∀ (j : Nat) (u : Value), (pcs (fun p : Int × Int => Value.int .u64 p.1) (fun p => Value.int .u64 p.2) B)[j]? = some u → ∀ o, (w.alloc o).cell? (ad.add j) = some u := by
      intro j u hu o
      have hj : j < B.length * 2 := by have := (List.getElem?_eq_some_iff.1 hu).1; rwa [pcs_length] at this
      have hi : j / 2 < B.length := by omega
      obtain ⟨b, off, e, h1, h2⟩ := h (j / 2) hi
      cases e
      obtain ⟨e1, e2⟩ := pcs_get (fun p : Int × Int => Value.int .u64 p.1) (fun p => Value.int .u64 p.2) B (j / 2)
      rw [List.getElem?_eq_getElem hi] at e1 e2
      have e3 : (⟨b, off, none⟩ : Addr).add j = ⟨b, off + j, none⟩ := by unfold Addr.add; split <;> simp_all
      rw [e3]
      rcases Nat.mod_two_eq_zero_or_one j with hm | hm
      · have ej : j / 2 * 2 = j := by omega
        rw [ej] at e1 h1
        rw [e1] at hu; cases hu
        exact (Chg.alloc w o (fun _ => False)).has h1
      · have ej : j / 2 * 2 + 1 = j := by omega
        rw [ej] at e2
        rw [Nat.add_assoc, ej] at h2
        rw [e2] at hu; cases hu
        exact (Chg.alloc w o (fun _ => False)).has h2
    have HC := Lib.hid hcells; have HN := Lib.hid hn
    clear hcells hn h hnil
    go_enter Try.func14, Try.ntmps14
    go_wp2_with (first
      | (at_builtin; refine op_appends2 rfl (.tmp 5) (.tmp 6) rfl st24 w.heap.size 0 (.slice (some ⟨w.heap.size, 0, none⟩) 0 0) [] rfl (World.ownsRow_made w #[] 0 (Nat.le_refl _) (by decide) rfl) ad B.length cap (pcs (fun p : Int × Int => Value.int .u64 p.1) (fun p => Value.int .u64 p.2) B) rfl (pcs_length _ _ _) (fun j u hu => HC.out j u hu _) (by intro u hu; simp only [pcs, List.mem_flatMap, List.mem_cons, List.not_mem_nil, or_false] at hu; obtain ⟨x, _, rfl | rfl⟩ := hu <;> rfl) (by have := HN.out; omega) (by simp) ?_; intro v' w1 hown hch)
      | fail)
    go_ret
    rw [Nat.zero_add, List.nil_append] at hown
    have hb : ∀ x : Nat, Value.ownBlock (.slice (some ⟨w.heap.size, 0, none⟩) 0 0) = some x → x = w.heap.size := fun x e => by simp [Value.ownBlock] at e; exact e.symm
    exact ⟨v', rfl, pairs_of_owns hown, (Chg.alloc w _ _).trans hch (fun _ _ h => h) (fun i hi e => by have := hb i e; omega)⟩
end Go.Proofs.Ytcgccoigjcdjeaa
namespace Go.Proofs.Ytcgccoigjcdjeaa
open Go.RowKit Go.Sort

/-- what was acknowledged: a member, an index -/
def ackd (A : List (Int × Int)) (k : Int) : Option Int := (A.find? (fun p => p.1 == k)).map (·.2)
def ackV (A : List (Int × Int)) : List (Int × Value) := A.map fun p => (p.1, .int .u64 p.2)
theorem look_ackV (A : List (Int × Int)) (k : Int) : look (ackV A) k = (ackd A k).map (Value.int .u64) := by
  induction A with
  | nil => rfl
  | cons p A ih =>
    unfold look ackd ackV at *
    by_cases h : p.1 = k
    · simp [h]
    · have h' : (p.1 == k) = false := by simpa using h
      simp only [List.map_cons, List.find?_cons, h']
      simpa using ih
set_option maxRecDepth 100000 in
theorem acked_any (o : Option Nat) (A : List (Int × Int)) (k : Int) (w : World) (h : MapV w o (ackV A)) :
    Calls Try.prog 135 #[.map o, .int .u64 k] w fun e w' => e = .returned (.tuple #[.int .u64 ((ackd A k).getD 0), .bool (ackd A k).isSome]) ∧ New w w' := by
  have H := Lib.hid h; clear h
  have hl := look_ackV A k
  cases hk : ackd A k with
  | none =>
    rw [hk] at hl
    simp only [Option.map_none] at hl
    go_enter Try.func135, Try.ntmps135
    go_wp2_with (first | (at_lookup; refine op_lookup_ok rfl _ _ _ rfl mt67 rfl H.out rfl ?_) | fail)
    go_ret2
    exact ⟨rfl, by first | exact Chg.refl _ _ | exact Chg.alloc _ _ _⟩
  | some n =>
    rw [hk] at hl
    simp only [Option.map_some] at hl
    go_enter Try.func135, Try.ntmps135
    go_wp2_with (first | (at_lookup; refine op_lookup_ok rfl _ _ _ rfl mt67 rfl H.out rfl ?_) | fail)
    go_ret2
    exact ⟨rfl, by first | exact Chg.refl _ _ | exact Chg.alloc _ _ _⟩
end Go.Proofs.Ytcgccoigjcdjeaa
namespace Go.Proofs.Ytcgccoigjcdjeaa
open Go.RowKit Go.Sort

def ackL (A : List (Int × Int)) (s : List Int) : List Int := s.filterMap (ackd A)
theorem ackL_snoc (A : List (Int × Int)) (s : List Int) (k : Int) : ackL A (s ++ [k]) = ackL A s ++ (ackd A k).toList := by
  unfold ackL; rw [List.filterMap_append]
  cases h : ackd A k <;> simp [h]
theorem ackL_le (A : List (Int × Int)) (s : List Int) : (ackL A s).length ≤ s.length := List.length_filterMap_le _ _
/-- the slice while it is filled from the right -/
def fillL (n : Nat) (v : List Int) : List Int := List.replicate (n - v.length) 0 ++ v.reverse
theorem fillL_length (n : Nat) (v : List Int) (h : v.length ≤ n) : (fillL n v).length = n := by simp [fillL]; omega
theorem fillL_set (n : Nat) (v : List Int) (x : Int) (h : v.length < n) : (fillL n v).set (n - 1 - v.length) x = fillL n (v ++ [x]) := by
  unfold fillL
  have e : n - v.length = (n - 1 - v.length) + 1 := by omega
  rw [e, List.replicate_succ', List.append_assoc, List.set_append_right _ _ (by simp)]
  simp
  omega
theorem fill_perm (A : List (Int × Int)) (s : List Int) : (fillL s.length (ackL A s)).Perm (s.map fun x => (ackd A x).getD 0) := by
  have h : ∀ s : List Int, (List.replicate (s.length - (ackL A s).length) 0 ++ ackL A s).Perm (s.map fun x => (ackd A x).getD 0) := by
    intro s
    induction s with
    | nil => simp [ackL]
    | cons x s ih =>
      have hle := ackL_le A s
      cases hx : ackd A x with
      | none =>
        have e : ackL A (x :: s) = ackL A s := by simp [ackL, hx]
        rw [e, List.map_cons, hx, List.length_cons, show s.length + 1 - (ackL A s).length = (s.length - (ackL A s).length) + 1 by omega, List.replicate_succ]
        exact ih.cons 0
      | some v =>
        have e : ackL A (x :: s) = v :: ackL A s := by simp [ackL, hx]
        rw [e, List.map_cons, hx, List.length_cons, List.length_cons, show s.length + 1 - ((ackL A s).length + 1) = s.length - (ackL A s).length by omega]
        exact List.perm_middle.trans (ih.cons v)
  exact ((List.reverse_perm _).append_left _).trans (h s)

set_option maxRecDepth 100000 in
theorem run_sliceAt (w : World) (b n : Nat) (h : n ≤ 7) : (Instr.sliceAt 161 (.pointer (some ⟨b, 0, none⟩)) none (some (.int .i64 n)) none).run Try.prog w = .ok (.slice (some ⟨b, 0, none⟩) n 7) w := by
  have hc : n = 0 ∨ n = 1 ∨ n = 2 ∨ n = 3 ∨ n = 4 ∨ n = 5 ∨ n = 6 ∨ n = 7 := by omega
  rcases hc with rfl | rfl | rfl | rfl | rfl | rfl | rfl | rfl <;> rfl
theorem op_make22 {w : World} {ops : Array Oper} {rest : List Oper} {o : Oper} {a : Act} {Q : Exit → Act → World → Prop} (hg : o.guard = none) (l c : Operand) (hop : o.op = Op.makeSlice 22 l c) (n : Nat) (hl : a.eval l = .int .i64 n) (hc : a.eval c = .int .i64 n) (hn : n ≤ 1000)
    (hK : ∀ w', RowV w' w.heap.size 28 (List.replicate n (0 : Int)).toArray [] → New w w' → w'.heap.size = w.heap.size + 1 → wpList Try.prog ops Q rest (a.put o.dst (.slice (some ⟨w.heap.size, 0, none⟩) n n)) w') : wpList Try.prog ops Q (o :: rest) a w := by
  refine wpList_plain hg fun K' hK' => ?_
  obtain ⟨i, h1', h2, h3, h4, h5, h6⟩ := st22.ex
  have h := run_make (P := Try.prog) w 22 28 i (.int .u64 0) h1' h2 h3 .i64 .i64 n n (by omega) (Int.le_refl _) (by rw [h5]; omega) (by omega)
  unfold Oper.wp
  simp [execOp, hop, hl, hc, h, Result.andThen]
  refine hK' _ _ (hK _ ?_ (Chg.alloc _ _ _) (by simp))
  unfold RowV
  rw [block_new]
  simp [madeCells, h4, Value.cells]
  apply Array.ext
  · simp
  · intro j h1 h2; simp [Nat.mod_one]
theorem sort12n (g e cap n : Nat) (d : Array Int) (rest : List Value) (w : World) (hr : RowV w g e d rest) (hn : d.size = n) (hs : n ≤ 12) : Calls Try.prog 34 #[.slice (some ⟨g, 0, none⟩) n cap] w (Sorted w g e d rest) := by
  subst hn
  exact sort12 g e cap d rest w hr hs
/-- what CommittedIndex hands back -/
def CommTo (A : List (Int × Int)) (s : List Int) (r : Int) : Prop :=
  if s = [] then r = 18446744073709551615 else ∃ d : List Int, d.Perm (s.map fun x => (ackd A x).getD 0) ∧ d.Pairwise (· ≤ ·) ∧ d[s.length - (s.length / 2 + 1)]? = some r
set_option maxRecDepth 100000 in
set_option maxHeartbeats 1600000 in
theorem comm66_any (o m : Option Nat) (s : List Int) (A : List (Int × Int)) (w : World) (hs : SetV w o s) (hm : MapV w m (ackV A)) (hn : s.length ≤ 12) :
    Calls Try.prog 66 #[.map o, .iface 67 (.map m)] w fun e w' => (∃ r, e = .returned (.int .u64 r) ∧ CommTo A s r) ∧ New w w' := by
  have HS := Lib.hid hs; have HM := Lib.hid hm; have HN := Lib.hid hn
  clear hs hm hn
  by_cases hl : s = []
  · subst hl
    go_enter Try.func66, Try.ntmps66
    go_wp2_with (first | (at_len; refine set_len rfl _ _ rfl mt70 rfl HS.out ?_) | fail)
    refine bodyPost_ret (results_tmp rfl _ _ _) rfl ⟨⟨_, rfl, by unfold CommTo; rw [if_pos rfl]⟩, Chg.refl _ _⟩
  · have hlen : 0 < s.length := List.length_pos_iff.2 hl
    have hlb : ((s.length : Int) == 0) = false := by simpa using hl
    have HL := Lib.hid hl
    clear hl
    by_cases h7 : s.length ≤ 7
    · have hd7 : decide ((s.length : Int) ≤ 7) = true := by simp; omega
      have hsl : ∀ w b, (Instr.sliceAt 161 (.pointer (some ⟨b, 0, none⟩)) none (some (.int .i64 s.length)) none).run Try.prog w = .ok (.slice (some ⟨b, 0, none⟩) s.length 7) w := fun w b => run_sliceAt w b s.length h7
      go_enter Try.func66, Try.ntmps66
      go_wp2_with (first | (at_len; refine set_len rfl _ _ rfl mt70 rfl HS.out ?_) | (at_range; refine set_range rfl _ _ rfl mt70 rfl (HS.out.alloc _) ?_; intro w1 r1 s1 z1) | fail)
      clear hsl hd7 hlb
      go_frame
      simp only [World.size_alloc] at r1 z1 ⊢
      have hrow0 : ∃ rest : List Value, rest.length = 7 - s.length ∧ RowV (w.alloc (.cells #[.int .u64 0, .int .u64 0, .int .u64 0, .int .u64 0, .int .u64 0, .int .u64 0, .int .u64 0] 161)) w.heap.size 161 (fillL s.length []).toArray rest := by
        refine ⟨List.replicate (7 - s.length) (.int .u64 0), by simp, ?_⟩
        unfold RowV
        rw [block_new]
        congr 2
        have e : (#[.int .u64 0, .int .u64 0, .int .u64 0, .int .u64 0, .int .u64 0, .int .u64 0, .int .u64 0] : Array Value) = (List.replicate 7 (Value.int .u64 0)).toArray := rfl
        rw [e]
        congr 1
        simp only [fillL, List.length_nil, Nat.sub_zero, List.reverse_nil, List.append_nil, List.map_replicate, List.replicate_append_replicate]
        congr 1; omega
      obtain ⟨rest, hrl, hrow⟩ := hrow0
      go_loopg [8, 9, 10, 11] s.length (fun n j _ _ _ wr => ∃ done : List Int, s.length ≤ done.length + n ∧ RangS wr (w.heap.size + 1) o s done ∧ j = .int .i64 ((s.length : Int) - 1 - ((ackL A done).length : Int)) ∧ RowV wr w.heap.size 161 (fillL s.length (ackL A done)).toArray rest ∧ New w wr)
      case atStart => exact ⟨[], by simp, r1, by simp [ackL], hrow.chg s1.chg (by simp), (Chg.alloc w _ _).then s1.chg⟩
      case round =>
        obtain ⟨done, hg, hr, rfl, hrow, hnew⟩ := hrel
        have hdl := hr.len
        have hal := ackL_le A done
        have HG := Lib.hid hg; have HR := Lib.hid hr; have HRW := Lib.hid hrow; have HNW := Lib.hid hnew
        clear hg hr hrow hnew r1 s1 z1
        have hfl : (fillL s.length (ackL A done)).length = s.length := fillL_length _ _ (by omega)
        have HFL := Lib.hid hfl; clear hfl
        go_wp2_with (first | (at_next; refine set_next rfl _ rfl rfl HR.out ?_ ?_) | fail)
        · intro hp
          have HP := Lib.hid hp; clear hp
          go_wp2_with (first
            | (go_at_call 34; refine (sort12n w.heap.size 161 7 s.length (fillL s.length (ackL A done)).toArray rest _ HRW.out (by simpa using HFL.out) HN.out).mono ?_; rintro e w3 ⟨rfl, d', hr3, hd1, hd2, hd3, hc3⟩; have hds : d'.size = s.length := (by simpa [HFL.out] using hd1); have cq := hr3.cell (t := s.length - (s.length / 2 + 1)) (by omega))
            | fail)
          refine bodyPost_ret (results_tmp rfl _ _ _) rfl ⟨⟨_, rfl, ?_⟩, HNW.out.trans hc3 (fun _ _ h => h) (fun i hi e => by omega)⟩
          unfold CommTo
          rw [if_neg HL.out]
          have hp1 : (fillL s.length (ackL A done)).Perm (s.map fun x => (ackd A x).getD 0) := by
            have h1 := fill_perm A done
            rw [HP.out.length_eq] at h1
            exact h1.trans (HP.out.map _)
          refine ⟨d'.toList, (by simpa using hd2 : d'.toList.Perm (fillL s.length (ackL A done))).trans hp1, hd3, ?_⟩
          have hlt : s.length - (s.length / 2 + 1) < d'.size := by omega
          rw [Array.getElem?_toList, Array.getElem?_eq_getElem hlt, getElem!_pos d' _ hlt]
        · intro k w2 hk hnk r2 s2 z2 hen
          have hm2 := (MapV.chg HM.out HNW.out (by simp)).chg s2.chg (fun i e e' => by
            have h := HM.out
            rw [e] at h
            have := MapB.lt h
            omega)
          have hrow2 := HRW.out.chg s2.chg (by omega)
          have hnw2 : New w w2 := HNW.out.trans s2.chg (fun _ _ h => h) (fun i hi e => by omega)
          have hl2 := r2.len
          simp only [List.length_append, List.length_cons, List.length_nil] at hl2
          have hsn := ackL_snoc A done k
          have HM2 := Lib.hid hm2; have HRW2 := Lib.hid hrow2; have HNW2 := Lib.hid hnw2; have HSN := Lib.hid hsn
          clear hm2 hrow2 hnw2 hsn
          obtain ⟨t, ht⟩ : ∃ t : Nat, (s.length : Int) - 1 - ((ackL A done).length : Int) = (t : Int) := ⟨s.length - 1 - (ackL A done).length, by omega⟩
          have htl : t = s.length - 1 - (ackL A done).length := by omega
          rw [ht]
          have cq := HRW2.out.cell (t := t) (by have := HFL.out; simp; omega)
          have fq := HRW2.out.free t
          have HT := Lib.hid htl; have HTT := Lib.hid ht
          have htn : t < s.length := by omega
          clear htl ht
          cases hb : ackd A k with
          | none =>
            rw [hb] at HSN
            go_wp2_with (first
              | (go_at_call 135; refine (acked_any m A k _ HM2.out).mono ?_; rw [hb]; rintro e w3 ⟨rfl, m3⟩)
              | fail)
            go_roundg (gk - 1)
            case measure => have := HG.out; omega
            case rel =>
              have e : ackL A (done ++ [k]) = ackL A done := by rw [HSN.out]; simp
              exact ⟨done ++ [k], by have := HG.out; simp; omega, r2.chg m3 (by simp) (by simp), by rw [e, HTT.out], by rw [e]; exact HRW2.out.chg m3 (by simp), HNW2.out.then m3⟩
          | some v =>
            rw [hb] at HSN
            go_wp2_with (first
              | (go_at_call 135; refine (acked_any m A k _ HM2.out).mono ?_; rw [hb]; rintro e w3 ⟨rfl, m3⟩; have cq3 := m3.has cq; have fq3 := (HRW2.out.chg m3 (by simp)).free t)
              | fail)
            go_roundg (gk - 1)
            case measure => have := HG.out; omega
            case rel =>
              have e : ackL A (done ++ [k]) = ackL A done ++ [v] := by rw [HSN.out]; simp
              have htt := HTT.out
              have hch : Chg w3 (w3.setCell ⟨w.heap.size, t, none⟩ (.int .u64 v)) (fun i => i = w.heap.size) := Chg.setCell _ _ _ _ (fun _ => rfl)
              have hob : ∀ b, o = some b → b < w.heap.size := fun b e => by have h := HS.out; rw [e] at h; exact h.lt
              refine ⟨done ++ [k], by have := HG.out; simp; omega, (r2.chg m3 (by simp) (by simp)).chg hch (by omega) (fun b e e' => by have := hob b e; omega), ?_, ?_, (HNW2.out.then m3).trans hch (fun _ _ h => h) (fun i hi e => by omega)⟩
              · rw [e]; simp only [List.length_append, List.length_cons, List.length_nil]; congr 1; omega
              · have h1 := (HRW2.out.chg m3 (by simp)).set (t := t) (by have := HFL.out; simp; omega) v
                have h2 : ((fillL s.length (ackL A done)).toArray.setIfInBounds t v) = (fillL s.length (ackL A done ++ [v])).toArray := by
                  rw [List.setIfInBounds_toArray, HT.out, fillL_set _ _ _ (by omega)]
                rw [h2] at h1
                rw [e]; exact h1
    · have hd7 : decide ((s.length : Int) ≤ 7) = false := by simp; omega
      have h12 : s.length ≤ 12 := HN.out
      go_enter Try.func66, Try.ntmps66
      go_wp2_with (first | (at_len; refine set_len rfl _ _ rfl mt70 rfl HS.out ?_) | (at_make; refine op_make22 rfl _ _ rfl s.length rfl rfl (by have := HN.out; omega) ?_; intro w0 hrow nw0 zw0; have HRW0 := Lib.hid hrow; have NW0 := Lib.hid nw0; have ZW0 := Lib.hid zw0; clear hrow nw0 zw0) | (at_range; refine set_range rfl _ _ rfl mt70 rfl (HS.out.chg ((Chg.alloc w _ (fun _ => False)).then NW0.out) (by simp)) ?_; intro w1 r1 s1 z1) | fail)
      clear hd7 hlb
      go_frame
      have hzz := ZW0.out
      simp only [World.size_alloc] at hzz
      rw [hzz] at r1 z1 ⊢
      obtain ⟨rest, hrl⟩ : ∃ rest : List Value, rest = [] := ⟨[], rfl⟩
      have hrow : RowV w0 (w.heap.size + 1) 28 (fillL s.length []).toArray rest := by
        have h := HRW0.out
        rw [World.size_alloc] at h
        rw [hrl]
        simpa [fillL] using h
      go_loopg [8, 9, 10, 11] s.length (fun n j _ _ _ wr => ∃ done : List Int, s.length ≤ done.length + n ∧ RangS wr (w.heap.size + 1 + 1) o s done ∧ j = .int .i64 ((s.length : Int) - 1 - ((ackL A done).length : Int)) ∧ RowV wr (w.heap.size + 1) 28 (fillL s.length (ackL A done)).toArray rest ∧ New w wr)
      case atStart => exact ⟨[], by simp, r1, by simp [ackL], hrow.chg s1.chg (by simp), ((Chg.alloc w _ _).then NW0.out).then s1.chg⟩
      case round =>
        obtain ⟨done, hg, hr, rfl, hrow, hnew⟩ := hrel
        have hdl := hr.len
        have hal := ackL_le A done
        have HG := Lib.hid hg; have HR := Lib.hid hr; have HRW := Lib.hid hrow; have HNW := Lib.hid hnew
        clear hg hr hrow hnew r1 s1 z1
        have hfl : (fillL s.length (ackL A done)).length = s.length := fillL_length _ _ (by omega)
        have HFL := Lib.hid hfl; clear hfl
        go_wp2_with (first | (at_next; refine set_next rfl _ rfl rfl HR.out ?_ ?_) | fail)
        · intro hp
          have HP := Lib.hid hp; clear hp
          go_wp2_with (first
            | (go_at_call 34; refine (sort12n (w.heap.size + 1) 28 s.length s.length (fillL s.length (ackL A done)).toArray rest _ HRW.out (by simpa using HFL.out) HN.out).mono ?_; rintro e w3 ⟨rfl, d', hr3, hd1, hd2, hd3, hc3⟩; have hds : d'.size = s.length := (by simpa [HFL.out] using hd1); have cq := hr3.cell (t := s.length - (s.length / 2 + 1)) (by omega))
            | fail)
          refine bodyPost_ret (results_tmp rfl _ _ _) rfl ⟨⟨_, rfl, ?_⟩, HNW.out.trans hc3 (fun _ _ h => h) (fun i hi e => by omega)⟩
          unfold CommTo
          rw [if_neg HL.out]
          have hp1 : (fillL s.length (ackL A done)).Perm (s.map fun x => (ackd A x).getD 0) := by
            have h1 := fill_perm A done
            rw [HP.out.length_eq] at h1
            exact h1.trans (HP.out.map _)
          refine ⟨d'.toList, (by simpa using hd2 : d'.toList.Perm (fillL s.length (ackL A done))).trans hp1, hd3, ?_⟩
          have hlt : s.length - (s.length / 2 + 1) < d'.size := by omega
          rw [Array.getElem?_toList, Array.getElem?_eq_getElem hlt, getElem!_pos d' _ hlt]
        · intro k w2 hk hnk r2 s2 z2 hen
          have hm2 := (MapV.chg HM.out HNW.out (by simp)).chg s2.chg (fun i e e' => by
            have h := HM.out
            rw [e] at h
            have := MapB.lt h
            omega)
          have hrow2 := HRW.out.chg s2.chg (by omega)
          have hnw2 : New w w2 := HNW.out.trans s2.chg (fun _ _ h => h) (fun i hi e => by omega)
          have hl2 := r2.len
          simp only [List.length_append, List.length_cons, List.length_nil] at hl2
          have hsn := ackL_snoc A done k
          have HM2 := Lib.hid hm2; have HRW2 := Lib.hid hrow2; have HNW2 := Lib.hid hnw2; have HSN := Lib.hid hsn
          clear hm2 hrow2 hnw2 hsn
          obtain ⟨t, ht⟩ : ∃ t : Nat, (s.length : Int) - 1 - ((ackL A done).length : Int) = (t : Int) := ⟨s.length - 1 - (ackL A done).length, by omega⟩
          have htl : t = s.length - 1 - (ackL A done).length := by omega
          rw [ht]
          have cq := HRW2.out.cell (t := t) (by have := HFL.out; simp; omega)
          have fq := HRW2.out.free t
          have HT := Lib.hid htl; have HTT := Lib.hid ht
          have htn : t < s.length := by omega
          clear htl ht
          cases hb : ackd A k with
          | none =>
            rw [hb] at HSN
            go_wp2_with (first
              | (go_at_call 135; refine (acked_any m A k _ HM2.out).mono ?_; rw [hb]; rintro e w3 ⟨rfl, m3⟩)
              | fail)
            go_roundg (gk - 1)
            case measure => have := HG.out; omega
            case rel =>
              have e : ackL A (done ++ [k]) = ackL A done := by rw [HSN.out]; simp
              exact ⟨done ++ [k], by have := HG.out; simp; omega, r2.chg m3 (by simp) (by simp), by rw [e, HTT.out], by rw [e]; exact HRW2.out.chg m3 (by simp), HNW2.out.then m3⟩
          | some v =>
            rw [hb] at HSN
            go_wp2_with (first
              | (go_at_call 135; refine (acked_any m A k _ HM2.out).mono ?_; rw [hb]; rintro e w3 ⟨rfl, m3⟩; have cq3 := m3.has cq; have fq3 := (HRW2.out.chg m3 (by simp)).free t)
              | fail)
            go_roundg (gk - 1)
            case measure => have := HG.out; omega
            case rel =>
              have e : ackL A (done ++ [k]) = ackL A done ++ [v] := by rw [HSN.out]; simp
              have htt := HTT.out
              have hch : Chg w3 (w3.setCell ⟨w.heap.size + 1, t, none⟩ (.int .u64 v)) (fun i => i = w.heap.size + 1) := Chg.setCell _ _ _ _ (fun _ => rfl)
              have hob : ∀ b, o = some b → b < w.heap.size := fun b e => by have h := HS.out; rw [e] at h; exact h.lt
              refine ⟨done ++ [k], by have := HG.out; simp; omega, (r2.chg m3 (by simp) (by simp)).chg hch (by omega) (fun b e e' => by have := hob b e; omega), ?_, ?_, (HNW2.out.then m3).trans hch (fun _ _ h => h) (fun i hi e => by omega)⟩
              · rw [e]; simp only [List.length_append, List.length_cons, List.length_nil]; congr 1; omega
              · have h1 := (HRW2.out.chg m3 (by simp)).set (t := t) (by have := HFL.out; simp; omega) v
                have h2 : ((fillL s.length (ackL A done)).toArray.setIfInBounds t v) = (fillL s.length (ackL A done ++ [v])).toArray := by
                  rw [List.setIfInBounds_toArray, HT.out, fillL_set _ _ _ (by omega)]
                rw [h2] at h1
                rw [e]; exact h1
end Go.Proofs.Ytcgccoigjcdjeaa
namespace Go.Proofs.Ytcgccoigjcdjeaa
open Go.RowKit Go.Sort

def ackO (A : List (Int × Int)) (k : Int) : Int := (ackd A k).getD 0
theorem ackO_nonneg {A : List (Int × Int)} (h : ∀ p ∈ A, 0 ≤ p.2) (k : Int) : 0 ≤ ackO A k := by
  unfold ackO ackd
  cases hf : A.find? (fun p => p.1 == k) with
  | none => simp
  | some p => simpa using h p (List.mem_of_find?_eq_some hf)
def commR (A : List (Int × Int)) (s : List Int) : Int := commX (s.map (ackO A))
theorem commR_nil (A : List (Int × Int)) : commR A [] = 18446744073709551615 := rfl
theorem commTo_eq {A : List (Int × Int)} {s : List Int} {r : Int} (h0 : ∀ p ∈ A, 0 ≤ p.2) (h : CommTo A s r) : r = commR A s := by
  unfold CommTo at h
  unfold commR commX
  by_cases hs : s = []
  · rw [if_pos hs] at h
    subst hs
    rw [h]; rfl
  · rw [if_neg hs] at h
    obtain ⟨d, h1, h2, h3⟩ := h
    rw [if_neg (by simpa using hs)]
    have h4 := best_of_sorted (xs := s.map (ackO A)) (d := d) (r := r) h1 h2 (fun x hx => by obtain ⟨k, _, rfl⟩ := List.mem_map.1 hx; exact ackO_nonneg h0 k) (by simpa using h3)
    exact h4.symm
theorem commR_cases (A : List (Int × Int)) (s : List Int) : ∃ a : Int, a = commR A s := ⟨_, rfl⟩

theorem comm66_eq (o m : Option Nat) (s : List Int) (A : List (Int × Int)) (w : World) (hs : SetV w o s) (hm : MapV w m (ackV A)) (hn : s.length ≤ 12) (h0 : ∀ p ∈ A, 0 ≤ p.2) :
    Calls Try.prog 66 #[.map o, .iface 67 (.map m)] w fun e w' => e = .returned (.int .u64 (commR A s)) ∧ New w w' :=
  (comm66_any o m s A w hs hm hn).mono fun e w' ⟨⟨r, h1, h2⟩, h3⟩ => ⟨by rw [h1, commTo_eq h0 h2], h3⟩

/-- the lesser of two -/
def lessR (a b : Int) : Int := if b < a then b else a
theorem lessR_lt {a b : Int} (h : a < b) : lessR a b = a := by unfold lessR; rw [if_neg (by omega)]
theorem lessR_ge {a b : Int} (h : ¬ a < b) : lessR a b = b := by unfold lessR; split <;> omega
set_option maxRecDepth 100000 in
set_option maxHeartbeats 1600000 in
theorem comm41_any (v0 v1 m : Option Nat) (l0 l1 : List Int) (A : List (Int × Int)) (w : World) (h0 : SetV w v0 l0) (h1 : SetV w v1 l1) (hm : MapV w m (ackV A)) (n0 : l0.length ≤ 12) (n1 : l1.length ≤ 12) (hA : ∀ p ∈ A, 0 ≤ p.2) :
    Calls Try.prog 41 #[.agg #[.map v0, .map v1], .iface 67 (.map m)] w fun e w' => e = .returned (.int .u64 (lessR (commR A l0) (commR A l1))) ∧ New w w' := by
  have H0 := Lib.hid h0; have H1 := Lib.hid h1; have HV := Lib.hid hm; have N0 := Lib.hid n0; have N1 := Lib.hid n1; have HA := Lib.hid hA
  clear h0 h1 hm n0 n1 hA
  obtain ⟨a, ha⟩ : ∃ a, a = commR A l0 := ⟨_, rfl⟩
  obtain ⟨b, hb⟩ : ∃ b, b = commR A l1 := ⟨_, rfl⟩
  rw [← ha, ← hb]
  have HCA := Lib.hid ha; have HCB := Lib.hid hb
  clear ha hb
  by_cases hlt : a < b
  · have hl := lessR_lt hlt
    have HL := Lib.hid hl; clear hl
    have hd : decide (a < b) = true := by simpa using hlt
    go_enter Try.func41, Try.ntmps41
    go_wp2_with fail
    refine (comm66_eq v0 m l0 A _ (H0.out.alloc _) (MapV.chg HV.out (Chg.alloc w _ (fun _ => False)) (by simp)) N0.out HA.out).mono ?_
    rw [← HCA.out]
    rintro e w1 ⟨rfl, m1⟩
    have k1 := cell_of_block (off := 1) (m1.keeps (block_new w (.cells #[.map v0, .map v1] 72)) (by simp)) rfl
    have M1 := Lib.hid m1; clear m1
    go_wp2_with fail
    refine (comm66_eq v1 m l1 A _ (H1.out.chg ((Chg.alloc w _ (fun _ => False)).then M1.out) (by simp)) (MapV.chg HV.out ((Chg.alloc w _ (fun _ => False)).then M1.out) (by simp)) N1.out HA.out).mono ?_
    rw [← HCB.out]
    rintro e w2 ⟨rfl, m2⟩
    have M2 := Lib.hid m2; clear m2
    go_wp2_with fail
    refine bodyPost_ret (results_tmp rfl _ _ _) rfl ⟨by rw [HL.out]; rfl, ((Chg.alloc w _ _).then M1.out).then M2.out⟩
  · have hl := lessR_ge hlt
    have HL := Lib.hid hl; clear hl
    have hd : decide (a < b) = false := by simpa using hlt
    go_enter Try.func41, Try.ntmps41
    go_wp2_with fail
    refine (comm66_eq v0 m l0 A _ (H0.out.alloc _) (MapV.chg HV.out (Chg.alloc w _ (fun _ => False)) (by simp)) N0.out HA.out).mono ?_
    rw [← HCA.out]
    rintro e w1 ⟨rfl, m1⟩
    have k1 := cell_of_block (off := 1) (m1.keeps (block_new w (.cells #[.map v0, .map v1] 72)) (by simp)) rfl
    have M1 := Lib.hid m1; clear m1
    go_wp2_with fail
    refine (comm66_eq v1 m l1 A _ (H1.out.chg ((Chg.alloc w _ (fun _ => False)).then M1.out) (by simp)) (MapV.chg HV.out ((Chg.alloc w _ (fun _ => False)).then M1.out) (by simp)) N1.out HA.out).mono ?_
    rw [← HCB.out]
    rintro e w2 ⟨rfl, m2⟩
    have M2 := Lib.hid m2; clear m2
    go_wp2_with fail
    refine bodyPost_ret (results_tmp rfl _ _ _) rfl ⟨by rw [HL.out]; rfl, ((Chg.alloc w _ _).then M1.out).then M2.out⟩

theorem ackV_take (B : List (Int × Int)) (i : Nat) (h : i < B.length) (hd : (B.map (·.1)).Nodup) : upd (ackV (B.take i)) B[i].1 (.int .u64 B[i].2) = ackV (B.take (i + 1)) := by
  rw [List.take_succ_eq_append_getElem h, upd_snoc]
  · unfold ackV; rw [List.map_append]; rfl
  · intro hm
    simp only [ackV, List.map_map, List.mem_map] at hm
    obtain ⟨p, hp, e⟩ := hm
    simp only [Function.comp] at e
    obtain ⟨j, hj, rfl⟩ := List.getElem_of_mem hp
    rw [List.getElem_take] at e
    have hj' : j < i := by simp at hj; omega
    have h1 : (B.map (·.1))[j]'(by simp; omega) = (B.map (·.1))[i]'(by simpa using h) := by simpa using e
    have := (List.getElem_inj hd).1 h1
    omega
set_option maxRecDepth 100000 in
set_option maxHeartbeats 1600000 in
theorem committed_any (a b bv : Value) (l0 l1 : List Int) (B : List (Int × Int)) (w : World) (h0 : Us w a l0) (h1 : Us w b l1) (hv : Acs w bv B) (d0 : l0.Nodup) (d1 : l1.Nodup) (hd : (B.map (·.1)).Nodup) (n0 : l0.length ≤ 12) (n1 : l1.length ≤ 12) (hn : B.length ≤ 1000000) (hA : ∀ p ∈ B, 0 ≤ p.2) :
    Calls Try.prog 12 #[.agg #[a, b], bv] w fun e w' => e = .returned (.int .u64 (lessR (commR B l0) (commR B l1))) ∧ New w w' := by
  have H0 := Lib.hid h0; have H1 := Lib.hid h1; have D0 := Lib.hid d0; have D1 := Lib.hid d1; have N0 := Lib.hid n0; have N1 := Lib.hid n1; have HD := Lib.hid hd; have HN := Lib.hid hn; have HA := Lib.hid hA
  obtain ⟨oa, ca, rfl, _⟩ := h0
  obtain ⟨ob, cb, rfl, _⟩ := h1
  obtain ⟨ao, cap, rfl, hcs⟩ := hv
  have HCS := Lib.hid hcs
  clear d0 d1 n0 n1 hd hn hcs hA
  obtain ⟨r, hr⟩ : ∃ r, r = lessR (commR B l0) (commR B l1) := ⟨_, rfl⟩
  rw [← hr]
  have HRR := Lib.hid hr; clear hr
  go_enter Try.func12, Try.ntmps12
  go_wp2_with fail
  go_loopg [6] B.length (fun n j wr => ∃ i : Nat, i ≤ B.length ∧ B.length ≤ n + i ∧ j = .int .i64 i ∧ MapB wr (w.heap.size + 1) (ackV (B.take i)) ∧ New w wr ∧ wr.heap[w.heap.size]? = some (.cells #[.slice oa l0.length ca, .slice ob l1.length cb] 23 (0, 0)))
  case atStart =>
    refine ⟨0, by omega, by omega, rfl, ?_, (Chg.alloc w _ _).then (Chg.alloc _ _ _), block_alloc (block_new w _) _⟩
    have := MapB.made (w.alloc (.cells #[.slice oa l0.length ca, .slice ob l1.length cb] 23))
    simp only [World.size_alloc] at this
    exact this
  case round =>
    obtain ⟨i, hi, hg, rfl, hm, hnew, hbx⟩ := hrel
    have HG := Lib.hid hg; have HM := Lib.hid hm; have HNW := Lib.hid hnew; have HBX := Lib.hid hbx
    clear hg hm hnew hbx
    by_cases hlt : i < B.length
    · obtain ⟨b, off, rfl, hc0, hc1⟩ := HCS.out i hlt
      have p0 := HNW.out.has hc0
      have p1 := HNW.out.has hc1
      have hsmall : B.length ≤ 1000000 := HN.out
      have hbt := ackV_take B i hlt HD.out
      obtain ⟨x, hx⟩ : ∃ x, x = B[i] := ⟨_, rfl⟩
      rw [← hx] at p0 p1 hbt
      have HBT := Lib.hid hbt
      obtain ⟨xk, xb⟩ := x
      simp only at p0 p1
      clear hbt hx hc0 hc1
      obtain ⟨w3, hrun, ht3⟩ := run_update_v (P := Try.prog) HM.out Try.underlying67 u28 xk (.int .u64 xb)
      obtain ⟨w4, hrun4, ht4⟩ := run_update_v (P := Try.prog) (MapB.chg HM.out (Chg.drew wr (fun _ => False)) (by simp)) Try.underlying67 u28 xk (.int .u64 xb)
      go_wp2_with fail
      go_region
      go_wp2_with fail
      go_roundg (gk - 1)
      case measure => have := HG.out; omega
      case rel =>
        have hch : Chg wr w4 (fun i => i = w.heap.size + 1) := (Chg.drew wr _).then ht4.chg
        refine ⟨i + 1, by omega, by have := HG.out; omega, by go_num, ?_, HNW.out.trans hch (fun _ _ h => h) (fun i hi e => by omega), hch.keeps HBX.out (by omega)⟩
        have := ht4.map
        rw [HBT.out] at this
        exact this
    · have hil : i = B.length := by omega
      subst hil
      have hm : MapB wr (w.heap.size + 1) (ackV B) := by have := HM.out; rwa [List.take_length] at this
      have HM2 := Lib.hid hm
      have q0 := cell_of_block (off := 0) HBX.out rfl; have q1 := cell_of_block (off := 1) HBX.out rfl
      clear hm HM HG hi hlt
      go_wp2_with fail
      refine (joint40_any (.slice oa l0.length ca) (.slice ob l1.length cb) l0 l1 _ (H0.out.new HNW.out) (H1.out.new HNW.out) D0.out D1.out (Nat.le_trans N0.out (by decide)) (Nat.le_trans N1.out (by decide))).mono ?_
      rintro e w5 ⟨x0, x1, rfl, s0, s1, m1⟩
      have S0 := Lib.hid s0; have S1 := Lib.hid s1; have M1 := Lib.hid m1
      clear s0 s1 m1 q0 q1
      go_wp2_with fail
      refine (comm41_any x0 x1 (some (w.heap.size + 1)) l0 l1 B _ S0.out S1.out (show MapV _ (some (w.heap.size + 1)) (ackV B) from MapB.chg HM2.out M1.out (by simp)) N0.out N1.out HA.out).mono ?_
      rintro e w6 ⟨rfl, m2⟩
      have M2 := Lib.hid m2; clear m2
      rw [← HRR.out]
      go_wp2_with fail
      go_ret
      exact ⟨rfl, (HNW.out.then M1.out).then M2.out⟩
end Go.Proofs.Ytcgccoigjcdjeaa
