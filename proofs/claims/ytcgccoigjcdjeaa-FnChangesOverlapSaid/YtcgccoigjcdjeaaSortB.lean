/- The library's heapsort at numbers: siftDownOrdered, heapSortOrdered. Condition: a slice at the head of its block, of fewer than 2^61 numbers. -/
import Derived.Test.YtcgccoigjcdjeaaSortA
import Derived.Sort.LotB
import Derived.IntWalk
namespace Go.Proofs.Ytcgccoigjcdjeaa
open Go.RowKit Go.Sort

theorem quiet_add_same {P : Program} {f : FuncId} {args : Array Value} {w : World} {a n : Nat} {v : Value} (h : Calls P f args (w.drewN (a + n)) fun e w' => e = .returned v ∧ w' = w.drewN (a + n)) :
    Calls P f args (w.drewN (a + n)) fun e w'' => e = .returned v ∧ ∃ m, w'' = w.drewN (a + m) := h.mono fun _ _ ⟨he, hm⟩ => ⟨he, n, hm⟩
theorem RowV.swapTo {w w' : World} {g e : Nat} {d : Array Int} {rest : List Value} {j k : Nat} {x y : Int} (h : RowV w g e d rest) (c : Chg w w' (fun _ => False)) (hj : j < d.size) (hk : k < d.size) (hy : y = d[k]!) (hx : x = d[j]!) :
    RowV ((w'.setCell ⟨g, j, none⟩ (.int .u64 y)).setCell ⟨g, k, none⟩ (.int .u64 x)) g e (swp d j k) rest := by
  subst hy; subst hx
  exact (h.chg c (by simp)).swap hj hk
theorem Chg.swapTo {w w' : World} (c : Chg w w' (fun _ => False)) (g j k : Nat) (x y : Value) : Chg w ((w'.setCell ⟨g, j, none⟩ y).setCell ⟨g, k, none⟩ x) (fun i => i = g) :=
  (c.trans (Chg.setCell _ _ _ (fun i => i = g) (fun _ => rfl)) (by simp) (fun _ _ h => h)).then (Chg.setCell _ _ _ _ (fun _ => rfl))
theorem siftDown_stop {hi first root : Nat} {d : Array Int} (h : 2 * root + 1 ≥ hi) : siftDown ltInt hi first root d = d := by rw [siftDown, dif_pos h]
/-- one round: the greater child -/
def kid (hi first root : Nat) (d : Array Int) : Nat := if 2 * root + 1 + 1 < hi ∧ ltInt d[first + (2 * root + 1)]! d[first + (2 * root + 1) + 1]! = true then 2 * root + 2 else 2 * root + 1
theorem siftDown_round {hi first root : Nat} {d : Array Int} (h : ¬ 2 * root + 1 ≥ hi) : siftDown ltInt hi first root d = if ltInt d[first + root]! d[first + kid hi first root d]! = true then siftDown ltInt hi first (kid hi first root d) (swp d (first + root) (first + kid hi first root d)) else d := by
  rw [siftDown, dif_neg h]
  unfold kid
  by_cases h1 : 2 * root + 1 + 1 < hi <;> by_cases h2 : ltInt d[first + (2 * root + 1)]! d[first + (2 * root + 1) + 1]! = true
  · simp only [h1, h2, decide_true, Bool.and_self, if_true, and_self]
    by_cases h3 : ltInt d[first + root]! d[first + (2 * root + 2)]! = true
    · simp [h3]
    · simp [h3]
  · simp only [h1, h2, decide_true, Bool.true_and, Bool.false_eq_true, if_false, and_false]
    by_cases h3 : ltInt d[first + root]! d[first + (2 * root + 1)]! = true
    · simp [h3]
    · simp [h3]
  · simp only [h1, h2, decide_false, Bool.false_and, Bool.false_eq_true, if_false, false_and]
    by_cases h3 : ltInt d[first + root]! d[first + (2 * root + 1)]! = true
    · simp [h3]
    · simp [h3]
  · simp only [h1, h2, decide_false, Bool.false_and, Bool.false_eq_true, if_false, false_and]
    by_cases h3 : ltInt d[first + root]! d[first + (2 * root + 1)]! = true
    · simp [h3]
    · simp [h3]
theorem kid_cases (hi first root : Nat) (d : Array Int) (h : ¬ 2 * root + 1 ≥ hi) : root < kid hi first root d ∧ kid hi first root d < hi := by
  unfold kid; split <;> omega

set_option maxRecDepth 100000 in
set_option maxHeartbeats 3200000 in
theorem siftdown_any (g e cap lo hi first : Nat) (d : Array Int) (rest : List Value) (w : World) (hr : RowV w g e d rest) (hh : first + hi ≤ d.size) (hsz : d.size < 1152921504606846976) (hlo : lo ≤ hi) :
    Calls Try.prog 107 #[.slice (some ⟨g, 0, none⟩) d.size cap, .int .i64 lo, .int .i64 hi, .int .i64 first] w fun e' w' => e' = .returned (.tuple #[]) ∧ RowV w' g e (siftDown ltInt hi first lo d) rest ∧ Chg w w' (fun i => i = g) := by
  have HR := Lib.hid hr; clear hr
  go_enter Try.func107, Try.ntmps107
  go_wp2_with fail
  go_loopg [8] (hi + 1) (fun n vr wr => ∃ (root : Nat) (dk : Array Int), vr = .int .i64 root ∧ hi + 1 ≤ n + root ∧ root ≤ hi ∧ dk.size = d.size ∧ RowV wr g e dk rest ∧ Chg w wr (fun i => i = g) ∧ siftDown ltInt hi first root dk = siftDown ltInt hi first lo d)
  case atStart => exact ⟨lo, d, rfl, by omega, hlo, rfl, HR.out, Chg.refl _ _, rfl⟩
  case round =>
    obtain ⟨root, dk, rfl, hg, hrh, hsk, hrk, hck, hS⟩ := hrel
    have HS := Lib.hid hS; have HRK := Lib.hid hrk; have HCK := Lib.hid hck; have HG := Lib.hid hg
    clear hS hrk hck hg
    by_cases hend : hi ≤ 2 * root + 1
    · have hst := siftDown_stop (first := first) (d := dk) hend
      have HST := Lib.hid hst; clear hst
      have hed : decide ((hi : Int) ≤ 2 * (root : Int) + 1) = true := by simp; omega
      go_wp2_with fail
      go_end0
      exact ⟨rfl, by rw [← HS.out, HST.out]; exact HRK.out, HCK.out⟩
    · have hrd := siftDown_round (first := first) (d := dk) hend
      have hkc := kid_cases hi first root dk hend
      obtain ⟨c, hc⟩ : ∃ c : Nat, c = 2 * root + 1 := ⟨_, rfl⟩
      obtain ⟨c2, hc2⟩ : ∃ c2 : Nat, c2 = c + 1 := ⟨_, rfl⟩
      obtain ⟨pr, hpr⟩ : ∃ p : Nat, p = first + root := ⟨_, rfl⟩
      obtain ⟨p1, hp1⟩ : ∃ p : Nat, p = first + c := ⟨_, rfl⟩
      obtain ⟨p2, hp2⟩ : ∃ p : Nat, p = first + c2 := ⟨_, rfl⟩
      have hkd : kid hi first root dk = if c2 < hi ∧ ltInt dk[p1]! dk[p2]! = true then c2 else c := by unfold kid; rw [hp1, hp2, hc2, hc]; rfl
      have hcI : 2 * (root : Int) + 1 = (c : Int) := by omega
      have hc2I : (c : Int) + 1 = (c2 : Int) := by omega
      have hprI : (first : Int) + (root : Int) = (pr : Int) := by omega
      have hp1I : (first : Int) + (c : Int) = (p1 : Int) := by omega
      have hp2I : (first : Int) + (c2 : Int) = (p2 : Int) := by omega
      have hp3I : (p1 : Int) + 1 = (p2 : Int) := by omega
      have hw0 : IntKind.i64.wrap (pr : Int) = (pr : Int) := IntWalk.i64_in _ (by omega)
      have hw1 : IntKind.i64.wrap (p1 : Int) = (p1 : Int) := IntWalk.i64_in _ (by omega)
      have hw2 : IntKind.i64.wrap (p2 : Int) = (p2 : Int) := IntWalk.i64_in _ (by omega)
      have hch : c < hi := by omega
      have hb0 : pr < d.size := by omega
      have hb1 : p1 < d.size := by omega
      have c0 := HRK.out.cell (t := pr) (by omega)
      have c1 := HRK.out.cell (t := p1) (by omega)
      obtain ⟨xr, hxr⟩ : ∃ x, x = dk[pr]! := ⟨_, rfl⟩
      obtain ⟨x1, hx1⟩ : ∃ x, x = dk[p1]! := ⟨_, rfl⟩
      rw [← hpr] at hrd
      rw [← hxr] at c0 hrd; rw [← hx1] at c1 hkd
      have hed : decide ((hi : Int) ≤ (c : Int)) = false := by simp; omega
      have f0 := HRK.out.free pr
      have f1 := HRK.out.free p1
      have hne : pr ≠ p1 := by omega
      have HXR := Lib.hid hxr; have HX1 := Lib.hid hx1; have HRD := Lib.hid hrd; have HKC := Lib.hid hkc; have HP1 := Lib.hid hp1; have HP2 := Lib.hid hp2; have HPR := Lib.hid hpr; have HCE := Lib.hid hc; have HC2E := Lib.hid hc2
      by_cases h2 : c2 < hi
      · have hb2 : p2 < d.size := by omega
        have c2' := HRK.out.cell (t := p2) (by omega)
        have f2 := HRK.out.free p2
        have hne2 : pr ≠ p2 := by omega
        obtain ⟨x2, hx2⟩ : ∃ x, x = dk[p2]! := ⟨_, rfl⟩
        rw [← hx2] at c2' hkd
        have HX2 := Lib.hid hx2
        have hg1 : decide ((c2 : Int) < (hi : Int)) = true := by simp; omega
        clear hc hxr hx1 hrd hkc hend hpr hp1 hp2 hc2 hx2
        cases hl : ltInt x1 x2
        · rw [if_neg (by rw [hl]; simp)] at hkd
          have HKD := Lib.hid hkd; clear hkd
          go_wp2_with fail
          go_quiet (first | (go_at_call 93; refine Calls.quiet_of_same (less_any _ _ _)) | (go_at_call 93; exact quiet_add_same (less_any _ _ _)))
          cases hl2 : ltInt xr x1
          · go_wp2_with fail
            go_quiet (first | (go_at_call 93; refine Calls.quiet_of_same (less_any _ _ _)) | (go_at_call 93; exact quiet_add_same (less_any _ _ _)))
            go_wp2_with fail
            refine bodyPost_ret (results_none rfl _ _ _) rfl ⟨rfl, ?_, (HCK.out.then (Chg.drewN _ _ _)).then (Chg.drewN _ _ _)⟩
            rw [← HS.out, HRD.out, HKD.out, ← HP1.out, ← HX1.out, hl2]
            exact HRK.out.chg ((Chg.drewN wr _ (fun _ => False)).then (Chg.drewN _ _ _)) (by simp)
          · go_wp2_with fail
            go_quiet (first | (go_at_call 93; refine Calls.quiet_of_same (less_any _ _ _)) | (go_at_call 93; exact quiet_add_same (less_any _ _ _)))
            go_wp2_with fail
            go_region
            all_goals go_wp2_with fail
            go_roundg (gk - 1)
            case measure => have h1 := HG.out; have h2 := HKC.out; omega
            case rel =>
              refine ⟨c, swp dk pr p1, rfl, ?_, by omega, by rw [size_swp']; exact hsk, ?_, ?_, ?_⟩
              · have h1 := HG.out; have h2 := HCE.out; have h3 := HC2E.out; omega
              · exact HRK.out.swapTo (by first | exact (Chg.drewN _ _ _).then (Chg.drewN _ _ _) | exact Chg.drewN _ _ _) (by omega) (by omega) HX1.out HXR.out
              · exact HCK.out.then (Chg.swapTo (by first | exact (Chg.drewN _ _ _).then (Chg.drewN _ _ _) | exact Chg.drewN _ _ _) _ _ _ _ _)
              · rw [← HS.out, HRD.out, HKD.out, ← HP1.out, ← HX1.out, if_pos hl2]
        · rw [if_pos ⟨h2, hl⟩] at hkd
          have HKD := Lib.hid hkd; clear hkd
          go_wp2_with fail
          go_quiet (first | (go_at_call 93; refine Calls.quiet_of_same (less_any _ _ _)) | (go_at_call 93; exact quiet_add_same (less_any _ _ _)))
          cases hl2 : ltInt xr x2
          · go_wp2_with fail
            go_quiet (first | (go_at_call 93; refine Calls.quiet_of_same (less_any _ _ _)) | (go_at_call 93; exact quiet_add_same (less_any _ _ _)))
            go_wp2_with fail
            refine bodyPost_ret (results_none rfl _ _ _) rfl ⟨rfl, ?_, (HCK.out.then (Chg.drewN _ _ _)).then (Chg.drewN _ _ _)⟩
            rw [← HS.out, HRD.out, HKD.out, ← HP2.out, ← HX2.out, hl2]
            exact HRK.out.chg ((Chg.drewN wr _ (fun _ => False)).then (Chg.drewN _ _ _)) (by simp)
          · go_wp2_with fail
            go_quiet (first | (go_at_call 93; refine Calls.quiet_of_same (less_any _ _ _)) | (go_at_call 93; exact quiet_add_same (less_any _ _ _)))
            go_wp2_with fail
            go_region
            all_goals go_wp2_with fail
            go_roundg (gk - 1)
            case measure => have h1 := HG.out; have h2 := HKC.out; omega
            case rel =>
              refine ⟨c2, swp dk pr p2, rfl, ?_, by omega, by rw [size_swp']; exact hsk, ?_, ?_, ?_⟩
              · have h1 := HG.out; have h2 := HCE.out; have h3 := HC2E.out; omega
              · exact HRK.out.swapTo (by first | exact (Chg.drewN _ _ _).then (Chg.drewN _ _ _) | exact Chg.drewN _ _ _) (by omega) (by omega) HX2.out HXR.out
              · exact HCK.out.then (Chg.swapTo (by first | exact (Chg.drewN _ _ _).then (Chg.drewN _ _ _) | exact Chg.drewN _ _ _) _ _ _ _ _)
              · rw [← HS.out, HRD.out, HKD.out, ← HP2.out, ← HX2.out, if_pos hl2]
      · rw [if_neg (fun h => h2 h.1)] at hkd
        have HKD := Lib.hid hkd
        have hg1 : decide ((c2 : Int) < (hi : Int)) = false := by simp; omega
        clear hc hxr hx1 hrd hkc hend hpr hp1 hp2 hc2 hkd
        go_wp2_with fail
        go_quiet (first | (go_at_call 93; refine Calls.quiet_of_same (less_any _ _ _)) | (go_at_call 93; exact quiet_add_same (less_any _ _ _)))
        cases hl2 : ltInt xr x1
        · go_wp2_with fail
          go_quiet (first | (go_at_call 93; refine Calls.quiet_of_same (less_any _ _ _)) | (go_at_call 93; exact quiet_add_same (less_any _ _ _)))
          go_wp2_with fail
          refine bodyPost_ret (results_none rfl _ _ _) rfl ⟨rfl, ?_, (HCK.out.then (Chg.drewN _ _ _)).then (Chg.drewN _ _ _)⟩
          rw [← HS.out, HRD.out, HKD.out, ← HP1.out, ← HX1.out, hl2]
          exact HRK.out.chg ((Chg.drewN wr _ (fun _ => False)).then (Chg.drewN _ _ _)) (by simp)
        · go_wp2_with fail
          go_quiet (first | (go_at_call 93; refine Calls.quiet_of_same (less_any _ _ _)) | (go_at_call 93; exact quiet_add_same (less_any _ _ _)))
          go_wp2_with fail
          go_region
          all_goals go_wp2_with fail
          go_roundg (gk - 1)
          case measure => have h1 := HG.out; have h2 := HKC.out; omega
          case rel =>
            refine ⟨c, swp dk pr p1, rfl, ?_, by omega, by rw [size_swp']; exact hsk, ?_, ?_, ?_⟩
            · have h1 := HG.out; have h2 := HCE.out; have h3 := HC2E.out; omega
            · exact HRK.out.swapTo (by first | exact (Chg.drewN _ _ _).then (Chg.drewN _ _ _) | exact Chg.drewN _ _ _) (by omega) (by omega) HX1.out HXR.out
            · exact HCK.out.then (Chg.swapTo (by first | exact (Chg.drewN _ _ _).then (Chg.drewN _ _ _) | exact Chg.drewN _ _ _) _ _ _ _ _)
            · rw [← HS.out, HRD.out, HKD.out, ← HP1.out, ← HX1.out, if_pos hl2]

theorem siftdown_n (g e cap lo hi first m : Nat) (d : Array Int) (rest : List Value) (w : World) (hr : RowV w g e d rest) (hm : d.size = m) (hh : first + hi ≤ m) (hsz : m < 1152921504606846976) (hlo : lo ≤ hi) :
    Calls Try.prog 107 #[.slice (some ⟨g, 0, none⟩) m cap, .int .i64 lo, .int .i64 hi, .int .i64 first] w fun e' w' => e' = .returned (.tuple #[]) ∧ RowV w' g e (siftDown ltInt hi first lo d) rest ∧ Chg w w' (fun i => i = g) := by
  subst hm; exact siftdown_any g e cap lo hi first d rest w hr hh hsz hlo
theorem heapBuild_succ (hi first k : Nat) (d : Array Int) : heapBuild ltInt hi first (k + 1) d = heapBuild ltInt hi first k (siftDown ltInt hi first k d) := rfl
theorem heapPop_succ (first k : Nat) (d : Array Int) : heapPop ltInt first (k + 1) d = heapPop ltInt first k (siftDown ltInt k first 0 (swp d first (first + k))) := rfl
theorem size_sift (hi first root : Nat) (d : Array Int) : (siftDown ltInt hi first root d).size = d.size := by
  fun_induction siftDown ltInt hi first root d <;> simp_all [swp]
set_option maxRecDepth 100000 in
set_option maxHeartbeats 400000 in
theorem heap_any (g e cap a b : Nat) (d : Array Int) (rest : List Value) (w : World) (hr : RowV w g e d rest) (hab : a < b) (hb : b ≤ d.size) (hsz : d.size < 1152921504606846976) :
    Calls Try.prog 88 #[.slice (some ⟨g, 0, none⟩) d.size cap, .int .i64 a, .int .i64 b] w fun e' w' => e' = .returned (.tuple #[]) ∧ RowV w' g e (heapSort ltInt d a b) rest ∧ Chg w w' (fun i => i = g) := by
  have HR := Lib.hid hr; clear hr
  obtain ⟨n, hn⟩ : ∃ n : Nat, n = b - a := ⟨_, rfl⟩
  have hnI : (b : Int) - (a : Int) = (n : Int) := by omega
  have hheap : heapSort ltInt d a b = heapPop ltInt a n (heapBuild ltInt n a ((n - 1) / 2 + 1) d) := by unfold heapSort; rw [← hn]
  have hnp : 0 < n := by omega
  have hna : a + n ≤ d.size := by omega
  have HH := Lib.hid hheap
  clear hheap hn
  go_enter Try.func88, Try.ntmps88
  go_wp2_with fail
  go_loopg [9] ((n - 1) / 2 + 2) (fun m vi wr => ∃ (k : Nat) (dk : Array Int), vi = .int .i64 ((k : Int) - 1) ∧ k ≤ m ∧ k ≤ (n - 1) / 2 + 1 ∧ dk.size = d.size ∧ RowV wr g e dk rest ∧ Chg w wr (fun i => i = g) ∧ heapBuild ltInt n a k dk = heapBuild ltInt n a ((n - 1) / 2 + 1) d)
  case atStart =>
    refine ⟨(n - 1) / 2 + 1, d, ?_, by omega, Nat.le_refl _, rfl, HR.out, Chg.refl _ _, rfl⟩
    congr 1; omega
  case round =>
    obtain ⟨k, dk, rfl, hg, hkn, hsk, hrk, hck, hS⟩ := hrel
    have HS := Lib.hid hS; have HRK := Lib.hid hrk; have HCK := Lib.hid hck; have HG := Lib.hid hg
    clear hS hrk hck hg
    cases k with
    | succ k =>
      have hk1 : ((k + 1 : Nat) : Int) - 1 = (k : Int) := by omega
      rw [hk1]
      have hge : decide ((0 : Int) ≤ (k : Int)) = true := by simp
      clear hk1
      go_wp2_with fail
      refine (siftdown_n g e cap k n a d.size dk rest _ HRK.out hsk hna (by omega) (by omega)).mono ?_
      rintro e' w1 ⟨rfl, hr1, hc1⟩
      have HR1 := Lib.hid hr1; have HC1 := Lib.hid hc1
      clear hr1 hc1
      go_wp2_with fail
      go_roundg (gk - 1)
      case measure => have := HG.out; omega
      case rel => exact ⟨k, siftDown ltInt n a k dk, rfl, by have := HG.out; omega, by omega, by rw [size_sift]; exact hsk, HR1.out, HCK.out.then HC1.out, by rw [← HS.out, heapBuild_succ]⟩
    | zero =>
      have hk1 : ((0 : Nat) : Int) - 1 = -1 := rfl
      rw [hk1]
      have hbd : heapBuild ltInt n a 0 dk = dk := rfl
      have HBD := Lib.hid hbd
      clear hk1 hbd hkn
      go_wp2_with fail
      go_loopg [10] (n + 1) (fun m vi wr => ∃ (k : Nat) (dk : Array Int), vi = .int .i64 ((k : Int) - 1) ∧ k ≤ m ∧ k ≤ n ∧ dk.size = d.size ∧ RowV wr g e dk rest ∧ Chg w wr (fun i => i = g) ∧ heapPop ltInt a k dk = heapSort ltInt d a b)
      case atStart => exact ⟨n, dk, rfl, by omega, Nat.le_refl _, hsk, HRK.out, HCK.out, by rw [HH.out, ← HS.out, HBD.out]⟩
      case round =>
        clear hsk HS HRK HCK HBD HG HH
        obtain ⟨k, dk, rfl, hg, hkn, hsk, hrk, hck, hS⟩ := hrel
        have HS := Lib.hid hS; have HRK := Lib.hid hrk; have HCK := Lib.hid hck; have HG := Lib.hid hg
        clear hS hrk hck hg
        cases k with
        | succ k =>
          have hk1 : ((k + 1 : Nat) : Int) - 1 = (k : Int) := by omega
          rw [hk1]
          have hge : decide ((0 : Int) ≤ (k : Int)) = true := by simp
          obtain ⟨q, hq⟩ : ∃ q : Nat, q = a + k := ⟨_, rfl⟩
          have hqI : (a : Int) + (k : Int) = (q : Int) := by omega
          have hqb : q < d.size := by omega
          have hab2 : a < d.size := by omega
          have hwq : IntKind.i64.wrap (q : Int) = (q : Int) := IntWalk.i64_in _ (by omega)
          have ca := HRK.out.cell (t := a) (by omega)
          have cq := HRK.out.cell (t := q) (by omega)
          have fa := HRK.out.free a
          have fq := HRK.out.free q
          obtain ⟨x, hx⟩ : ∃ x, x = dk[a]! := ⟨_, rfl⟩
          obtain ⟨y, hy⟩ : ∃ y, y = dk[q]! := ⟨_, rfl⟩
          rw [← hx] at ca; rw [← hy] at cq
          have HX := Lib.hid hx; have HY := Lib.hid hy; have HQ := Lib.hid hq
          clear hk1 hx hy hq
          go_wp2_with fail
          by_cases haq : a = q
          · have hxy : y = x := by rw [HX.out, HY.out, haq]
            subst haq
            subst hxy
            go_region
            go_wp2_with fail
            have hsw := (HRK.out.swapTo (Chg.refl wr _) (j := a) (k := a) (by omega) (by omega) HX.out HX.out).chg (Chg.drew _ (fun _ => False)) (by simp)
            have HSW := Lib.hid hsw
            clear hsw
            refine (siftdown_n g e cap 0 k a d.size (swp dk a a) rest _ HSW.out (by rw [size_swp']; exact hsk) (by omega) (by omega) (by omega)).mono ?_
            rintro e' w1 ⟨rfl, hr1, hc1⟩
            have HR1 := Lib.hid hr1; have HC1 := Lib.hid hc1
            clear hr1 hc1
            go_wp2_with fail
            go_roundg (gk - 1)
            case measure => have := HG.out; omega
            case rel => exact ⟨k, _, rfl, by have := HG.out; omega, by omega, by rw [size_sift, size_swp']; exact hsk, HR1.out, (HCK.out.then (Chg.swapTo (Chg.refl _ _) _ _ _ _ _)).then ((Chg.drew _ _).then HC1.out), by rw [← HS.out, heapPop_succ, ← HQ.out]⟩
          · go_region
            go_wp2_with fail
            have hsw := (HRK.out.swapTo (Chg.refl wr _) (j := a) (k := q) (by omega) (by omega) HY.out HX.out).chg (Chg.drew _ (fun _ => False)) (by simp)
            have HSW := Lib.hid hsw
            clear hsw
            refine (siftdown_n g e cap 0 k a d.size (swp dk a q) rest _ HSW.out (by rw [size_swp']; exact hsk) (by omega) (by omega) (by omega)).mono ?_
            rintro e' w1 ⟨rfl, hr1, hc1⟩
            have HR1 := Lib.hid hr1; have HC1 := Lib.hid hc1
            clear hr1 hc1
            go_wp2_with fail
            go_roundg (gk - 1)
            case measure => have := HG.out; omega
            case rel => exact ⟨k, _, rfl, by have := HG.out; omega, by omega, by rw [size_sift, size_swp']; exact hsk, HR1.out, (HCK.out.then (Chg.swapTo (Chg.refl _ _) _ _ _ _ _)).then ((Chg.drew _ _).then HC1.out), by rw [← HS.out, heapPop_succ, ← HQ.out]⟩
        | zero =>
          have hk1 : ((0 : Nat) : Int) - 1 = -1 := rfl
          rw [hk1]
          have hbd : heapPop ltInt a 0 dk = dk := rfl
          have HBD := Lib.hid hbd
          clear hk1 hbd hkn
          go_wp2_with fail
          go_end0
          exact ⟨rfl, by rw [← HS.out, HBD.out]; exact HRK.out, HCK.out⟩
end Go.Proofs.Ytcgccoigjcdjeaa
