/- The library's sort at numbers: cmp.Less, insertionSortOrdered, bits.Len. Condition: a slice at the head of its block. -/
import Derived.Test.YtcgccoigjcdjeaaOwn
import Derived.Test.YtcgccoigjcdjeaaSortLen
import Derived.Sort.LotA
import Derived.BigGuard
import Derived.BigCall
import Derived.CellFam
import Derived.Deep.Draws
import Derived.Deep.QuietTactic
import Derived.BigQuiet
namespace Go.Proofs.Ytcgccoigjcdjeaa
open Go.RowKit Go.Sort

theorem isNaN_any (x : Int) (w : World) : Calls Try.prog 112 #[.int .u64 x] w fun e w' => e = .returned (.bool false) ∧ w' = w := by
  go_enter Try.func112, Try.ntmps112
  go_wp2
  go_ret
  exact ⟨rfl, rfl⟩
theorem less_any (x y : Int) (w : World) : Calls Try.prog 93 #[.int .u64 x, .int .u64 y] w fun e w' => e = .returned (.bool (ltInt x y)) ∧ w' = w := by
  go_enter Try.func93, Try.ntmps93
  go_wp2_with (go_at_call 112; refine (isNaN_any _ _).mono ?_; rintro e w' ⟨rfl, rfl⟩)
  go_ret
  exact ⟨rfl, rfl⟩

/-- numbers at the head of a block -/
def RowV (w : World) (g : Nat) (e : TypeId) (d : Array Int) (rest : List Value) : Prop := w.heap[g]? = some (.cells (d.toList.map (Value.int .u64) ++ rest).toArray e (0, 0))
theorem RowV.chg {w w' : World} {S : Nat → Prop} {g e : Nat} {d : Array Int} {rest : List Value} (h : RowV w g e d rest) (c : Chg w w' S) (hg : ¬ S g) : RowV w' g e d rest := c.keeps h hg
theorem RowV.cell {w : World} {g e : Nat} {d : Array Int} {rest : List Value} (h : RowV w g e d rest) {t : Nat} (ht : t < d.size) : w.cell? ⟨g, t, none⟩ = some (.int .u64 d[t]!) := by
  refine cell_of_block h ?_
  rw [List.getElem?_toArray, List.getElem?_append_left (by simpa using ht), List.getElem?_map]
  simp [ht]
theorem RowV.free {w : World} {g e : Nat} {d : Array Int} {rest : List Value} (h : RowV w g e d rest) (t : Nat) : w.frozen? ⟨g, t, none⟩ = false := free_of_block h
theorem RowV.set {w : World} {g e : Nat} {d : Array Int} {rest : List Value} (h : RowV w g e d rest) {t : Nat} (ht : t < d.size) (x : Int) : RowV (w.setCell ⟨g, t, none⟩ (.int .u64 x)) g e (d.setIfInBounds t x) rest := by
  unfold RowV at h ⊢
  rw [block_setCell h]
  congr 2
  rw [List.setIfInBounds_toArray, List.set_append_left _ _ (by simpa using ht), Array.toList_setIfInBounds, List.map_set]
theorem RowV.swap {w : World} {g e : Nat} {d : Array Int} {rest : List Value} (h : RowV w g e d rest) {j k : Nat} (hj : j < d.size) (hk : k < d.size) : RowV ((w.setCell ⟨g, j, none⟩ (.int .u64 d[k]!)).setCell ⟨g, k, none⟩ (.int .u64 d[j]!)) g e (swp d j k) rest := by
  have := (h.set hj d[k]!).set (t := k) (by simpa using hk) d[j]!
  exact this
theorem Chg.drewN (w : World) (n : Nat) (S : Nat → Prop) : Chg w (w.drewN n) S := ⟨rfl, rfl, rfl, Nat.le_refl _, fun _ _ _ => rfl⟩
theorem size_swp' (d : Array Int) (j k : Nat) : (swp d j k).size = d.size := by simp [swp]

section
variable {α : Type} [Inhabited α] (lt : α → α → Bool)
theorem insInner_go' (a j : Nat) (d : Array α) (hj : a < j) (hl : lt d[j]! d[j - 1]! = true) : insInner lt a j d = insInner lt a (j - 1) (swp d j (j - 1)) := by
  obtain ⟨k, rfl⟩ : ∃ k, j = k + 1 := ⟨j - 1, by omega⟩
  rw [insInner]
  simp only [Nat.add_sub_cancel] at hl ⊢
  simp [hj, hl]
theorem insInner_stop' (a j : Nat) (d : Array α) (h : j ≤ a ∨ lt d[j]! d[j - 1]! = false) : insInner lt a j d = d := by
  cases j with
  | zero => rw [insInner]
  | succ k =>
    rw [insInner]
    simp only [Nat.add_sub_cancel] at h
    rcases h with h | h
    · simp [show ¬ k + 1 > a by omega]
    · simp [h]
theorem insOuter_go' (a b i : Nat) (d : Array α) (h : i < b) : insOuter lt a b i d = insOuter lt a b (i + 1) (insInner lt a i d) := by rw [insOuter, if_pos h]
theorem insOuter_stop' (a b i : Nat) (d : Array α) (h : ¬ i < b) : insOuter lt a b i d = d := by rw [insOuter, if_neg h]
end

set_option maxRecDepth 100000 in
set_option maxHeartbeats 1600000 in
theorem insertion_any (g e cap a b : Nat) (d : Array Int) (rest : List Value) (w : World) (hr : RowV w g e d rest) (hab : a ≤ b) (hb : b ≤ d.size) (hsz : d.size < 4611686018427387904) :
    Calls Try.prog 87 #[.slice (some ⟨g, 0, none⟩) d.size cap, .int .i64 a, .int .i64 b] w fun e' w' => e' = .returned (.tuple #[]) ∧ RowV w' g e (insertionSort ltInt d a b) rest ∧ Chg w w' (fun i => i = g) := by
  have HR := Lib.hid hr; clear hr
  go_enter Try.func87, Try.ntmps87
  go_wp2_with fail
  go_loopg [6] (b + 1 - a) (fun n vi wr => ∃ (i : Nat) (dk : Array Int), vi = .int .i64 i ∧ b + 1 ≤ n + i ∧ a < i ∧ i ≤ b + 1 ∧ dk.size = d.size ∧ RowV wr g e dk rest ∧ Chg w wr (fun i => i = g) ∧ insOuter ltInt a b i dk = insOuter ltInt a b (a + 1) d)
  case atStart => exact ⟨a + 1, d, by go_num, by omega, by omega, by omega, rfl, HR.out, Chg.refl _ _, rfl⟩
  case round =>
    obtain ⟨i, dk, rfl, hg, hai, hib, hsk, hrk, hck, hO⟩ := hrel
    have HO := Lib.hid hO; have HRK := Lib.hid hrk; have HCK := Lib.hid hck; have HG := Lib.hid hg
    clear hO hrk hck hg
    obtain ⟨wo, rfl⟩ : ∃ wo : World, wo = wr := ⟨_, rfl⟩
    obtain ⟨g0, rfl⟩ : ∃ g0 : Nat, g0 = gk := ⟨_, rfl⟩
    by_cases hlt : i < b
    · go_wp2_with fail
      go_loopg [7] i (fun n vj wr => ∃ (j : Nat) (dj : Array Int), vj = .int .i64 j ∧ j ≤ n ∧ a ≤ j ∧ j ≤ i ∧ dj.size = d.size ∧ RowV wr g e dj rest ∧ Chg w wr (fun i => i = g) ∧ insInner ltInt a j dj = insInner ltInt a i dk)
      case atStart => exact ⟨i, dk, rfl, by omega, by omega, Nat.le_refl _, hsk, HRK.out, HCK.out, rfl⟩
      case round =>
        obtain ⟨j, dj, rfl, hjn, haj, hji, hsj, hrj, hcj, hI⟩ := hrel
        have HI := Lib.hid hI; have HRJ := Lib.hid hrj; have HCJ := Lib.hid hcj; have HJ := Lib.hid hjn
        clear hI hrj hcj hjn
        by_cases hja : a < j
        · have hj1 : j < dj.size := by omega
          have hj2 : j - 1 < dj.size := by omega
          have c1 := HRJ.out.cell hj1
          have c2 := HRJ.out.cell hj2
          have f1 := HRJ.out.free j
          have f2 := HRJ.out.free (j - 1)
          obtain ⟨x, hx⟩ : ∃ x, x = dj[j]! := ⟨_, rfl⟩
          obtain ⟨y, hy⟩ : ∃ y, y = dj[j - 1]! := ⟨_, rfl⟩
          rw [← hx] at c1; rw [← hy] at c2
          have HX := Lib.hid hx; have HY := Lib.hid hy
          clear hx hy hj1 hj2
          go_wp2_with fail
          go_quiet (first | (go_at_call 93; refine Calls.quiet_of_same (less_any _ _ _)))
          cases hl : ltInt x y
          · go_wp2_with fail
            go_roundg (g0 - 1)
            case measure => have := HG.out; omega
            case rel =>
              refine ⟨i + 1, dj, by go_num, by have := HG.out; omega, by omega, by omega, hsj, HRJ.out.chg (Chg.drewN wr nq (fun _ => False)) (by simp), HCJ.out.then (Chg.drewN _ _ _), ?_⟩
              rw [← HO.out, insOuter_go' _ _ _ _ _ hlt, ← HI.out, insInner_stop' _ _ _ _ (.inr (by rw [← HX.out, ← HY.out]; exact hl))]
          · go_wp2_with fail
            go_region
            all_goals go_wp2_with fail
            go_roundg (gk - 1)
            case measure => have := HJ.out; omega
            case rel =>
              refine ⟨j - 1, swp dj j (j - 1), by congr 1; omega, by have := HJ.out; omega, by omega, by omega, by rw [size_swp']; exact hsj, ?_, ?_, ?_⟩
              · have h1 := (HRJ.out.chg (Chg.drewN wr (nq + 1) (fun _ => False)) (by simp)).swap (j := j) (k := j - 1) (by omega) (by omega)
                rw [← HX.out, ← HY.out] at h1
                exact h1
              · exact ((HCJ.out.then (Chg.drewN wr (nq + 1) _)).then (Chg.setCell _ _ _ _ (fun _ => rfl))).then (Chg.setCell _ _ _ _ (fun _ => rfl))
              · rw [← HI.out, insInner_go' ltInt a j dj hja (by rw [← HX.out, ← HY.out]; exact hl)]
        · go_wp2_with fail
          go_quiet (first | (go_at_call 93; refine Calls.quiet_of_same (less_any _ _ _)))
          go_wp2_with fail
          go_roundg (g0 - 1)
          case measure => have := HG.out; omega
          case rel =>
            refine ⟨i + 1, dj, by go_num, by have := HG.out; omega, by omega, by omega, hsj, HRJ.out.chg (Chg.drewN wr nq (fun _ => False)) (by simp), HCJ.out.then (Chg.drewN _ _ _), ?_⟩
            rw [← HO.out, insOuter_go' _ _ _ _ _ hlt, ← HI.out, insInner_stop' _ _ _ _ (.inl (by omega))]
    · go_wp2_with fail
      have he : insertionSort ltInt d a b = dk := by unfold insertionSort; rw [← HO.out, insOuter_stop' _ _ _ _ _ hlt]
      go_end0
      exact ⟨rfl, by rw [he]; exact HRK.out, HCK.out⟩

theorem insertion_nil (w : World) : Calls Try.prog 87 #[.slice none 0 0, .int .i64 0, .int .i64 0] w fun e' w' => e' = .returned (.tuple #[]) ∧ w = w' := by
  go_enter Try.func87, Try.ntmps87
  go_wp2_with fail
  refine wp_loop_rounds 1 ?_
  rw [rounds_succ]
  go_wp2_with fail
  go_end0
  exact ⟨rfl, rfl⟩
set_option maxRecDepth 100000 in
set_option maxHeartbeats 1600000 in
theorem pdq_small (g e cap k : Nat) (d : Array Int) (rest : List Value) (w : World) (hr : RowV w g e d rest) (hsz : d.size ≤ 12) :
    Calls Try.prog 60 #[.slice (some ⟨g, 0, none⟩) d.size cap, .int .i64 0, .int .i64 d.size, .int .i64 k] w fun e' w' => e' = .returned (.tuple #[]) ∧ RowV w' g e (insertionSort ltInt d 0 d.size) rest ∧ Chg w w' (fun i => i = g) := by
  have HR := Lib.hid hr; clear hr
  go_enter Try.func60, Try.ntmps60
  go_wp2_with fail
  refine wp_loop_rounds 1 ?_
  rw [rounds_succ]
  go_wp2_with (first
    | (go_at_call 87; refine (insertion_any g e cap 0 d.size d rest _ HR.out (by omega) (Nat.le_refl _) (by omega)).mono ?_; rintro e' w1 ⟨rfl, hr1, hc1⟩)
    | fail)
  refine bodyPost_ret (results_none rfl _ _ _) rfl ⟨rfl, hr1, hc1⟩
set_option maxRecDepth 100000 in
set_option maxHeartbeats 1600000 in
theorem pdq_nil (k : Nat) (w : World) : Calls Try.prog 60 #[.slice none 0 0, .int .i64 0, .int .i64 0, .int .i64 k] w fun e' w' => e' = .returned (.tuple #[]) ∧ w = w' := by
  go_enter Try.func60, Try.ntmps60
  go_wp2_with fail
  refine wp_loop_rounds 1 ?_
  rw [rounds_succ]
  go_wp2_with (first
    | (go_at_call 87; refine (insertion_nil _).mono ?_; rintro e' w1 ⟨rfl, rfl⟩)
    | fail)
  refine bodyPost_ret (results_none rfl _ _ _) rfl ⟨rfl, rfl⟩

/-- what the sort leaves -/
def Sorted (w : World) (g e : Nat) (d : Array Int) (rest : List Value) (e' : Ending) (w' : World) : Prop :=
  e' = .returned (.tuple #[]) ∧ ∃ d' : Array Int, RowV w' g e d' rest ∧ d'.size = d.size ∧ d'.toList.Perm d.toList ∧ d'.toList.Pairwise (· ≤ ·) ∧ Chg w w' (fun i => i = g)
theorem sorted_of {d d' : Array Int} (hp : PermIn 0 d.size d d') (hs : SortedIn ltInt 0 d.size d') : d'.size = d.size ∧ d'.toList.Perm d.toList ∧ d'.toList.Pairwise (· ≤ ·) := by
  refine ⟨hp.1, ?_, ?_⟩
  · have := hp.2.2
    have e1 : (d'.extract 0 d.size).toList = d'.toList := by rw [← hp.1]; simp
    have e2 : (d.extract 0 d.size).toList = d.toList := by simp
    rwa [e1, e2] at this
  · rw [List.pairwise_iff_getElem]
    intro i j hi hj hij
    have := hs i j (by omega) hij (by simpa [hp.1] using hj)
    simp only [Array.length_toList] at hi hj
    simp only [ltInt, decide_eq_false_iff_not, Int.not_lt] at this
    rw [getElem!_pos d' i hi, getElem!_pos d' j hj] at this
    simpa using this
theorem len_any (n : Nat) (w : World) (h : n ≤ 100000) : Calls Try.prog 61 #[.int .u64 (n : Int)] w fun e w' => e = .returned (.int .i64 ((Lib.bitLen n : Nat) : Int)) ∧ w' = w := by
  have := Try.bits_Len (n : Int) w (by omega) (by omega)
  simpa using this
set_option maxRecDepth 100000 in
theorem sort_small (g e cap : Nat) (d : Array Int) (rest : List Value) (w : World) (hr : RowV w g e d rest) (hsz : d.size ≤ 12) :
    Calls Try.prog 34 #[.slice (some ⟨g, 0, none⟩) d.size cap] w (Sorted w g e d rest) := by
  have HR := Lib.hid hr; clear hr
  go_enter Try.func34, Try.ntmps34
  go_wp2_with (first
    | (go_at_call 61; refine (len_any d.size _ (by omega)).mono ?_; rintro e' w1 ⟨rfl, rfl⟩)
    | (go_at_call 60; refine (pdq_small g e cap _ d rest _ HR.out hsz).mono ?_; rintro e' w1 ⟨rfl, hr1, hc1⟩)
    | fail)
  go_end0
  obtain ⟨h1, h2⟩ := insertionSort_holds swo_ltInt d 0 d.size (Nat.zero_le _) (Nat.le_refl _)
  obtain ⟨h3, h4, h5⟩ := sorted_of h1 h2
  exact ⟨rfl, _, hr1, h3, h4, h5, hc1⟩
set_option maxRecDepth 100000 in
theorem sort_nil (w : World) : Calls Try.prog 34 #[.slice none 0 0] w fun e' w' => e' = .returned (.tuple #[]) ∧ w = w' := by
  have hl : ∀ w, Calls Try.prog 61 #[.int .u64 0] w fun e w' => e = .returned (.int .i64 ((Lib.bitLen 0 : Nat) : Int)) ∧ w' = w := fun w => by have := len_any 0 w (by omega); simpa using this
  go_enter Try.func34, Try.ntmps34
  go_wp2_with (first
    | (go_at_call 61; refine (hl _).mono ?_; rintro e' w1 ⟨rfl, rfl⟩)
    | (go_at_call 60; refine (pdq_nil _ _).mono ?_; rintro e' w1 ⟨rfl, rfl⟩)
    | fail)
  go_end0
  exact ⟨rfl, rfl⟩
end Go.Proofs.Ytcgccoigjcdjeaa
