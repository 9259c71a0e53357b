/- The library's sort at numbers: xorshift.Next, nextPowerOfTwo, breakPatternsOrdered. Condition: a slice at the head of its block; of the last: 13 to 49 numbers. -/
import Derived.Test.YtcgccoigjcdjeaaSortC
import Derived.Laws.Bits64b
namespace Go.Proofs.Ytcgccoigjcdjeaa
open Go.RowKit Go.Sort

/-- the count of swaps, in a block of its own -/
def Sw (w : World) (sb : Nat) (s : Nat) : Prop := w.heap[sb]? = some (.cells #[.int .i64 s] 3 (0, 0))
theorem Sw.chg {w w' : World} {S : Nat → Prop} {sb s : Nat} (h : Sw w sb s) (c : Chg w w' S) (hS : ¬ S sb) : Sw w' sb s := c.keeps h hS
set_option maxRecDepth 100000 in
set_option maxHeartbeats 1600000 in
theorem order2_any (g e cap a b sb s : Nat) (d : Array Int) (rest : List Value) (w : World) (hr : RowV w g e d rest) (ha : a < d.size) (hb : b < d.size) (_hsz : d.size < 1152921504606846976) (hs : Sw w sb s) (hss : s ≤ 1000) :
    Calls Try.prog 118 #[.slice (some ⟨g, 0, none⟩) d.size cap, .int .i64 a, .int .i64 b, .pointer (some ⟨sb, 0, none⟩)] w fun e' w' => (∃ x y s' : Nat, e' = .returned (.tuple #[.int .i64 x, .int .i64 y]) ∧ ((x = a ∧ y = b) ∨ (x = b ∧ y = a)) ∧ s' ≤ s + 1 ∧ Sw w' sb s') ∧ Chg w w' (fun i => i = sb) := by
  have HR := Lib.hid hr; have HS := Lib.hid hs
  have ca := hr.cell ha
  have cb := hr.cell hb
  have cs := cell_of_block (off := 0) hs rfl
  have fs := free_of_block (off := 0) hs
  obtain ⟨x, hx⟩ : ∃ x, x = d[a]! := ⟨_, rfl⟩
  obtain ⟨y, hy⟩ : ∃ y, y = d[b]! := ⟨_, rfl⟩
  rw [← hx] at ca; rw [← hy] at cb
  have hai : (a : Int) < (d.size : Int) := by omega
  have hbi : (b : Int) < (d.size : Int) := by omega
  clear hr hs hx hy
  cases hl : ltInt y x
  · go_enter Try.func118, Try.ntmps118
    go_wp2_with fail
    go_quiet (first | (go_at_call 93; refine Calls.quiet_of_same (less_any _ _ _)))
    go_wp2_with fail
    all_goals first | (rename_i hc; rw [hl] at hc; cases hc; done) | skip
    go_ret2
    exact ⟨⟨a, b, s, rfl, .inl ⟨rfl, rfl⟩, by omega, HS.out.chg (Chg.drewN _ _ (fun _ => False)) (fun h => h)⟩, Chg.drewN _ _ _⟩
  · go_enter Try.func118, Try.ntmps118
    go_wp2_with fail
    go_quiet (first | (go_at_call 93; refine Calls.quiet_of_same (less_any _ _ _)))
    go_wp2_with fail
    all_goals first | (rename_i hc; rw [hl] at hc; cases hc; done) | skip
    go_ret2
    refine ⟨⟨b, a, s + 1, rfl, .inr ⟨rfl, rfl⟩, by omega, ?_⟩, ?_⟩
    · have h1 := block_setCell (off := 0) (HS.out.chg (Chg.drewN w nq (fun _ => False)) (by simp)) (.int .i64 ((s : Int) + 1))
      have e1 : ((s : Int) + 1) = ((s + 1 : Nat) : Int) := by omega
      unfold Sw
      rw [← e1]
      first | exact h1 | simpa using h1
    · first
        | exact (Chg.drewN w nq _).then (Chg.setCell _ _ _ _ (fun _ => rfl))
        | exact (Chg.setCell _ _ _ _ (fun _ => rfl)).then (Chg.drewN _ _ _)

theorem order2_n (g e cap a b sb s m : Nat) (d : Array Int) (rest : List Value) (w : World) (hr : RowV w g e d rest) (hm : d.size = m) (ha : a < m) (hb : b < m) (hsz : m < 1152921504606846976) (hs : Sw w sb s) (hss : s ≤ 1000) :
    Calls Try.prog 118 #[.slice (some ⟨g, 0, none⟩) m cap, .int .i64 a, .int .i64 b, .pointer (some ⟨sb, 0, none⟩)] w fun e' w' => (∃ x y s' : Nat, e' = .returned (.tuple #[.int .i64 x, .int .i64 y]) ∧ ((x = a ∧ y = b) ∨ (x = b ∧ y = a)) ∧ s' ≤ s + 1 ∧ Sw w' sb s') ∧ Chg w w' (fun i => i = sb) := by
  subst hm; exact order2_any g e cap a b sb s d rest w hr ha hb hsz hs hss
set_option maxRecDepth 100000 in
set_option maxHeartbeats 1600000 in
theorem median_any (g e cap a b c sb s : Nat) (d : Array Int) (rest : List Value) (w : World) (hr : RowV w g e d rest) (ha : a < d.size) (hb : b < d.size) (hc : c < d.size) (hsz : d.size < 1152921504606846976) (hs : Sw w sb s) (hss : s ≤ 900) (hg : g ≠ sb) :
    Calls Try.prog 111 #[.slice (some ⟨g, 0, none⟩) d.size cap, .int .i64 a, .int .i64 b, .int .i64 c, .pointer (some ⟨sb, 0, none⟩)] w fun e' w' => (∃ x s' : Nat, e' = .returned (.int .i64 x) ∧ (x = a ∨ x = b ∨ x = c) ∧ s' ≤ s + 3 ∧ Sw w' sb s') ∧ Chg w w' (fun i => i = sb) := by
  have HR := Lib.hid hr; have HS := Lib.hid hs
  clear hr hs
  go_enter Try.func111, Try.ntmps111
  go_wp2_with fail
  refine (order2_any g e cap a b sb s d rest _ HR.out ha hb hsz HS.out (by omega)).mono ?_
  rintro e1 w1 ⟨⟨x1, y1, s1, rfl, hx1, hs1, hw1⟩, c1⟩
  have HW1 := Lib.hid hw1; have C1 := Lib.hid c1; have R1 := Lib.hid (HR.out.chg c1 hg); have X1 := Lib.hid hx1
  have hy1 : y1 < d.size := by omega
  have hx1' : x1 < d.size := by omega
  clear hw1 c1 hx1
  go_wp2_with fail
  refine (order2_any g e cap y1 c sb s1 d rest _ R1.out hy1 hc hsz HW1.out (by omega)).mono ?_
  rintro e2 w2 ⟨⟨x2, y2, s2, rfl, hx2, hs2, hw2⟩, c2⟩
  have HW2 := Lib.hid hw2; have C2 := Lib.hid (C1.out.then c2); have R2 := Lib.hid (R1.out.chg c2 hg); have X2 := Lib.hid hx2
  have hx2' : x2 < d.size := by omega
  clear hw2 c2 hx2
  go_wp2_with fail
  refine (order2_any g e cap x1 x2 sb s2 d rest _ R2.out hx1' hx2' hsz HW2.out (by omega)).mono ?_
  rintro e3 w3 ⟨⟨x3, y3, s3, rfl, hx3, hs3, hw3⟩, c3⟩
  have HW3 := Lib.hid hw3; have C3 := Lib.hid (C2.out.then c3); have X3 := Lib.hid hx3
  clear hw3 c3 hx3
  go_wp2_with fail
  refine bodyPost_ret (results_tmp rfl _ _ _) rfl ⟨⟨y3, s3, rfl, ?_, by omega, HW3.out⟩, C3.out⟩
  have h1 := X1.out; have h2 := X2.out; have h3 := X3.out
  omega

set_option maxRecDepth 100000 in
set_option maxHeartbeats 1600000 in
theorem pivot_any (g e cap a b : Nat) (d : Array Int) (rest : List Value) (w : World) (hr : RowV w g e d rest) (hab : a + 12 < b) (hab2 : b < a + 50) (hb : b ≤ d.size) (hsz : d.size < 1152921504606846976) :
    Calls Try.prog 90 #[.slice (some ⟨g, 0, none⟩) d.size cap, .int .i64 a, .int .i64 b] w fun e' w' => (∃ p h : Nat, e' = .returned (.tuple #[.int .i64 p, .int .i64 h]) ∧ a ≤ p ∧ p < b ∧ h ≤ 1) ∧ New w w' := by
  have HR := Lib.hid hr; clear hr
  obtain ⟨l, hl⟩ : ∃ l : Nat, l = b - a := ⟨_, rfl⟩
  have hlI : (b : Int) - (a : Int) = (l : Int) := by omega
  obtain ⟨i1, hi1⟩ : ∃ x : Nat, x = a + l / 4 * 1 := ⟨_, rfl⟩
  obtain ⟨i2, hi2⟩ : ∃ x : Nat, x = a + l / 4 * 2 := ⟨_, rfl⟩
  obtain ⟨i3, hi3⟩ : ∃ x : Nat, x = a + l / 4 * 3 := ⟨_, rfl⟩
  have h1I : (a : Int) + (l : Int) / 4 = (i1 : Int) := by omega
  have h2I : (a : Int) + (l : Int) / 4 * 2 = (i2 : Int) := by omega
  have h3I : (a : Int) + (l : Int) / 4 * 3 = (i3 : Int) := by omega
  have hl12 : 12 < l := by omega
  have hl50 : l < 50 := by omega
  have hb1 : i1 < b ∧ a ≤ i1 := by omega
  have hb2 : i2 < b ∧ a ≤ i2 := by omega
  have hb3 : i3 < b ∧ a ≤ i3 := by omega
  have hd8 : decide ((8 : Int) ≤ (l : Int)) = true := by simp; omega
  have hd50 : decide ((50 : Int) ≤ (l : Int)) = false := by simp; omega
  have hgs : g ≠ w.heap.size := by have := lt_of_block HR.out; omega
  clear hl hi1 hi2 hi3
  go_enter Try.func90, Try.ntmps90
  go_wp2_with fail
  refine (median_any g e cap i1 i2 i3 w.heap.size 0 d rest _ (HR.out.chg (Chg.alloc w _ (fun _ => False)) (by simp)) (by omega) (by omega) (by omega) hsz (block_new w _) (by omega) hgs).mono ?_
  rintro e1 w1 ⟨⟨x, s, rfl, hx, hs, hw⟩, c1⟩
  have cs := cell_of_block (off := 0) hw rfl
  have hxr : a ≤ x ∧ x < b := by omega
  have NW := Lib.hid ((Chg.alloc w (.cells #[.int .i64 0] 3) (fun _ => False)).trans c1 (fun _ _ h => h) (fun i hi e => by omega))
  have HXR := Lib.hid hxr
  clear hw c1 hx hxr h1I h2I h3I hlI hb1 hb2 hb3
  by_cases h0 : s = 0
  · subst h0
    go_wp2_with fail
    go_ret2
    exact ⟨⟨x, 1, rfl, HXR.out.1, HXR.out.2, Nat.le_refl _⟩, NW.out⟩
  · have hs0 : ((s : Int) == 0) = false := by simpa using h0
    have hs12 : ((s : Int) == 12) = false := by simp; omega
    clear h0
    go_wp2_with fail
    go_ret2
    exact ⟨⟨x, 0, rfl, HXR.out.1, HXR.out.2, Nat.zero_le _⟩, NW.out⟩

set_option maxRecDepth 100000 in
set_option maxHeartbeats 1600000 in
theorem partial_any (g e cap a b : Nat) (d : Array Int) (rest : List Value) (w : World) (hr : RowV w g e d rest) (hab : a + 12 < b) (hab2 : b < a + 50) (hb : b ≤ d.size) (hsz : d.size < 1152921504606846976) :
    Calls Try.prog 92 #[.slice (some ⟨g, 0, none⟩) d.size cap, .int .i64 a, .int .i64 b] w fun e' w' => (∃ r : Bool, e' = .returned (.bool r) ∧ (r = true → SortedIn ltInt a b d)) ∧ New w w' := by
  have HR := Lib.hid hr; clear hr
  have hd50 : decide ((b : Int) - (a : Int) < 50) = true := by simp; omega
  go_enter Try.func92, Try.ntmps92
  go_wp2_with fail
  refine wp_loop_rounds 1 ?_
  rw [rounds_succ]
  go_wp2_with fail
  go_loopg [7] (b + 1) (fun n vi wr => ∃ i : Nat, vi = .int .i64 i ∧ b + 1 ≤ n + i ∧ a + 1 ≤ i ∧ i ≤ b ∧ SortedIn ltInt a i d ∧ New w wr)
  case atStart => exact ⟨a + 1, by go_num, by omega, by omega, by omega, fun p q h1 h2 h3 => by omega, Chg.refl _ _⟩
  case round =>
    obtain ⟨i, rfl, hg, hai, hib, hso, hnw⟩ := hrel
    have HG := Lib.hid hg; have HSO := Lib.hid hso; have HNW := Lib.hid hnw
    clear hg hso hnw
    by_cases hlt : i < b
    · have hrw := HR.out.chg HNW.out (by simp)
      have c1 := hrw.cell (t := i) (by omega)
      have c2 := hrw.cell (t := i - 1) (by omega)
      obtain ⟨x, hx⟩ : ∃ x, x = d[i]! := ⟨_, rfl⟩
      obtain ⟨y, hy⟩ : ∃ y, y = d[i - 1]! := ⟨_, rfl⟩
      rw [← hx] at c1; rw [← hy] at c2
      have HX := Lib.hid hx; have HY := Lib.hid hy
      have hii : (i : Int) < (d.size : Int) := by omega
      have hdl : decide ((i : Int) < (b : Int)) = true := by simp; omega
      clear hx hy hrw
      cases hl : ltInt x y
      · have hsn := SortedIn.snoc swo_ltInt HSO.out (by rw [← HX.out, ← HY.out]; exact hl)
        have HSN := Lib.hid hsn
        clear hsn
        go_wp2_with fail
        go_quiet (first | (go_at_call 93; refine Calls.quiet_of_same (less_any _ _ _)))
        go_wp2_with fail
        go_roundg (gk - 1)
        case measure => have := HG.out; omega
        case rel => exact ⟨i + 1, by go_num, by have := HG.out; omega, by omega, by omega, HSN.out, HNW.out.then (Chg.drewN _ _ _)⟩
      · have hne : ((i : Int) == (b : Int)) = false := by simp; omega
        go_wp2_with fail
        go_quiet (first | (go_at_call 93; refine Calls.quiet_of_same (less_any _ _ _)))
        go_wp2_with fail
        refine bodyPost_ret (results_tmp rfl _ _ _) rfl ⟨⟨false, rfl, fun h => by cases h⟩, HNW.out.then (Chg.drewN _ _ _)⟩
    · have hie : i = b := by omega
      subst hie
      have hdl : decide ((i : Int) < (i : Int)) = false := by simp
      go_wp2_with fail
      go_quiet (first | (go_at_call 93; refine Calls.quiet_of_same (less_any _ _ _)))
      go_wp2_with fail
      refine bodyPost_ret (results_tmp rfl _ _ _) rfl ⟨⟨true, rfl, fun _ => HSO.out⟩, HNW.out.then (Chg.drewN _ _ _)⟩
end Go.Proofs.Ytcgccoigjcdjeaa
namespace Go.Proofs.Ytcgccoigjcdjeaa
open Go.RowKit Go.Sort

/-- a random number's cell -/
def Rc (w : World) (rb : Nat) (r : Int) : Prop := w.heap[rb]? = some (.cells #[.int .u64 r] 172 (0, 0))
theorem Rc.chg {w w' : World} {S : Nat → Prop} {rb : Nat} {r : Int} (h : Rc w rb r) (c : Chg w w' S) (hS : ¬ S rb) : Rc w' rb r := c.keeps h hS
theorem Rc.set {w : World} {rb : Nat} {r : Int} (h : Rc w rb r) (x : Int) : Rc (w.setCell ⟨rb, 0, none⟩ (.int .u64 x)).drew rb x := by
  have := block_setCell (off := 0) h (.int .u64 x)
  exact this
theorem range_bits (op : BinOp) (x y : Int) : 0 ≤ bits op .u64 x y ∧ bits op .u64 x y < 18446744073709551616 := by
  have h := wf_bits op .u64 x y
  simp [Lit.wf, IntKind.min, IntKind.max, IntKind.signed, IntKind.bits] at h
  omega
theorem and_mask (r : Int) (m : Nat) (h0 : 0 ≤ r) (h1 : r < 18446744073709551616) (hm : m = 16 ∨ m = 32 ∨ m = 64) : ∃ o : Nat, bits .and .u64 r ((m : Int) - 1) = (o : Int) ∧ o < m := by
  obtain ⟨x, rfl⟩ : ∃ x : Nat, r = (x : Int) := ⟨r.toNat, by omega⟩
  have hx : x < 18446744073709551616 := by omega
  have e : ((m : Int) - 1) = ((m - 1 : Nat) : Int) := by omega
  rw [e, bits_and_u64_nat x (m - 1) hx (by omega)]
  refine ⟨x &&& (m - 1), rfl, ?_⟩
  have := Nat.and_le_right (n := x) (m := m - 1)
  omega
set_option maxRecDepth 100000 in
set_option maxHeartbeats 1600000 in
theorem next_any (rb : Nat) (r : Int) (w : World) (hr : Rc w rb r) :
    Calls Try.prog 109 #[.pointer (some ⟨rb, 0, none⟩)] w fun e' w' => (∃ r' : Int, e' = .returned (.int .u64 r') ∧ (0 ≤ r' ∧ r' < 18446744073709551616) ∧ Rc w' rb r') ∧ Chg w w' (fun i => i = rb) := by
  have HR := Lib.hid hr
  have cr : w.cell? ⟨rb, 0, none⟩ = some (.int .u64 r) := cell_of_block (off := 0) hr rfl
  have fr := free_of_block (off := 0) hr
  clear hr
  go_enter Try.func109, Try.ntmps109
  go_wp2_with fail
  go_region
  obtain ⟨r1, hr1⟩ : ∃ r1, r1 = bits BinOp.xor IntKind.u64 r (IntKind.u64.wrap (r * 8192)) := ⟨_, rfl⟩
  rw [← hr1]
  obtain ⟨w1, hw1⟩ : ∃ w1, w1 = (w.setCell ⟨rb, 0, none⟩ (.int .u64 r1)).drew := ⟨_, rfl⟩
  rw [← hw1]
  have hR1 : Rc w1 rb r1 := by rw [hw1]; exact HR.out.set r1
  have hC1 : Chg w w1 (fun i => i = rb) := by rw [hw1]; exact (Chg.setCell w ⟨rb, 0, none⟩ _ (fun i => i = rb) (fun _ => rfl)).then (Chg.drew _ _)
  have HR1 := Lib.hid hR1; have HC1 := Lib.hid hC1
  clear hr1 hw1 hR1 hC1 cr fr
  have cr : w1.cell? ⟨rb, 0, none⟩ = some (.int .u64 r1) := cell_of_block (off := 0) HR1.out rfl
  have fr := free_of_block (off := 0) HR1.out
  go_wp2_with fail
  go_region
  obtain ⟨r2, hr2⟩ : ∃ r2, r2 = bits BinOp.xor IntKind.u64 r1 (r1 / 128) := ⟨_, rfl⟩
  rw [← hr2]
  obtain ⟨w2, hw2⟩ : ∃ w2, w2 = (w1.setCell ⟨rb, 0, none⟩ (.int .u64 r2)).drew := ⟨_, rfl⟩
  rw [← hw2]
  have hR2 : Rc w2 rb r2 := by rw [hw2]; exact HR1.out.set r2
  have hC2 : Chg w w2 (fun i => i = rb) := by rw [hw2]; exact HC1.out.then ((Chg.setCell w1 ⟨rb, 0, none⟩ _ (fun i => i = rb) (fun _ => rfl)).then (Chg.drew _ _))
  have HR2 := Lib.hid hR2; have HC2 := Lib.hid hC2
  clear hr2 hw2 hR2 hC2 cr fr
  have cr : w2.cell? ⟨rb, 0, none⟩ = some (.int .u64 r2) := cell_of_block (off := 0) HR2.out rfl
  have fr := free_of_block (off := 0) HR2.out
  go_wp2_with fail
  go_region
  obtain ⟨r3, hr3⟩ : ∃ r3, r3 = bits BinOp.xor IntKind.u64 r2 (IntKind.u64.wrap (r2 * 131072)) := ⟨_, rfl⟩
  rw [← hr3]
  have hrng : 0 ≤ r3 ∧ r3 < 18446744073709551616 := by rw [hr3]; exact range_bits _ _ _
  obtain ⟨w3, hw3⟩ : ∃ w3, w3 = (w2.setCell ⟨rb, 0, none⟩ (.int .u64 r3)).drew := ⟨_, rfl⟩
  rw [← hw3]
  have hR3 : Rc w3 rb r3 := by rw [hw3]; exact HR2.out.set r3
  have hC3 : Chg w w3 (fun i => i = rb) := by rw [hw3]; exact HC2.out.then ((Chg.setCell w2 ⟨rb, 0, none⟩ _ (fun i => i = rb) (fun _ => rfl)).then (Chg.drew _ _))
  have HR3 := Lib.hid hR3; have HC3 := Lib.hid hC3; have HRNG := Lib.hid hrng
  clear hr3 hw3 hR3 hC3 cr fr hrng
  have cr : w3.cell? ⟨rb, 0, none⟩ = some (.int .u64 r3) := cell_of_block (off := 0) HR3.out rfl
  go_wp2_with fail
  refine bodyPost_ret (results_tmp rfl _ _ _) rfl ⟨⟨r3, rfl, HRNG.out, HR3.out⟩, HC3.out⟩
theorem len_cases (l : Nat) (h8 : 8 ≤ l) (h : l < 64) : ∃ m : Nat, (m = 16 ∨ m = 32 ∨ m = 64) ∧ l ≤ m ∧ m ≤ 2 * l ∧ ((Lib.bitLen l = 4 ∧ m = 16) ∨ (Lib.bitLen l = 5 ∧ m = 32) ∨ (Lib.bitLen l = 6 ∧ m = 64)) := by
  have hd : ∀ l, l < 64 → 8 ≤ l → (Lib.bitLen l = 4 ∧ l ≤ 16) ∨ (Lib.bitLen l = 5 ∧ l ≤ 32 ∧ 16 ≤ l) ∨ (Lib.bitLen l = 6 ∧ l ≤ 64 ∧ 32 ≤ l) := by decide
  rcases hd l h h8 with ⟨h1, h2⟩ | ⟨h1, h2, h3⟩ | ⟨h1, h2, h3⟩
  · exact ⟨16, .inl rfl, h2, by omega, .inl ⟨h1, rfl⟩⟩
  · exact ⟨32, .inr (.inl rfl), h2, by omega, .inr (.inl ⟨h1, rfl⟩)⟩
  · exact ⟨64, .inr (.inr rfl), h2, by omega, .inr (.inr ⟨h1, rfl⟩)⟩
set_option maxRecDepth 100000 in
theorem pow_any (l : Nat) (w : World) (h8 : 8 ≤ l) (h : l < 64) : Calls Try.prog 108 #[.int .i64 l] w fun e' w' => (∃ m : Nat, e' = .returned (.int .u64 m) ∧ (m = 16 ∨ m = 32 ∨ m = 64) ∧ l ≤ m ∧ m ≤ 2 * l) ∧ w' = w := by
  obtain ⟨m, hm, hlm, hml, hc⟩ := len_cases l h8 h
  have hl := len_any l w (by omega)
  rcases hc with ⟨h1, rfl⟩ | ⟨h1, rfl⟩ | ⟨h1, rfl⟩
  all_goals
    rw [h1] at hl
    go_enter Try.func108, Try.ntmps108
    go_wp2_with (first
      | (go_at_call 61; refine hl.mono ?_; rintro e' w1 ⟨rfl, rfl⟩)
      | fail)
    refine bodyPost_ret (results_tmp rfl _ _ _) rfl ⟨⟨_, rfl, by decide, hlm, hml⟩, rfl⟩

set_option maxRecDepth 100000 in
set_option maxHeartbeats 3200000 in
theorem break_any (g e cap a b : Nat) (d : Array Int) (rest : List Value) (w : World) (hr : RowV w g e d rest) (hab : a + 12 < b) (hab2 : b < a + 50) (hb : b ≤ d.size) (hsz : d.size < 1152921504606846976) :
    Calls Try.prog 89 #[.slice (some ⟨g, 0, none⟩) d.size cap, .int .i64 a, .int .i64 b] w fun e' w' => e' = .returned (.tuple #[]) ∧ (∃ d', RowV w' g e d' rest ∧ PermIn a b d d') ∧ Chg w w' (fun i => i = g) := by
  have HR := Lib.hid hr
  have hgw := lt_of_block hr
  clear hr
  obtain ⟨l, hl⟩ : ∃ l : Nat, l = b - a := ⟨_, rfl⟩
  have hlI : (b : Int) - (a : Int) = (l : Int) := by omega
  obtain ⟨q0, hq0⟩ : ∃ x : Nat, x = a + l / 4 * 2 - 1 := ⟨_, rfl⟩
  obtain ⟨q1, hq1⟩ : ∃ x : Nat, x = a + l / 4 * 2 := ⟨_, rfl⟩
  have h1I : (a : Int) + (l : Int) / 4 * 2 = (q1 : Int) := by omega
  have h0I : (q1 : Int) - 1 = (q0 : Int) := by omega
  have hl12 : 12 < l := by omega
  have hl50 : l < 50 := by omega
  have hq : a ≤ q0 ∧ q0 + 2 < b := by omega
  have HQ1 := Lib.hid (show q1 = q0 + 1 by omega)
  have hla : a + l = b := by omega
  have hd8 : decide ((8 : Int) ≤ (l : Int)) = true := by simp; omega
  have HL := Lib.hid hl
  clear hl hq0 hq1
  go_enter Try.func89, Try.ntmps89
  go_wp2_with fail
  refine (pow_any l _ (by omega) (by omega)).mono ?_
  rintro e1 w1 ⟨⟨m, rfl, hm, hlm, hml⟩, rfl⟩
  have HM := Lib.hid hm
  have hm64 : 16 ≤ m ∧ m ≤ 64 := by omega
  clear hm
  go_wp2_with fail
  have hrc0 : Rc (w.alloc (.cells #[.int .u64 l] 172)) w.heap.size l := block_new w _
  have HRC0 := Lib.hid hrc0; clear hrc0
  go_loopg [9] 4 (fun n vi wr => ∃ (k : Nat) (dk : Array Int) (r : Int), vi = .int .i64 ((q0 + k : Nat) : Int) ∧ 3 ≤ n + k ∧ k ≤ 3 ∧ PermIn a b d dk ∧ RowV wr g e dk rest ∧ Rc wr w.heap.size r ∧ Chg w wr (fun i => i = g))
  case atStart => exact ⟨0, d, l, by simp, by omega, by omega, permIn_refl d a b, HR.out.chg (Chg.alloc w _ (fun _ => False)) (by simp), HRC0.out, Chg.alloc _ _ _⟩
  case round =>
    clear HR HRC0
    obtain ⟨k, dk, r, rfl, hg, hk3, hp, hrk, hrc, hck⟩ := hrel
    have HG := Lib.hid hg; have HP := Lib.hid hp; have HRK := Lib.hid hrk; have HRC := Lib.hid hrc; have HCK := Lib.hid hck
    have hsk : dk.size = d.size := hp.1
    clear hg hp hrk hrc hck
    obtain ⟨q, hqq⟩ : ∃ q, q = q0 + k := ⟨_, rfl⟩
    rw [← hqq]
    by_cases hlt : k < 3
    · have hdl : decide ((q : Int) ≤ (q1 : Int) + 1) = true := by have := HQ1.out; simp; omega
      have hqb : a ≤ q ∧ q < b := by omega
      have HQQ := Lib.hid hqq
      clear hqq
      go_wp2_with fail
      refine (next_any w.heap.size r _ HRC.out).mono ?_
      rintro e2 w2 ⟨⟨r2, rfl, hrng, hrc2⟩, hc2⟩
      obtain ⟨o, ho, hom⟩ := and_mask r2 m hrng.1 hrng.2 HM.out
      have hrw := HRK.out.chg hc2 (by omega)
      have HRK2 := Lib.hid hrw; have HRC2 := Lib.hid hrc2; have HCK2 := Lib.hid (HCK.out.trans hc2 (fun _ _ h => h) (fun i hi e => by omega))
      clear hrng hrc2 hc2 hrw
      obtain ⟨o2, ho2, hol⟩ : ∃ o2 : Nat, o2 = (if l ≤ o then o - l else o) ∧ o2 < l := ⟨_, rfl, by split <;> omega⟩
      obtain ⟨p, hpp⟩ : ∃ p, p = a + o2 := ⟨_, rfl⟩
      have hpI : (a : Int) + (o2 : Int) = (p : Int) := by omega
      have hpb : a ≤ p ∧ p < b := by omega
      have hpS : (p : Int) < (d.size : Int) := by omega
      have hqS : (q : Int) < (d.size : Int) := by omega
      have hwp : IntKind.i64.wrap (p : Int) = (p : Int) := IntWalk.i64_in _ (by omega)
      have cp := HRK2.out.cell (t := p) (by omega)
      have cq := HRK2.out.cell (t := q) (by omega)
      have fp := HRK2.out.free p
      have fq := HRK2.out.free q
      obtain ⟨x, hx⟩ : ∃ x, x = dk[q]! := ⟨_, rfl⟩
      obtain ⟨y, hy⟩ : ∃ y, y = dk[p]! := ⟨_, rfl⟩
      rw [← hx] at cq; rw [← hy] at cp
      have HX := Lib.hid hx; have HY := Lib.hid hy; have HPP := Lib.hid hpp
      have hperm : PermIn a b d (swp dk q p) := permIn_trans _ _ _ a b HP.out (swp_permIn dk a b q p hqb.1 hqb.2 hpb.1 hpb.2 (by omega))
      have HPM := Lib.hid hperm
      clear hx hy hpp hperm
      by_cases hlo : l ≤ o
      · have hge : decide ((l : Int) ≤ (o : Int)) = true := by simp; omega
        rw [if_pos hlo] at ho2
        have ho2I : (o : Int) - (l : Int) = (o2 : Int) := by omega
        clear ho2 hlo
        by_cases hqp : q = p
        · have hxy : y = x := by rw [HY.out, HX.out, hqp]
          subst hxy
          have hqI : (p : Int) = (q : Int) := by omega
          have HQP := Lib.hid hqp; clear hqp cp fp
          go_wp2_with fail
          go_region
          all_goals
            go_wp2_with fail
            go_roundg (gk - 1)
            case measure => have := HG.out; omega
            case rel =>
              refine ⟨k + 1, swp dk q q, r2, by have := HQQ.out; congr 1; omega, by have := HG.out; omega, by omega, by have h := HPM.out; rwa [← HQP.out] at h, ?_, ?_, ?_⟩
              · exact (HRK2.out.swapTo (Chg.refl w2 _) (by omega) (by omega) HX.out HX.out).chg (Chg.drew _ (fun _ => False)) (by simp)
              · exact (HRC2.out.chg (Chg.swapTo (Chg.refl w2 _) g q q _ _) (by omega)).chg (Chg.drew _ (fun _ => False)) (by simp)
              · exact HCK2.out.then ((Chg.swapTo (Chg.refl w2 _) _ _ _ _ _).then (Chg.drew _ _))
        · have hpq : ¬ p = q := fun e => hqp e.symm
          go_wp2_with fail
          go_region
          all_goals
            go_wp2_with fail
            go_roundg (gk - 1)
            case measure => have := HG.out; omega
            case rel =>
              refine ⟨k + 1, swp dk q p, r2, by have := HQQ.out; congr 1; omega, by have := HG.out; omega, by omega, HPM.out, ?_, ?_, ?_⟩
              · exact (HRK2.out.swapTo (Chg.refl w2 _) (by omega) (by omega) HY.out HX.out).chg (Chg.drew _ (fun _ => False)) (by simp)
              · exact (HRC2.out.chg (Chg.swapTo (Chg.refl w2 _) g q p _ _) (by omega)).chg (Chg.drew _ (fun _ => False)) (by simp)
              · exact HCK2.out.then ((Chg.swapTo (Chg.refl w2 _) _ _ _ _ _).then (Chg.drew _ _))
      · have hge : decide ((l : Int) ≤ (o : Int)) = false := by simp; omega
        rw [if_neg hlo] at ho2
        subst ho2
        clear hlo
        by_cases hqp : q = p
        · have hxy : y = x := by rw [HY.out, HX.out, hqp]
          subst hxy
          have hqI : (p : Int) = (q : Int) := by omega
          have HQP := Lib.hid hqp; clear hqp cp fp
          go_wp2_with fail
          go_region
          all_goals
            go_wp2_with fail
            go_roundg (gk - 1)
            case measure => have := HG.out; omega
            case rel =>
              refine ⟨k + 1, swp dk q q, r2, by have := HQQ.out; congr 1; omega, by have := HG.out; omega, by omega, by have h := HPM.out; rwa [← HQP.out] at h, ?_, ?_, ?_⟩
              · exact (HRK2.out.swapTo (Chg.refl w2 _) (by omega) (by omega) HX.out HX.out).chg (Chg.drew _ (fun _ => False)) (by simp)
              · exact (HRC2.out.chg (Chg.swapTo (Chg.refl w2 _) g q q _ _) (by omega)).chg (Chg.drew _ (fun _ => False)) (by simp)
              · exact HCK2.out.then ((Chg.swapTo (Chg.refl w2 _) _ _ _ _ _).then (Chg.drew _ _))
        · have hpq : ¬ p = q := fun e => hqp e.symm
          go_wp2_with fail
          go_region
          all_goals
            go_wp2_with fail
            go_roundg (gk - 1)
            case measure => have := HG.out; omega
            case rel =>
              refine ⟨k + 1, swp dk q p, r2, by have := HQQ.out; congr 1; omega, by have := HG.out; omega, by omega, HPM.out, ?_, ?_, ?_⟩
              · exact (HRK2.out.swapTo (Chg.refl w2 _) (by omega) (by omega) HY.out HX.out).chg (Chg.drew _ (fun _ => False)) (by simp)
              · exact (HRC2.out.chg (Chg.swapTo (Chg.refl w2 _) g q p _ _) (by omega)).chg (Chg.drew _ (fun _ => False)) (by simp)
              · exact HCK2.out.then ((Chg.swapTo (Chg.refl w2 _) _ _ _ _ _).then (Chg.drew _ _))
    · have hdl : decide ((q : Int) ≤ (q1 : Int) + 1) = false := by have := HQ1.out; simp; omega
      go_wp2_with fail
      go_end0
      exact ⟨rfl, ⟨dk, HRK.out, HP.out⟩, HCK.out⟩
end Go.Proofs.Ytcgccoigjcdjeaa
