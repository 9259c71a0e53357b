/- confchange.symdiff: how many members are in one of two sets alone. Condition: fewer than a million members. -/
import Derived.Test.YtcgccoigjcdjeaaConfB
namespace Go.Proofs.Ytcgccoigjcdjeaa
open Go.RowKit

/-- how many of a are not in b -/
def cnt (a b : List Int) : Nat := (a.filter fun x => !decide (x ∈ b)).length
theorem cnt_perm {a b : List Int} (h : a.Perm b) (c : List Int) : cnt a c = cnt b c := (h.filter _).length_eq
theorem cnt_le (a b : List Int) : cnt a b ≤ a.length := List.length_filter_le _ _
theorem cnt_snoc (a b : List Int) (k : Int) : cnt (a ++ [k]) b = cnt a b + if k ∈ b then 0 else 1 := by
  unfold cnt
  rw [List.filter_append]
  by_cases h : k ∈ b <;> simp [h]

def sdTo (i : Nat) (l r : List Int) : Nat := (if 0 < i then cnt l r else 0) + (if 1 < i then cnt r l else 0)
theorem sdTo_le (i : Nat) (l r : List Int) : sdTo i l r ≤ l.length + r.length := by
  have := cnt_le l r; have := cnt_le r l
  unfold sdTo; split <;> split <;> omega

set_option maxRecDepth 100000 in
set_option maxHeartbeats 400000 in
theorem symdiff_any (ol or' : Option Nat) (l r : List Int) (w : World) (hl : SetV w ol l) (hr : SetV w or' r) (hsz : l.length + r.length ≤ 1000000) :
    Calls Try.prog 80 #[.map ol, .map or'] w fun e w' => e = .returned (.int .i64 ((cnt l r + cnt r l : Nat) : Int)) ∧ New w w' := by
  have HL := Lib.hid hl; have HR := Lib.hid hr; clear hl hr
  go_enter Try.func80, Try.ntmps80
  go_wp2
  go_loopg [5, 21] 3 (fun n c j wr => ∃ i : Int, (i = 0 ∨ i = 1 ∨ i = 2) ∧ 3 ≤ n + i.toNat ∧ j = .int .i64 i ∧ c = .int .i64 ((sdTo i.toNat l r : Nat) : Int) ∧
    wr.heap[w.heap.size]? = some (.cells #[.map ol, .map or', .map or', .map ol] 71 (0, 0)) ∧ New w wr)
  case atStart => exact ⟨0, .inl rfl, by omega, rfl, by simp [sdTo], block_new w _, Chg.alloc w _ _⟩
  case round =>
    obtain ⟨i, hi, hn, rfl, rfl, hP, hnew⟩ := hrel
    have HN := Lib.hid hnew; have HP := Lib.hid hP; have HG := Lib.hid hn
    clear hnew hP hn
    have hsd := sdTo_le i.toNat l r
    rcases hi with rfl | rfl | rfl
    rotate_left 2
    · go_wp2
      go_ret
      exact ⟨by simp [sdTo], HN.out⟩
    all_goals
      obtain ⟨wo, rfl⟩ : ∃ wo : World, wo = wr := ⟨_, rfl⟩
      obtain ⟨g0, rfl⟩ : ∃ g0 : Nat, g0 = gk := ⟨_, rfl⟩
      have hlo : SetV wo ol l := HL.out.chg HN.out (by simp)
      have hro : SetV wo or' r := HR.out.chg HN.out (by simp)
      have HLO := Lib.hid hlo; have HRO := Lib.hid hro; clear hlo hro
      have hlw : ∀ b, ol = some b → b < w.heap.size := fun b e => by have := HL.out; subst e; exact this.lt
      have hrw : ∀ b, or' = some b → b < w.heap.size := fun b e => by have := HR.out; subst e; exact this.lt
      have HLW := Lib.hid hlw; have HRW := Lib.hid hrw; clear hlw hrw
      have hwo := HN.out.size
      have hPlt := lt_of_block HP.out
    · have c0 := cell_of_block (off := 0) HP.out rfl
      have c1 := cell_of_block (off := 1) HP.out rfl
      generalize hbase : sdTo (Int.toNat 0) l r = base at hsd
      have HBASE := Lib.hid hbase; clear hbase
      go_wp2_with (first | (at_range; refine set_range rfl _ _ rfl mt70 rfl (HLO.out.alloc _) ?_; intro w1 r1 s1 z1) | go_in)
      go_frame
      simp only [World.size_alloc] at r1 z1 ⊢
      go_loopg [5] l.length (fun n c wr => ∃ done : List Int, l.length ≤ done.length + n ∧ RangS wr (wo.heap.size + 1) ol l done ∧ c = .int .i64 ((base + cnt done r : Nat) : Int) ∧
        wr.heap[wo.heap.size]? = some (.cells #[.map ol, .map or'] 71 (0, 0)) ∧ New wo wr)
      case atStart =>
        refine ⟨[], by simp, r1, by simp [cnt], s1.chg.keeps (block_new wo _) (by simp), (Chg.alloc wo _ _).then s1.chg⟩
      case round =>
        obtain ⟨done, hn, hr, rfl, hT, hnew⟩ := hrel
        have hcd := hr.len
        have hcn := cnt_le done r
        have cT := cell_of_block (off := 1) hT rfl
        have hbo : SetV wr or' r := HRO.out.chg hnew (by simp)
        have HN1 := Lib.hid hnew; have HR1 := Lib.hid hr; have HL1 := Lib.hid hn; have HT := Lib.hid hT; have HBB := Lib.hid hbo
        clear hnew hr hn hT hbo r1 s1 z1
        go_wp2_with (first
          | (at_next; refine set_next rfl _ rfl rfl HR1.out ?_ ?_)
          | go_in)
        · intro hp
          go_wp2
          go_roundg (g0 - 1)
          case measure => have := HG.out; omega
          case rel =>
            refine ⟨0 + 1, by omega, by have := HG.out; simp at this ⊢; omega, by go_num, ?_, HN1.out.keeps HP.out (by simp), HN.out.then HN1.out⟩
            rw [cnt_perm hp, ← HBASE.out]; simp [sdTo]
        · intro k w2 hk hnk r2 s2 z2 hen
          have hbo2 := HBB.out.chg s2.chg (by intro i hi; have := HRW.out i hi; omega)
          have c2 := s2.cell
          have f2 := s2.frozen
          have hl := r2.len
          simp only [List.length_append, List.length_cons, List.length_nil] at hl
          have hsn := cnt_snoc done r k
          have HSN := Lib.hid hsn; clear hsn
          by_cases hkb : k ∈ r
          · have hd : decide (k ∈ r) = true := by simpa using hkb
            go_wp2_with (first
              | (at_lookup; refine set_lookup rfl _ _ _ rfl mt70 rfl hbo2 rfl ?_)
              | go_in)
            go_roundg (gk - 1)
            case measure => have := HL1.out; omega
            case rel =>
              refine ⟨done ++ [k], by have := HL1.out; simp; omega, r2.alloc _, by rw [HSN.out, if_pos hkb]; rfl, ?_, ?_⟩
              · exact block_alloc (s2.chg.keeps HT.out (by omega)) _
              · exact (HN1.out.trans s2.chg (fun _ _ h => h) (fun i hi e => by omega)).then (Chg.alloc _ _ _)
          · have hd : decide (k ∈ r) = false := by simpa using hkb
            go_wp2_with (first
              | (at_lookup; refine set_lookup rfl _ _ _ rfl mt70 rfl hbo2 rfl ?_)
              | go_in)
            go_roundg (gk - 1)
            case measure => have := HL1.out; omega
            case rel =>
              refine ⟨done ++ [k], by have := HL1.out; simp; omega, r2.alloc _, by rw [HSN.out, if_neg hkb]; go_num, ?_, ?_⟩
              · exact block_alloc (s2.chg.keeps HT.out (by omega)) _
              · exact (HN1.out.trans s2.chg (fun _ _ h => h) (fun i hi e => by omega)).then (Chg.alloc _ _ _)
    · have c0 := cell_of_block (off := 2) HP.out rfl
      have c1 := cell_of_block (off := 3) HP.out rfl
      generalize hbase : sdTo (Int.toNat 1) l r = base at hsd
      have HBASE := Lib.hid hbase; clear hbase
      go_wp2_with (first | (at_range; refine set_range rfl _ _ rfl mt70 rfl (HRO.out.alloc _) ?_; intro w1 r1 s1 z1) | go_in)
      go_frame
      simp only [World.size_alloc] at r1 z1 ⊢
      go_loopg [5] r.length (fun n c wr => ∃ done : List Int, r.length ≤ done.length + n ∧ RangS wr (wo.heap.size + 1) or' r done ∧ c = .int .i64 ((base + cnt done l : Nat) : Int) ∧
        wr.heap[wo.heap.size]? = some (.cells #[.map or', .map ol] 71 (0, 0)) ∧ New wo wr)
      case atStart =>
        refine ⟨[], by simp, r1, by simp [cnt], s1.chg.keeps (block_new wo _) (by simp), (Chg.alloc wo _ _).then s1.chg⟩
      case round =>
        obtain ⟨done, hn, hr, rfl, hT, hnew⟩ := hrel
        have hcd := hr.len
        have hcn := cnt_le done l
        have cT := cell_of_block (off := 1) hT rfl
        have hbo : SetV wr ol l := HLO.out.chg hnew (by simp)
        have HN1 := Lib.hid hnew; have HR1 := Lib.hid hr; have HL1 := Lib.hid hn; have HT := Lib.hid hT; have HBB := Lib.hid hbo
        clear hnew hr hn hT hbo r1 s1 z1
        go_wp2_with (first
          | (at_next; refine set_next rfl _ rfl rfl HR1.out ?_ ?_)
          | go_in)
        · intro hp
          go_wp2
          go_roundg (g0 - 1)
          case measure => have := HG.out; omega
          case rel =>
            refine ⟨1 + 1, by omega, by have := HG.out; simp at this ⊢; omega, by go_num, ?_, HN1.out.keeps HP.out (by simp), HN.out.then HN1.out⟩
            rw [cnt_perm hp, ← HBASE.out]; simp [sdTo]
        · intro k w2 hk hnk r2 s2 z2 hen
          have hbo2 := HBB.out.chg s2.chg (by intro i hi; have := HLW.out i hi; omega)
          have c2 := s2.cell
          have f2 := s2.frozen
          have hl := r2.len
          simp only [List.length_append, List.length_cons, List.length_nil] at hl
          have hsn := cnt_snoc done l k
          have HSN := Lib.hid hsn; clear hsn
          by_cases hkb : k ∈ l
          · have hd : decide (k ∈ l) = true := by simpa using hkb
            go_wp2_with (first
              | (at_lookup; refine set_lookup rfl _ _ _ rfl mt70 rfl hbo2 rfl ?_)
              | go_in)
            go_roundg (gk - 1)
            case measure => have := HL1.out; omega
            case rel =>
              refine ⟨done ++ [k], by have := HL1.out; simp; omega, r2.alloc _, by rw [HSN.out, if_pos hkb]; rfl, ?_, ?_⟩
              · exact block_alloc (s2.chg.keeps HT.out (by omega)) _
              · exact (HN1.out.trans s2.chg (fun _ _ h => h) (fun i hi e => by omega)).then (Chg.alloc _ _ _)
          · have hd : decide (k ∈ l) = false := by simpa using hkb
            go_wp2_with (first
              | (at_lookup; refine set_lookup rfl _ _ _ rfl mt70 rfl hbo2 rfl ?_)
              | go_in)
            go_roundg (gk - 1)
            case measure => have := HL1.out; omega
            case rel =>
              refine ⟨done ++ [k], by have := HL1.out; simp; omega, r2.alloc _, by rw [HSN.out, if_neg hkb]; go_num, ?_, ?_⟩
              · exact block_alloc (s2.chg.keeps HT.out (by omega)) _
              · exact (HN1.out.trans s2.chg (fun _ _ h => h) (fun i hi e => by omega)).then (Chg.alloc _ _ _)
end Go.Proofs.Ytcgccoigjcdjeaa
