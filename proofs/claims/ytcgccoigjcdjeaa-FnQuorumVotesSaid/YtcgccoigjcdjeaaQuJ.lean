/- quorum.MajorityConfig.CommittedIndex. Condition: at most 12 members. -/
import Derived.Test.YtcgccoigjcdjeaaQuH
namespace Go.Proofs.Ytcgccoigjcdjeaa
open Go.RowKit Go.Sort

def ackL (A : List (Int × Int)) (s : List Int) : List Int := s.filterMap (ackd A)
theorem ackL_snoc (A : List (Int × Int)) (s : List Int) (k : Int) : ackL A (s ++ [k]) = ackL A s ++ (ackd A k).toList := by
  unfold ackL; rw [List.filterMap_append]
  cases h : ackd A k <;> simp [h]
theorem ackL_le (A : List (Int × Int)) (s : List Int) : (ackL A s).length ≤ s.length := List.length_filterMap_le _ _
/-- the slice while it is filled from the right -/
def fillL (n : Nat) (v : List Int) : List Int := List.replicate (n - v.length) 0 ++ v.reverse
theorem fillL_length (n : Nat) (v : List Int) (h : v.length ≤ n) : (fillL n v).length = n := by simp [fillL]; omega
theorem fillL_set (n : Nat) (v : List Int) (x : Int) (h : v.length < n) : (fillL n v).set (n - 1 - v.length) x = fillL n (v ++ [x]) := by
  unfold fillL
  have e : n - v.length = (n - 1 - v.length) + 1 := by omega
  rw [e, List.replicate_succ', List.append_assoc, List.set_append_right _ _ (by simp)]
  simp
  omega
theorem fill_perm (A : List (Int × Int)) (s : List Int) : (fillL s.length (ackL A s)).Perm (s.map fun x => (ackd A x).getD 0) := by
  have h : ∀ s : List Int, (List.replicate (s.length - (ackL A s).length) 0 ++ ackL A s).Perm (s.map fun x => (ackd A x).getD 0) := by
    intro s
    induction s with
    | nil => simp [ackL]
    | cons x s ih =>
      have hle := ackL_le A s
      cases hx : ackd A x with
      | none =>
        have e : ackL A (x :: s) = ackL A s := by simp [ackL, hx]
        rw [e, List.map_cons, hx, List.length_cons, show s.length + 1 - (ackL A s).length = (s.length - (ackL A s).length) + 1 by omega, List.replicate_succ]
        exact ih.cons 0
      | some v =>
        have e : ackL A (x :: s) = v :: ackL A s := by simp [ackL, hx]
        rw [e, List.map_cons, hx, List.length_cons, List.length_cons, show s.length + 1 - ((ackL A s).length + 1) = s.length - (ackL A s).length by omega]
        exact List.perm_middle.trans (ih.cons v)
  exact ((List.reverse_perm _).append_left _).trans (h s)

set_option maxRecDepth 100000 in
theorem run_sliceAt (w : World) (b n : Nat) (h : n ≤ 7) : (Instr.sliceAt 161 (.pointer (some ⟨b, 0, none⟩)) none (some (.int .i64 n)) none).run Try.prog w = .ok (.slice (some ⟨b, 0, none⟩) n 7) w := by
  have hc : n = 0 ∨ n = 1 ∨ n = 2 ∨ n = 3 ∨ n = 4 ∨ n = 5 ∨ n = 6 ∨ n = 7 := by omega
  rcases hc with rfl | rfl | rfl | rfl | rfl | rfl | rfl | rfl <;> rfl
theorem op_make22 {w : World} {ops : Array Oper} {rest : List Oper} {o : Oper} {a : Act} {Q : Exit → Act → World → Prop} (hg : o.guard = none) (l c : Operand) (hop : o.op = Op.makeSlice 22 l c) (n : Nat) (hl : a.eval l = .int .i64 n) (hc : a.eval c = .int .i64 n) (hn : n ≤ 1000)
    (hK : ∀ w', RowV w' w.heap.size 28 (List.replicate n (0 : Int)).toArray [] → New w w' → w'.heap.size = w.heap.size + 1 → wpList Try.prog ops Q rest (a.put o.dst (.slice (some ⟨w.heap.size, 0, none⟩) n n)) w') : wpList Try.prog ops Q (o :: rest) a w := by
  refine wpList_plain hg fun K' hK' => ?_
  obtain ⟨i, h1', h2, h3, h4, h5, h6⟩ := st22.ex
  have h := run_make (P := Try.prog) w 22 28 i (.int .u64 0) h1' h2 h3 .i64 .i64 n n (by omega) (Int.le_refl _) (by rw [h5]; omega) (by omega)
  unfold Oper.wp
  simp [execOp, hop, hl, hc, h, Result.andThen]
  refine hK' _ _ (hK _ ?_ (Chg.alloc _ _ _) (by simp))
  unfold RowV
  rw [block_new]
  simp [madeCells, h4, Value.cells]
  apply Array.ext
  · simp
  · intro j h1 h2; simp [Nat.mod_one]
theorem sort12n (g e cap n : Nat) (d : Array Int) (rest : List Value) (w : World) (hr : RowV w g e d rest) (hn : d.size = n) (hs : n ≤ 12) : Calls Try.prog 34 #[.slice (some ⟨g, 0, none⟩) n cap] w (Sorted w g e d rest) := by
  subst hn
  exact sort12 g e cap d rest w hr hs
/-- what CommittedIndex hands back -/
def CommTo (A : List (Int × Int)) (s : List Int) (r : Int) : Prop :=
  if s = [] then r = 18446744073709551615 else ∃ d : List Int, d.Perm (s.map fun x => (ackd A x).getD 0) ∧ d.Pairwise (· ≤ ·) ∧ d[s.length - (s.length / 2 + 1)]? = some r
set_option maxRecDepth 100000 in
set_option maxHeartbeats 1600000 in
theorem comm66_any (o m : Option Nat) (s : List Int) (A : List (Int × Int)) (w : World) (hs : SetV w o s) (hm : MapV w m (ackV A)) (hn : s.length ≤ 12) :
    Calls Try.prog 66 #[.map o, .iface 67 (.map m)] w fun e w' => (∃ r, e = .returned (.int .u64 r) ∧ CommTo A s r) ∧ New w w' := by
  have HS := Lib.hid hs; have HM := Lib.hid hm; have HN := Lib.hid hn
  clear hs hm hn
  by_cases hl : s = []
  · subst hl
    go_enter Try.func66, Try.ntmps66
    go_wp2_with (first | (at_len; refine set_len rfl _ _ rfl mt70 rfl HS.out ?_) | fail)
    refine bodyPost_ret (results_tmp rfl _ _ _) rfl ⟨⟨_, rfl, by unfold CommTo; rw [if_pos rfl]⟩, Chg.refl _ _⟩
  · have hlen : 0 < s.length := List.length_pos_iff.2 hl
    have hlb : ((s.length : Int) == 0) = false := by simpa using hl
    have HL := Lib.hid hl
    clear hl
    by_cases h7 : s.length ≤ 7
    · have hd7 : decide ((s.length : Int) ≤ 7) = true := by simp; omega
      have hsl : ∀ w b, (Instr.sliceAt 161 (.pointer (some ⟨b, 0, none⟩)) none (some (.int .i64 s.length)) none).run Try.prog w = .ok (.slice (some ⟨b, 0, none⟩) s.length 7) w := fun w b => run_sliceAt w b s.length h7
      go_enter Try.func66, Try.ntmps66
      go_wp2_with (first | (at_len; refine set_len rfl _ _ rfl mt70 rfl HS.out ?_) | (at_range; refine set_range rfl _ _ rfl mt70 rfl (HS.out.alloc _) ?_; intro w1 r1 s1 z1) | fail)
      clear hsl hd7 hlb
      go_frame
      simp only [World.size_alloc] at r1 z1 ⊢
      have hrow0 : ∃ rest : List Value, rest.length = 7 - s.length ∧ RowV (w.alloc (.cells #[.int .u64 0, .int .u64 0, .int .u64 0, .int .u64 0, .int .u64 0, .int .u64 0, .int .u64 0] 161)) w.heap.size 161 (fillL s.length []).toArray rest := by
        refine ⟨List.replicate (7 - s.length) (.int .u64 0), by simp, ?_⟩
        unfold RowV
        rw [block_new]
        congr 2
        have e : (#[.int .u64 0, .int .u64 0, .int .u64 0, .int .u64 0, .int .u64 0, .int .u64 0, .int .u64 0] : Array Value) = (List.replicate 7 (Value.int .u64 0)).toArray := rfl
        rw [e]
        congr 1
        simp only [fillL, List.length_nil, Nat.sub_zero, List.reverse_nil, List.append_nil, List.map_replicate, List.replicate_append_replicate]
        congr 1; omega
      obtain ⟨rest, hrl, hrow⟩ := hrow0
      go_loopg [8, 9, 10, 11] s.length (fun n j _ _ _ wr => ∃ done : List Int, s.length ≤ done.length + n ∧ RangS wr (w.heap.size + 1) o s done ∧ j = .int .i64 ((s.length : Int) - 1 - ((ackL A done).length : Int)) ∧ RowV wr w.heap.size 161 (fillL s.length (ackL A done)).toArray rest ∧ New w wr)
      case atStart => exact ⟨[], by simp, r1, by simp [ackL], hrow.chg s1.chg (by simp), (Chg.alloc w _ _).then s1.chg⟩
      case round =>
        obtain ⟨done, hg, hr, rfl, hrow, hnew⟩ := hrel
        have hdl := hr.len
        have hal := ackL_le A done
        have HG := Lib.hid hg; have HR := Lib.hid hr; have HRW := Lib.hid hrow; have HNW := Lib.hid hnew
        clear hg hr hrow hnew r1 s1 z1
        have hfl : (fillL s.length (ackL A done)).length = s.length := fillL_length _ _ (by omega)
        have HFL := Lib.hid hfl; clear hfl
        go_wp2_with (first | (at_next; refine set_next rfl _ rfl rfl HR.out ?_ ?_) | fail)
        · intro hp
          have HP := Lib.hid hp; clear hp
          go_wp2_with (first
            | (go_at_call 34; refine (sort12n w.heap.size 161 7 s.length (fillL s.length (ackL A done)).toArray rest _ HRW.out (by simpa using HFL.out) HN.out).mono ?_; rintro e w3 ⟨rfl, d', hr3, hd1, hd2, hd3, hc3⟩; have hds : d'.size = s.length := (by simpa [HFL.out] using hd1); have cq := hr3.cell (t := s.length - (s.length / 2 + 1)) (by omega))
            | fail)
          refine bodyPost_ret (results_tmp rfl _ _ _) rfl ⟨⟨_, rfl, ?_⟩, HNW.out.trans hc3 (fun _ _ h => h) (fun i hi e => by omega)⟩
          unfold CommTo
          rw [if_neg HL.out]
          have hp1 : (fillL s.length (ackL A done)).Perm (s.map fun x => (ackd A x).getD 0) := by
            have h1 := fill_perm A done
            rw [HP.out.length_eq] at h1
            exact h1.trans (HP.out.map _)
          refine ⟨d'.toList, (by simpa using hd2 : d'.toList.Perm (fillL s.length (ackL A done))).trans hp1, hd3, ?_⟩
          have hlt : s.length - (s.length / 2 + 1) < d'.size := by omega
          rw [Array.getElem?_toList, Array.getElem?_eq_getElem hlt, getElem!_pos d' _ hlt]
        · intro k w2 hk hnk r2 s2 z2 hen
          have hm2 := (MapV.chg HM.out HNW.out (by simp)).chg s2.chg (fun i e e' => by
            have h := HM.out
            rw [e] at h
            have := MapB.lt h
            omega)
          have hrow2 := HRW.out.chg s2.chg (by omega)
          have hnw2 : New w w2 := HNW.out.trans s2.chg (fun _ _ h => h) (fun i hi e => by omega)
          have hl2 := r2.len
          simp only [List.length_append, List.length_cons, List.length_nil] at hl2
          have hsn := ackL_snoc A done k
          have HM2 := Lib.hid hm2; have HRW2 := Lib.hid hrow2; have HNW2 := Lib.hid hnw2; have HSN := Lib.hid hsn
          clear hm2 hrow2 hnw2 hsn
          obtain ⟨t, ht⟩ : ∃ t : Nat, (s.length : Int) - 1 - ((ackL A done).length : Int) = (t : Int) := ⟨s.length - 1 - (ackL A done).length, by omega⟩
          have htl : t = s.length - 1 - (ackL A done).length := by omega
          rw [ht]
          have cq := HRW2.out.cell (t := t) (by have := HFL.out; simp; omega)
          have fq := HRW2.out.free t
          have HT := Lib.hid htl; have HTT := Lib.hid ht
          have htn : t < s.length := by omega
          clear htl ht
          cases hb : ackd A k with
          | none =>
            rw [hb] at HSN
            go_wp2_with (first
              | (go_at_call 135; refine (acked_any m A k _ HM2.out).mono ?_; rw [hb]; rintro e w3 ⟨rfl, m3⟩)
              | fail)
            go_roundg (gk - 1)
            case measure => have := HG.out; omega
            case rel =>
              have e : ackL A (done ++ [k]) = ackL A done := by rw [HSN.out]; simp
              exact ⟨done ++ [k], by have := HG.out; simp; omega, r2.chg m3 (by simp) (by simp), by rw [e, HTT.out], by rw [e]; exact HRW2.out.chg m3 (by simp), HNW2.out.then m3⟩
          | some v =>
            rw [hb] at HSN
            go_wp2_with (first
              | (go_at_call 135; refine (acked_any m A k _ HM2.out).mono ?_; rw [hb]; rintro e w3 ⟨rfl, m3⟩; have cq3 := m3.has cq; have fq3 := (HRW2.out.chg m3 (by simp)).free t)
              | fail)
            go_roundg (gk - 1)
            case measure => have := HG.out; omega
            case rel =>
              have e : ackL A (done ++ [k]) = ackL A done ++ [v] := by rw [HSN.out]; simp
              have htt := HTT.out
              have hch : Chg w3 (w3.setCell ⟨w.heap.size, t, none⟩ (.int .u64 v)) (fun i => i = w.heap.size) := Chg.setCell _ _ _ _ (fun _ => rfl)
              have hob : ∀ b, o = some b → b < w.heap.size := fun b e => by have h := HS.out; rw [e] at h; exact h.lt
              refine ⟨done ++ [k], by have := HG.out; simp; omega, (r2.chg m3 (by simp) (by simp)).chg hch (by omega) (fun b e e' => by have := hob b e; omega), ?_, ?_, (HNW2.out.then m3).trans hch (fun _ _ h => h) (fun i hi e => by omega)⟩
              · rw [e]; simp only [List.length_append, List.length_cons, List.length_nil]; congr 1; omega
              · have h1 := (HRW2.out.chg m3 (by simp)).set (t := t) (by have := HFL.out; simp; omega) v
                have h2 : ((fillL s.length (ackL A done)).toArray.setIfInBounds t v) = (fillL s.length (ackL A done ++ [v])).toArray := by
                  rw [List.setIfInBounds_toArray, HT.out, fillL_set _ _ _ (by omega)]
                rw [h2] at h1
                rw [e]; exact h1
    · have hd7 : decide ((s.length : Int) ≤ 7) = false := by simp; omega
      have h12 : s.length ≤ 12 := HN.out
      go_enter Try.func66, Try.ntmps66
      go_wp2_with (first | (at_len; refine set_len rfl _ _ rfl mt70 rfl HS.out ?_) | (at_make; refine op_make22 rfl _ _ rfl s.length rfl rfl (by have := HN.out; omega) ?_; intro w0 hrow nw0 zw0; have HRW0 := Lib.hid hrow; have NW0 := Lib.hid nw0; have ZW0 := Lib.hid zw0; clear hrow nw0 zw0) | (at_range; refine set_range rfl _ _ rfl mt70 rfl (HS.out.chg ((Chg.alloc w _ (fun _ => False)).then NW0.out) (by simp)) ?_; intro w1 r1 s1 z1) | fail)
      clear hd7 hlb
      go_frame
      have hzz := ZW0.out
      simp only [World.size_alloc] at hzz
      rw [hzz] at r1 z1 ⊢
      obtain ⟨rest, hrl⟩ : ∃ rest : List Value, rest = [] := ⟨[], rfl⟩
      have hrow : RowV w0 (w.heap.size + 1) 28 (fillL s.length []).toArray rest := by
        have h := HRW0.out
        rw [World.size_alloc] at h
        rw [hrl]
        simpa [fillL] using h
      go_loopg [8, 9, 10, 11] s.length (fun n j _ _ _ wr => ∃ done : List Int, s.length ≤ done.length + n ∧ RangS wr (w.heap.size + 1 + 1) o s done ∧ j = .int .i64 ((s.length : Int) - 1 - ((ackL A done).length : Int)) ∧ RowV wr (w.heap.size + 1) 28 (fillL s.length (ackL A done)).toArray rest ∧ New w wr)
      case atStart => exact ⟨[], by simp, r1, by simp [ackL], hrow.chg s1.chg (by simp), ((Chg.alloc w _ _).then NW0.out).then s1.chg⟩
      case round =>
        obtain ⟨done, hg, hr, rfl, hrow, hnew⟩ := hrel
        have hdl := hr.len
        have hal := ackL_le A done
        have HG := Lib.hid hg; have HR := Lib.hid hr; have HRW := Lib.hid hrow; have HNW := Lib.hid hnew
        clear hg hr hrow hnew r1 s1 z1
        have hfl : (fillL s.length (ackL A done)).length = s.length := fillL_length _ _ (by omega)
        have HFL := Lib.hid hfl; clear hfl
        go_wp2_with (first | (at_next; refine set_next rfl _ rfl rfl HR.out ?_ ?_) | fail)
        · intro hp
          have HP := Lib.hid hp; clear hp
          go_wp2_with (first
            | (go_at_call 34; refine (sort12n (w.heap.size + 1) 28 s.length s.length (fillL s.length (ackL A done)).toArray rest _ HRW.out (by simpa using HFL.out) HN.out).mono ?_; rintro e w3 ⟨rfl, d', hr3, hd1, hd2, hd3, hc3⟩; have hds : d'.size = s.length := (by simpa [HFL.out] using hd1); have cq := hr3.cell (t := s.length - (s.length / 2 + 1)) (by omega))
            | fail)
          refine bodyPost_ret (results_tmp rfl _ _ _) rfl ⟨⟨_, rfl, ?_⟩, HNW.out.trans hc3 (fun _ _ h => h) (fun i hi e => by omega)⟩
          unfold CommTo
          rw [if_neg HL.out]
          have hp1 : (fillL s.length (ackL A done)).Perm (s.map fun x => (ackd A x).getD 0) := by
            have h1 := fill_perm A done
            rw [HP.out.length_eq] at h1
            exact h1.trans (HP.out.map _)
          refine ⟨d'.toList, (by simpa using hd2 : d'.toList.Perm (fillL s.length (ackL A done))).trans hp1, hd3, ?_⟩
          have hlt : s.length - (s.length / 2 + 1) < d'.size := by omega
          rw [Array.getElem?_toList, Array.getElem?_eq_getElem hlt, getElem!_pos d' _ hlt]
        · intro k w2 hk hnk r2 s2 z2 hen
          have hm2 := (MapV.chg HM.out HNW.out (by simp)).chg s2.chg (fun i e e' => by
            have h := HM.out
            rw [e] at h
            have := MapB.lt h
            omega)
          have hrow2 := HRW.out.chg s2.chg (by omega)
          have hnw2 : New w w2 := HNW.out.trans s2.chg (fun _ _ h => h) (fun i hi e => by omega)
          have hl2 := r2.len
          simp only [List.length_append, List.length_cons, List.length_nil] at hl2
          have hsn := ackL_snoc A done k
          have HM2 := Lib.hid hm2; have HRW2 := Lib.hid hrow2; have HNW2 := Lib.hid hnw2; have HSN := Lib.hid hsn
          clear hm2 hrow2 hnw2 hsn
          obtain ⟨t, ht⟩ : ∃ t : Nat, (s.length : Int) - 1 - ((ackL A done).length : Int) = (t : Int) := ⟨s.length - 1 - (ackL A done).length, by omega⟩
          have htl : t = s.length - 1 - (ackL A done).length := by omega
          rw [ht]
          have cq := HRW2.out.cell (t := t) (by have := HFL.out; simp; omega)
          have fq := HRW2.out.free t
          have HT := Lib.hid htl; have HTT := Lib.hid ht
          have htn : t < s.length := by omega
          clear htl ht
          cases hb : ackd A k with
          | none =>
            rw [hb] at HSN
            go_wp2_with (first
              | (go_at_call 135; refine (acked_any m A k _ HM2.out).mono ?_; rw [hb]; rintro e w3 ⟨rfl, m3⟩)
              | fail)
            go_roundg (gk - 1)
            case measure => have := HG.out; omega
            case rel =>
              have e : ackL A (done ++ [k]) = ackL A done := by rw [HSN.out]; simp
              exact ⟨done ++ [k], by have := HG.out; simp; omega, r2.chg m3 (by simp) (by simp), by rw [e, HTT.out], by rw [e]; exact HRW2.out.chg m3 (by simp), HNW2.out.then m3⟩
          | some v =>
            rw [hb] at HSN
            go_wp2_with (first
              | (go_at_call 135; refine (acked_any m A k _ HM2.out).mono ?_; rw [hb]; rintro e w3 ⟨rfl, m3⟩; have cq3 := m3.has cq; have fq3 := (HRW2.out.chg m3 (by simp)).free t)
              | fail)
            go_roundg (gk - 1)
            case measure => have := HG.out; omega
            case rel =>
              have e : ackL A (done ++ [k]) = ackL A done ++ [v] := by rw [HSN.out]; simp
              have htt := HTT.out
              have hch : Chg w3 (w3.setCell ⟨w.heap.size + 1, t, none⟩ (.int .u64 v)) (fun i => i = w.heap.size + 1) := Chg.setCell _ _ _ _ (fun _ => rfl)
              have hob : ∀ b, o = some b → b < w.heap.size := fun b e => by have h := HS.out; rw [e] at h; exact h.lt
              refine ⟨done ++ [k], by have := HG.out; simp; omega, (r2.chg m3 (by simp) (by simp)).chg hch (by omega) (fun b e e' => by have := hob b e; omega), ?_, ?_, (HNW2.out.then m3).trans hch (fun _ _ h => h) (fun i hi e => by omega)⟩
              · rw [e]; simp only [List.length_append, List.length_cons, List.length_nil]; congr 1; omega
              · have h1 := (HRW2.out.chg m3 (by simp)).set (t := t) (by have := HFL.out; simp; omega) v
                have h2 : ((fillL s.length (ackL A done)).toArray.setIfInBounds t v) = (fillL s.length (ackL A done ++ [v])).toArray := by
                  rw [List.setIfInBounds_toArray, HT.out, fillL_set _ _ _ (by omega)]
                rw [h2] at h1
                rw [e]; exact h1
end Go.Proofs.Ytcgccoigjcdjeaa
