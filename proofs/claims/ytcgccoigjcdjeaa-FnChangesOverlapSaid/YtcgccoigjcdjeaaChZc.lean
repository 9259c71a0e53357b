/- spec.Changed at the end of a joint state. Condition: at most 12 numbers a list. -/
import Derived.Test.YtcgccoigjcdjeaaChO2m
import Derived.Test.YtcgccoigjcdjeaaChZa
namespace Go.Proofs.Ytcgccoigjcdjeaa
open Go.RowKit Go.Sort

structure Cfg where
  V : List Int
  VO : List Int
  L : List Int
  N : List Int
  al : Bool
/-- the spec's change -/
def specC (V VO L N : List Int) (al : Bool) (way : Int) (l : List (Int × Int)) : Option Cfg :=
  if way = 4 then (if VO = [] then none else some ⟨V, [], N.foldl putC L, [], false⟩)
  else if way = 1 then (if VO = [] ∧ (l.foldl (oneC VO) (V, L, N)).1 ≠ [] ∧ cnt V (l.foldl (oneC VO) (V, L, N)).1 + cnt (l.foldl (oneC VO) (V, L, N)).1 V ≤ 1 then some ⟨(l.foldl (oneC VO) (V, L, N)).1, VO, (l.foldl (oneC VO) (V, L, N)).2.1, (l.foldl (oneC VO) (V, L, N)).2.2, al⟩ else none)
  else (if VO = [] ∧ V ≠ [] ∧ (l.foldl (oneC V) (V, L, N)).1 ≠ [] then some ⟨(l.foldl (oneC V) (V, L, N)).1, V, (l.foldl (oneC V) (V, L, N)).2.1, (l.foldl (oneC V) (V, L, N)).2.2, way == 3⟩ else none)
/-- what spec.Changed says -/
def SpecR (w : World) (r : Option Cfg) (e : Ending) (w' : World) : Prop :=
  New w w' ∧ ((∃ s cv, r = some s ∧ e = .returned (.tuple #[cv, .bool true]) ∧ Cfv w' cv s.V s.VO s.L s.N s.al) ∨ (r = none ∧ e = .returned (.tuple #[noConf, .bool false])))
/-- a block that holds a configuration -/
def BoxC (w : World) (bb : Nat) (V VO L N : List Int) (al : Bool) : Prop :=
  ∃ a b c d, w.heap[bb]? = some (.cells #[a, b, c, d, .bool al] 44 (0, 0)) ∧ (Us w a V ∧ NilOk a) ∧ (Us w b VO ∧ NilOk b) ∧ (Us w c L ∧ NilOk c) ∧ (Us w d N ∧ NilOk d)
theorem BoxC.new {w w' : World} {bb : Nat} {V VO L N : List Int} {al : Bool} (h : BoxC w bb V VO L N al) (c : New w w') : BoxC w' bb V VO L N al := by
  obtain ⟨x, y, z, u, h0, h1, h2, h3, h4⟩ := h
  exact ⟨x, y, z, u, c.keeps h0 (by simp), ⟨h1.1.new c, h1.2⟩, ⟨h2.1.new c, h2.2⟩, ⟨h3.1.new c, h3.2⟩, ⟨h4.1.new c, h4.2⟩⟩
theorem putC_len (l : List Int) (x : Int) : (putC l x).length ≤ l.length + 1 := by
  unfold putC
  split
  · omega
  · simp
theorem lessC_len (l : List Int) (x : Int) : (lessC l x).length ≤ l.length := List.length_filter_le _ _
theorem oneC_len (VO : List Int) (s : List Int × List Int × List Int) (x : Int × Int) : (oneC VO s x).1.length ≤ s.1.length + 1 ∧ (oneC VO s x).2.1.length ≤ s.2.1.length + 1 ∧ (oneC VO s x).2.2.length ≤ s.2.2.length + 1 := by
  have h1 := putC_len s.1 x.2; have h2 := putC_len s.2.1 x.2; have h3 := putC_len s.2.2 x.2
  have g1 := lessC_len s.1 x.2; have g2 := lessC_len s.2.1 x.2; have g3 := lessC_len s.2.2 x.2
  unfold oneC
  split
  · omega
  split
  · simp only; omega
  split
  · simp only; omega
  split
  · simp only; omega
  · simp only; omega
theorem foldOne_len (VO : List Int) (l : List (Int × Int)) (s : List Int × List Int × List Int) : (l.foldl (oneC VO) s).1.length ≤ s.1.length + l.length ∧ (l.foldl (oneC VO) s).2.1.length ≤ s.2.1.length + l.length ∧ (l.foldl (oneC VO) s).2.2.length ≤ s.2.2.length + l.length := by
  induction l generalizing s with
  | nil => simp
  | cons x l ih =>
    have h1 := ih (oneC VO s x)
    have h2 := oneC_len VO s x
    simp only [List.foldl_cons, List.length_cons]
    omega
end Go.Proofs.Ytcgccoigjcdjeaa
namespace Go.Proofs.Ytcgccoigjcdjeaa
open Go.RowKit Go.Sort

theorem putAll_len (l : List Int) (s : List Int) : (l.foldl putC s).length ≤ s.length + l.length := by
  induction l generalizing s with
  | nil => simp
  | cons x l ih =>
    have h1 := ih (putC s x)
    have h2 := putC_len s x
    simp only [List.foldl_cons, List.length_cons]
    omega
theorem us_nil' (w : World) : Us w (.slice none 0 0) [] := ⟨none, 0, rfl, fun i hi => by simp at hi⟩
theorem nilok_nil' : NilOk (.slice none 0 0) := fun cap h => by cases h; rfl
abbrev zeroCells : Obj := .cells #[.slice none 0 0, .slice none 0 0, .slice none 0 0, .slice none 0 0, .bool false] 44
set_option linter.unusedSimpArgs false in
set_option maxRecDepth 100000 in
set_option maxHeartbeats 3200000 in
theorem leave22 (M : Nat) (hS : SortTo M) (cv sv : Value) (V VO L N : List Int) (al : Bool) (l : List (Int × Int)) (w : World) (h : Cfv w cv V VO L N al) (hl : Chs w sv l) (hn : L.length + N.length < M) (hn1 : L.length + N.length ≤ 100000) :
    Calls Try.prog 22 #[cv, .int .i64 4, sv] w (SpecR w (specC V VO L N al 4 l)) := by
  have hspec : specC V VO L N al 4 l = if VO = [] then none else some ⟨V, [], N.foldl putC L, [], false⟩ := by unfold specC; rw [if_pos rfl]
  rw [hspec]
  clear hspec
  obtain ⟨a, b, c, d, rfl, ⟨h0, m0⟩, ⟨h1, m1⟩, ⟨h2, m2⟩, ⟨h3, m3⟩⟩ := h
  have n2 : New w ((w.alloc (.cells #[a, b, c, d, .bool al] 44)).alloc zeroCells) := (Chg.alloc w _ _).then (Chg.alloc _ _ _)
  have b0 := block_alloc (block_new w (.cells #[a, b, c, d, .bool al] 44)) zeroCells
  have b1 := block_new1 w (.cells #[a, b, c, d, .bool al] 44) zeroCells
  have H0 := Lib.hid h0; have H1 := Lib.hid h1; have H2 := Lib.hid h2; have H3 := Lib.hid h3; have M0 := Lib.hid m0; have M1 := Lib.hid m1; have M2 := Lib.hid m2; have M3 := Lib.hid m3
  have HN := Lib.hid hn; have HN1 := Lib.hid hn1; have HS := Lib.hid hS
  obtain ⟨oa, ca, rfl, -⟩ := h0
  obtain ⟨ob, cb, rfl, -⟩ := h1
  obtain ⟨oc, cc, rfl, -⟩ := h2
  obtain ⟨od, cd, rfl, -⟩ := h3
  obtain ⟨ol, cl, rfl, -⟩ := hl
  go_enter Try.func22, Try.ntmps22
  go_upto_region 1 with fail
  obtain ⟨w2, hw2⟩ : ∃ w2, w2 = ((w.alloc (.cells #[.slice oa V.length ca, .slice ob VO.length cb, .slice oc L.length cc, .slice od N.length cd, .bool al] 44)).alloc zeroCells) := ⟨_, rfl⟩
  rw [← hw2] at n2 b0 b1 ⊢
  have HN2 := Lib.hid n2; have B0 := Lib.hid b0; have B1 := Lib.hid b1
  clear hw2 m0 m1 m2 m3 hn hn1 n2 b0 b1 hS
  have q0 := cell_of_block (off := 0) B0.out rfl; have q1 := cell_of_block (off := 1) B0.out rfl; have q2 := cell_of_block (off := 2) B0.out rfl; have q3 := cell_of_block (off := 3) B0.out rfl; have q4 := cell_of_block (off := 4) B0.out rfl
  have g0 := cell_of_block (off := 0) B1.out rfl; have g1 := cell_of_block (off := 1) B1.out rfl; have g2 := cell_of_block (off := 2) B1.out rfl; have g3 := cell_of_block (off := 3) B1.out rfl; have g4 := cell_of_block (off := 4) B1.out rfl
  have z0 := free_of_block (off := 0) B1.out; have z1 := free_of_block (off := 1) B1.out; have z2 := free_of_block (off := 2) B1.out; have z3 := free_of_block (off := 3) B1.out; have z4 := free_of_block (off := 4) B1.out
  simp only [List.getElem_toArray, List.getElem_cons_zero, List.getElem_cons_succ] at q0 q1 q2 q3 q4 g0 g1 g2 g3 g4
  by_cases hv : VO = []
  · rw [if_pos hv]
    have hvl : VO.length = 0 := by rw [hv]; rfl
    have hvd : decide (0 < VO.length) = false := decide_eq_false (by omega)
    have HV := Lib.hid hv
    clear hv
    go_wp2_with fail
    all_goals first | (rename_i hq; exact absurd HV.out hq) | skip
    refine bodyPost_ret (v := ?_) ?_ rfl ?_
    rotate_left 1
    · simp [results, Try.results22, go_sem, g0, g1, g2, g3, g4]
      rfl
    have c1 : ∀ (w' : World) i x, Chg w' (w'.setCell ⟨w.heap.size + 1, i, none⟩ x) (fun i => i = w.heap.size + 1) := fun w' i x => Chg.setCell _ _ _ _ (fun _ => rfl)
    have hx := ((((c1 w2 0 (.slice none 0 0)).then (c1 _ 1 (.slice none 0 0))).then (c1 _ 2 (.slice none 0 0))).then (c1 _ 3 (.slice none 0 0))).then (c1 _ 4 (.bool false))
    exact ⟨HN2.out.trans hx (fun _ _ h => h) (fun i hi e => by omega), .inr ⟨rfl, rfl⟩⟩
  · rw [if_neg hv]
    have hvl : 0 < VO.length := List.length_pos_iff.2 hv
    have hvd : decide (0 < VO.length) = true := decide_eq_true hvl
    have HV := Lib.hid hv
    clear hv hvl
    clear g0 g1 g2 g3 g4 z0 z1 z2 z3 z4
    go_wp2_with fail
    clear q0 q1 q2 q3 q4 hvd
    go_loopg [10, 27] N.length (fun n _ j wr => ∃ (i : Nat) (oi : Option Addr) (ci : Nat) (li : List Int), i ≤ N.length ∧ N.length ≤ n + i ∧ j = .int .i64 i ∧ li = (N.take i).foldl putC L ∧ wr.heap[w.heap.size]? = some (.cells #[.slice oa V.length ca, .slice ob VO.length cb, .slice oi li.length ci, .slice od N.length cd, .bool al] 44 (0, 0)) ∧ Us wr (.slice oi li.length ci) li ∧ NilOk (.slice oi li.length ci) ∧ wr.heap[w.heap.size + 1]? = some (zeroCells) ∧ New w wr)
    case atStart => exact ⟨0, oc, cc, L, by omega, by omega, rfl, rfl, B0.out, H2.out.new HN2.out, M2.out, B1.out, HN2.out⟩
    case round =>
      obtain ⟨i, oi, ci, li, hi, hg, rfl, hli, hbx, hus, hnil, hrs, hnew⟩ := hrel
      have hlen : li.length ≤ L.length + i := by
        rw [hli]
        have h1 := putAll_len (N.take i) L
        have h2 : (N.take i).length ≤ i := by simp; omega
        omega
      have HG := Lib.hid hg; have HLI := Lib.hid hli; have HBX := Lib.hid hbx; have HUS := Lib.hid hus; have HNIL := Lib.hid hnil; have HRS := Lib.hid hrs; have HNW := Lib.hid hnew; have HLEN := Lib.hid hlen
      clear hg hli hbx hus hnil hrs hnew hlen
      have hsm : N.length ≤ 100000 := by have := HN1.out; omega
      by_cases hlt : i < N.length
      · obtain ⟨ao, cap, e1, hu⟩ := H3.out.new HNW.out
        cases e1
        obtain ⟨bb, off, rfl, hck⟩ := hu i hlt
        have htk := List.take_succ_eq_append_getElem hlt
        obtain ⟨x, hx⟩ : ∃ x, x = N[i] := ⟨_, rfl⟩
        rw [← hx] at hck htk
        have HTK := Lib.hid htk
        have q2 := cell_of_block (off := 2) HBX.out rfl
        simp only [List.getElem_toArray, List.getElem_cons_zero, List.getElem_cons_succ] at q2
        clear hx htk hu
        go_wp2_with fail
        refine (put48_us M HS.out (.slice oi li.length ci) li x _ HUS.out HNIL.out (by have h1 := HLEN.out; have h2 := HN.out; omega) (by have h1 := HLEN.out; have h2 := HN1.out; omega)).mono ?_
        rintro e w3 ⟨v3, rfl, s3, t3, p3⟩
        obtain ⟨o3, c3, rfl, -⟩ := id s3
        have S3 := Lib.hid s3; have T3 := Lib.hid t3
        have D0 := Lib.hid (p3.keeps HBX.out (by simp)); have D1 := Lib.hid (p3.keeps HRS.out (by simp)); have NW3 := Lib.hid (HNW.out.then p3)
        clear s3 t3 p3 q2
        have q2 := cell_of_block (off := 2) D0.out rfl; have f2 := free_of_block (off := 2) D0.out
        simp only [List.getElem_toArray, List.getElem_cons_zero, List.getElem_cons_succ] at q2
        go_wp2_with fail
        have cs := Chg.setCell w3 ⟨w.heap.size, 2, none⟩ (.slice o3 (putC li x).length c3) (fun i => i = w.heap.size) (fun _ => rfl)
        have bs := block_setCell (off := 2) D0.out (.slice o3 (putC li x).length c3)
        simp only [List.setIfInBounds_toArray, List.set_cons_zero, List.set_cons_succ] at bs
        go_roundg (gk - 1)
        case measure => have := HG.out; omega
        case rel =>
          refine ⟨i + 1, o3, c3, putC li x, by omega, by have := HG.out; omega, by go_num, ?_, bs, S3.out.other cs D0.out (fun i k => no5 _ _ _ _ i k (by simp) (by simp) (by simp) (by simp) _), T3.out, cs.keeps D1.out (by simp), NW3.out.trans cs (fun _ _ h => h) (fun i hi e => by omega)⟩
          rw [HTK.out, List.foldl_append, HLI.out]
          rfl
      · have hil : i = N.length := by omega
        have hfin : li = N.foldl putC L := by rw [HLI.out, hil, List.take_length]
        have HFIN := Lib.hid hfin
        clear hil hfin
        have q0 := cell_of_block (off := 0) HBX.out rfl; have q1 := cell_of_block (off := 1) HBX.out rfl; have q2 := cell_of_block (off := 2) HBX.out rfl; have q3 := cell_of_block (off := 3) HBX.out rfl; have q4 := cell_of_block (off := 4) HBX.out rfl
        have g0 := cell_of_block (off := 0) HRS.out rfl; have g1 := cell_of_block (off := 1) HRS.out rfl; have g2 := cell_of_block (off := 2) HRS.out rfl; have g3 := cell_of_block (off := 3) HRS.out rfl; have g4 := cell_of_block (off := 4) HRS.out rfl
        have y1 := free_of_block (off := 1) HBX.out; have y3 := free_of_block (off := 3) HBX.out; have y4 := free_of_block (off := 4) HBX.out
        have z0 := free_of_block (off := 0) HRS.out; have z1 := free_of_block (off := 1) HRS.out; have z2 := free_of_block (off := 2) HRS.out; have z3 := free_of_block (off := 3) HRS.out; have z4 := free_of_block (off := 4) HRS.out
        simp only [List.getElem_toArray, List.getElem_cons_zero, List.getElem_cons_succ] at q0 q1 q2 q3 q4 g0 g1 g2 g3 g4
        go_wp2_with fail
        have hb : ∀ (w' : World) i x, Chg w' (w'.setCell ⟨w.heap.size, i, none⟩ x) (fun i => i = w.heap.size) := fun w' i x => Chg.setCell _ _ _ _ (fun _ => rfl)
        have hc : ∀ (w' : World) i x, Chg w' (w'.setCell ⟨w.heap.size + 1, i, none⟩ x) (fun i => i = w.heap.size + 1) := fun w' i x => Chg.setCell _ _ _ _ (fun _ => rfl)
        have hx1 := ((hb wr 1 (.slice none 0 0)).then (hb _ 3 (.slice none 0 0))).then (hb _ 4 (.bool false))
        have hx2 := fun u => ((((hc u 0 (.slice oa V.length ca)).then (hc _ 1 (.slice none 0 0))).then (hc _ 2 (.slice oi li.length ci))).then (hc _ 3 (.slice none 0 0))).then (hc _ 4 (.bool false))
        refine bodyPost_ret (v := ?_) ?_ rfl ?_
        rotate_left 1
        · simp [results, Try.results22, go_sem, g0, g1, g2, g3, g4]
          rfl
        have hr1 := hx1.keeps HRS.out (by simp)
        have carry : ∀ v l, Us wr v l → Us _ v l := fun v l h => (h.other hx1 HBX.out (fun i k => no5 _ _ _ _ i k (by simp) (by simp) (by simp) (by simp) _)).other (hx2 _) hr1 (fun i k => no5 _ _ _ _ i k (by simp) (by simp) (by simp) (by simp) _)
        have hus := HUS.out
        have hnl := HNIL.out
        refine ⟨(HNW.out.trans hx1 (fun _ _ h => h) (fun i hi e => by omega)).trans (hx2 _) (fun _ _ h => h) (fun i hi e => by omega), .inl ⟨_, _, rfl, rfl, ⟨_, _, _, _, rfl, ⟨carry _ _ (H0.out.new HNW.out), M0.out⟩, ⟨us_nil' _, nilok_nil'⟩, ⟨?_, hnl⟩, ⟨us_nil' _, nilok_nil'⟩⟩⟩⟩
        show Us _ _ (N.foldl putC L)
        rw [← HFIN.out]
        exact carry _ _ hus
end Go.Proofs.Ytcgccoigjcdjeaa
