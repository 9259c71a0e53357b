/- impl.confOut, tracker.MakeProgressTracker, slices.Clone at numbers. Condition: the sort up to M elements as a hypothesis. -/
import Derived.Test.YtcgccoigjcdjeaaConfU
namespace Go.Proofs.Ytcgccoigjcdjeaa
open Go.RowKit Go.Sort

theorem Lst.slice {w : World} {base : Nat} {v : Value} {d s : List Int} (h : Lst w base v d s) : ∃ ao cap, v = .slice ao d.length cap := by
  rcases row_of_owns h.2.2.1 with ⟨rfl, rfl⟩ | ⟨g, cap, rest, rfl, _⟩
  · exact ⟨none, 0, rfl⟩
  · exact ⟨_, cap, rfl⟩
/-- a configuration as data: its cells -/
structure Outv (w : World) (base : Nat) (al : Bool) (V0 V1 L N : List Int) (cv : Value) where
  ex : ∃ a b c d A B C D, cv = .agg #[a, b, c, d, .bool al] ∧ Lst w base a A V0 ∧ Lst w base b B V1 ∧ Lst w base c C L ∧ Lst w base d D N
theorem Outv.chg {w w' : World} {S : Nat → Prop} {base : Nat} {al : Bool} {V0 V1 L N : List Int} {cv : Value} (h : Outv w base al V0 V1 L N cv) (c : Chg w w' S) (hS : ∀ i, base ≤ i → i < w.heap.size → ¬ S i) : Outv w' base al V0 V1 L N cv := by
  obtain ⟨a, b, c', d, A, B, C, D, e, h1, h2, h3, h4⟩ := h.ex
  exact ⟨a, b, c', d, A, B, C, D, e, h1.chg c hS, h2.chg c hS, h3.chg c hS, h4.chg c hS⟩
theorem Outv.base {w : World} {base base' : Nat} {al : Bool} {V0 V1 L N : List Int} {cv : Value} (h : Outv w base al V0 V1 L N cv) (hb : base' ≤ base) : Outv w base' al V0 V1 L N cv := by
  obtain ⟨a, b, c', d, A, B, C, D, e, h1, h2, h3, h4⟩ := h.ex
  exact ⟨a, b, c', d, A, B, C, D, e, h1.base hb, h2.base hb, h3.base hb, h4.base hb⟩

set_option maxRecDepth 100000 in
set_option maxHeartbeats 1600000 in
theorem confout_any (M : Nat) (hS : SortTo M) (v0 v1 ln nx : Option Nat) (al : Bool) (V0 V1 L N : List Int) (w : World) (s0 : SetV w v0 V0) (s1 : SetV w v1 V1) (sl : SetV w ln L) (sn : SetV w nx N)
    (m0 : V0.length ≤ M ∧ V0.length ≤ 100000) (m1 : V1.length ≤ M ∧ V1.length ≤ 100000) (ml : L.length ≤ M ∧ L.length ≤ 100000) (mn : N.length ≤ M ∧ N.length ≤ 100000) :
    Calls Try.prog 56 #[.agg #[.map v0, .map v1, .bool al, .map ln, .map nx]] w fun e w' => ∃ cv, e = .returned cv ∧ Outv w' w.heap.size al V0 V1 L N cv ∧ New w w' := by
  have n2 : ∀ o1 o2, New w ((w.alloc o1).alloc o2).drew := fun o1 o2 => ((Chg.alloc w _ _).then (Chg.alloc _ _ _)).then (Chg.drew _ _)
  have HS := Lib.hid hS; have S0 := Lib.hid s0; have S1 := Lib.hid s1; have SL := Lib.hid sl; have SN := Lib.hid sn; have M0 := Lib.hid m0; have M1 := Lib.hid m1; have ML := Lib.hid ml; have MN := Lib.hid mn; have HN2 := Lib.hid n2
  clear hS s0 s1 sl sn m0 m1 ml mn n2
  go_enter Try.func56, Try.ntmps56
  go_wp2_with fail
  go_region_held3 (fun w' => w'.cell? ⟨w.heap.size, 0, none⟩ = some (.map v0) ∧ w'.cell? ⟨w.heap.size, 1, none⟩ = some (.map v1) ∧ w'.cell? ⟨w.heap.size, 2, none⟩ = some (.bool al) ∧ w'.cell? ⟨w.heap.size, 3, none⟩ = some (.map ln) ∧ w'.cell? ⟨w.heap.size, 4, none⟩ = some (.map nx)) (go_keep)
    (first
      | (go_at_call 86; ((with_reducible refine (out86_any M HS.out v0 V0 _ (S0.out.chg (HN2.out _ _) (by simp)) M0.out.1 M0.out.2).mono ?_); rintro e1 w1 ⟨a0, d0, rfl, t0, n1⟩; obtain ⟨o0, c0, rfl⟩ := t0.slice; have k1 := n1.rule))
      | (go_at_call 86; ((with_reducible refine (out86_any M HS.out v1 V1 _ (S1.out.chg ((HN2.out _ _).then n1) (by simp)) M1.out.1 M1.out.2).mono ?_); rintro e2 w2 ⟨a1, d1, rfl, t1, n2⟩; obtain ⟨o1, c1, rfl⟩ := t1.slice; have k2 := n2.rule))
      | (go_at_call 86; ((with_reducible refine (out86_any M HS.out ln L _ (SL.out.chg (((HN2.out _ _).then n1).then n2) (by simp)) ML.out.1 ML.out.2).mono ?_); rintro e3 w3 ⟨a3, d3, rfl, t3, n3⟩; obtain ⟨o3, c3, rfl⟩ := t3.slice; have k3 := n3.rule))
      | (go_at_call 86; ((with_reducible refine (out86_any M HS.out nx N _ (SN.out.chg ((((HN2.out _ _).then n1).then n2).then n3) (by simp)) MN.out.1 MN.out.2).mono ?_); rintro e4 w4 ⟨a4, d4, rfl, t4, n4⟩; obtain ⟨o4, c4, rfl⟩ := t4.slice; have k4 := n4.rule; have HBK := n4.keeps (n3.keeps (n2.keeps (n1.keeps (block_drew (block_new1 w _ _)) (by simp)) (by simp)) (by simp)) (by simp); have r0 := cell_of_block (off := 0) HBK rfl; have r1 := cell_of_block (off := 1) HBK rfl; have r2 := cell_of_block (off := 2) HBK rfl; have r3 := cell_of_block (off := 3) HBK rfl; have r4 := cell_of_block (off := 4) HBK rfl; have z0 := free_of_block (off := 0) HBK; have z1 := free_of_block (off := 1) HBK; have z2 := free_of_block (off := 2) HBK; have z3 := free_of_block (off := 3) HBK; have z4 := free_of_block (off := 4) HBK; clear HBK)))
  rename_i hH
  clear hH k1 k2 k3 k4
  have hz1 := n1.size; have hz2 := n2.size; have hz3 := n3.size; have hz4 := n4.size
  simp only [World.size_drew, World.size_alloc] at hz1 t0
  have q0 := ((t0.chg ((n2.then n3).then n4) (by simp)).base (base' := w.heap.size + 2) (by omega))
  have q1 := ((t1.chg (n3.then n4) (by simp)).base (base' := w.heap.size + 2) (by omega))
  have q3 := ((t3.chg n4 (by simp)).base (base' := w.heap.size + 2) (by omega))
  have q4 := t4.base (base' := w.heap.size + 2) (by omega)
  have hnw : New w w4 := ((((HN2.out _ _).then n1).then n2).then n3).then n4
  have Q0 := Lib.hid q0; have Q1 := Lib.hid q1; have Q3 := Lib.hid q3; have Q4 := Lib.hid q4; have HNW := Lib.hid hnw
  clear q0 q1 q3 q4 t0 t1 t3 t4 n1 n2 n3 n4 hz1 hz2 hz3 hz4 hnw
  go_wp2_with fail
  refine bodyPost_ret (v := ?_) ?_ rfl ?_
  rotate_left 1
  · simp [results, Try.results56, go_sem, r0, r1, r2, r3, r4]
    rfl
  have hc := fun a b c d e => set5_chg w4 (w.heap.size + 1) a b c d e
  refine ⟨_, rfl, ⟨_, _, _, _, _, _, _, _, rfl, (Q0.out.chg (hc _ _ _ _ _) (fun i h1 h2 e => by omega)).base (by omega), (Q1.out.chg (hc _ _ _ _ _) (fun i h1 h2 e => by omega)).base (by omega), (Q3.out.chg (hc _ _ _ _ _) (fun i h1 h2 e => by omega)).base (by omega), (Q4.out.chg (hc _ _ _ _ _) (fun i h1 h2 e => by omega)).base (by omega)⟩, set5_new HNW.out (by omega) _ _ _ _ _⟩

set_option maxRecDepth 100000 in
theorem mktrk_any (w : World) : Calls Try.prog 51 #[.int .i64 10, .int .u64 0] w fun e w' => ∃ v0 tk vt, e = .returned (.agg #[.map (some v0), .map none, .bool false, .map none, .map none, .map (some tk), .map (some vt), .int .i64 10, .int .u64 0]) ∧ SetV w' (some v0) [] ∧ TrkV w' (some tk) [] ∧ New w w' := by
  have hz : ∀ (o1 o2 o3 o4 : Obj) (cs : Array Value) (t : TypeId) (j : Nat), (((((w.alloc o1).alloc o2).alloc o3).alloc o4).alloc (.cells cs t)).frozen? ⟨w.heap.size + 1 + 1 + 1 + 1, j, none⟩ = false := fun o1 o2 o3 o4 cs t j => by
    have := block_new ((((w.alloc o1).alloc o2).alloc o3).alloc o4) (.cells cs t)
    simp only [World.size_alloc] at this
    exact free_of_block this
  have hc : ∀ (o1 o2 o3 o4 : Obj) (cs : Array Value) (t : TypeId) (j : Nat), (((((w.alloc o1).alloc o2).alloc o3).alloc o4).alloc (.cells cs t)).cell? ⟨w.heap.size + 1 + 1 + 1 + 1, j, none⟩ = cs[j]? := fun o1 o2 o3 o4 cs t j => by
    have := block_new ((((w.alloc o1).alloc o2).alloc o3).alloc o4) (.cells cs t)
    simp only [World.size_alloc] at this
    exact cell_of_row _ _ j _ _ _ this
  go_enter Try.func51, Try.ntmps51
  go_wp2_with fail
  have hbk : ∀ (o1 o2 o3 o4 o5 : Obj), (((((w.alloc o1).alloc o2).alloc o3).alloc o4).alloc o5).heap[w.heap.size]? = some o1 := fun o1 o2 o3 o4 o5 => block_alloc (block_alloc (block_alloc (block_alloc (block_new w o1) o2) o3) o4) o5
  refine bodyPost_ret (v := .agg #[.map (some (w.heap.size + 1)), .map none, .bool false, .map none, .map none, .map (some (w.heap.size + 1 + 1 + 1)), .map (some (w.heap.size + 1 + 1)), .int .i64 10, .int .u64 0]) ?_ rfl ?_
  · have r0 := cell_of_block (off := 0) (hbk (.cells #[.map (some (w.heap.size + 1)), .map none, .bool false, .map none, .map none, .map (some (w.heap.size + 1 + 1 + 1)), .map (some (w.heap.size + 1 + 1)), .int .i64 10, .int .u64 0] 89) (.map #[] 0) (.map #[] 0) (.map #[] 0) (.cells #[.map (some (w.heap.size + 1)), .map none, .bool false, .map none, .map none, .map (some (w.heap.size + 1 + 1 + 1)), .map (some (w.heap.size + 1 + 1)), .int .i64 10, .int .u64 0] 89)) rfl
    have r1 := cell_of_block (off := 1) (hbk (.cells #[.map (some (w.heap.size + 1)), .map none, .bool false, .map none, .map none, .map (some (w.heap.size + 1 + 1 + 1)), .map (some (w.heap.size + 1 + 1)), .int .i64 10, .int .u64 0] 89) (.map #[] 0) (.map #[] 0) (.map #[] 0) (.cells #[.map (some (w.heap.size + 1)), .map none, .bool false, .map none, .map none, .map (some (w.heap.size + 1 + 1 + 1)), .map (some (w.heap.size + 1 + 1)), .int .i64 10, .int .u64 0] 89)) rfl
    have r2 := cell_of_block (off := 2) (hbk (.cells #[.map (some (w.heap.size + 1)), .map none, .bool false, .map none, .map none, .map (some (w.heap.size + 1 + 1 + 1)), .map (some (w.heap.size + 1 + 1)), .int .i64 10, .int .u64 0] 89) (.map #[] 0) (.map #[] 0) (.map #[] 0) (.cells #[.map (some (w.heap.size + 1)), .map none, .bool false, .map none, .map none, .map (some (w.heap.size + 1 + 1 + 1)), .map (some (w.heap.size + 1 + 1)), .int .i64 10, .int .u64 0] 89)) rfl
    have r3 := cell_of_block (off := 3) (hbk (.cells #[.map (some (w.heap.size + 1)), .map none, .bool false, .map none, .map none, .map (some (w.heap.size + 1 + 1 + 1)), .map (some (w.heap.size + 1 + 1)), .int .i64 10, .int .u64 0] 89) (.map #[] 0) (.map #[] 0) (.map #[] 0) (.cells #[.map (some (w.heap.size + 1)), .map none, .bool false, .map none, .map none, .map (some (w.heap.size + 1 + 1 + 1)), .map (some (w.heap.size + 1 + 1)), .int .i64 10, .int .u64 0] 89)) rfl
    have r4 := cell_of_block (off := 4) (hbk (.cells #[.map (some (w.heap.size + 1)), .map none, .bool false, .map none, .map none, .map (some (w.heap.size + 1 + 1 + 1)), .map (some (w.heap.size + 1 + 1)), .int .i64 10, .int .u64 0] 89) (.map #[] 0) (.map #[] 0) (.map #[] 0) (.cells #[.map (some (w.heap.size + 1)), .map none, .bool false, .map none, .map none, .map (some (w.heap.size + 1 + 1 + 1)), .map (some (w.heap.size + 1 + 1)), .int .i64 10, .int .u64 0] 89)) rfl
    have r5 := cell_of_block (off := 5) (hbk (.cells #[.map (some (w.heap.size + 1)), .map none, .bool false, .map none, .map none, .map (some (w.heap.size + 1 + 1 + 1)), .map (some (w.heap.size + 1 + 1)), .int .i64 10, .int .u64 0] 89) (.map #[] 0) (.map #[] 0) (.map #[] 0) (.cells #[.map (some (w.heap.size + 1)), .map none, .bool false, .map none, .map none, .map (some (w.heap.size + 1 + 1 + 1)), .map (some (w.heap.size + 1 + 1)), .int .i64 10, .int .u64 0] 89)) rfl
    have r6 := cell_of_block (off := 6) (hbk (.cells #[.map (some (w.heap.size + 1)), .map none, .bool false, .map none, .map none, .map (some (w.heap.size + 1 + 1 + 1)), .map (some (w.heap.size + 1 + 1)), .int .i64 10, .int .u64 0] 89) (.map #[] 0) (.map #[] 0) (.map #[] 0) (.cells #[.map (some (w.heap.size + 1)), .map none, .bool false, .map none, .map none, .map (some (w.heap.size + 1 + 1 + 1)), .map (some (w.heap.size + 1 + 1)), .int .i64 10, .int .u64 0] 89)) rfl
    have r7 := cell_of_block (off := 7) (hbk (.cells #[.map (some (w.heap.size + 1)), .map none, .bool false, .map none, .map none, .map (some (w.heap.size + 1 + 1 + 1)), .map (some (w.heap.size + 1 + 1)), .int .i64 10, .int .u64 0] 89) (.map #[] 0) (.map #[] 0) (.map #[] 0) (.cells #[.map (some (w.heap.size + 1)), .map none, .bool false, .map none, .map none, .map (some (w.heap.size + 1 + 1 + 1)), .map (some (w.heap.size + 1 + 1)), .int .i64 10, .int .u64 0] 89)) rfl
    have r8 := cell_of_block (off := 8) (hbk (.cells #[.map (some (w.heap.size + 1)), .map none, .bool false, .map none, .map none, .map (some (w.heap.size + 1 + 1 + 1)), .map (some (w.heap.size + 1 + 1)), .int .i64 10, .int .u64 0] 89) (.map #[] 0) (.map #[] 0) (.map #[] 0) (.cells #[.map (some (w.heap.size + 1)), .map none, .bool false, .map none, .map none, .map (some (w.heap.size + 1 + 1 + 1)), .map (some (w.heap.size + 1 + 1)), .int .i64 10, .int .u64 0] 89)) rfl
    simp [results, Try.results51, go_sem, r0, r1, r2, r3, r4, r5, r6, r7, r8]
  · refine ⟨_, _, _, rfl, ?_, ?_, ((((Chg.alloc w _ _).then (Chg.alloc _ _ _)).then (Chg.alloc _ _ _)).then (Chg.alloc _ _ _)).then (Chg.alloc _ _ _)⟩
    · have := ((((SetV.made (w.alloc (.cells #[.map (some (w.heap.size + 1)), .map none, .bool false, .map none, .map none, .map (some (w.heap.size + 1 + 1 + 1)), .map (some (w.heap.size + 1 + 1)), .int .i64 10, .int .u64 0] 89))).alloc (.map #[] 0)).alloc (.map #[] 0)).alloc (.cells #[.map (some (w.heap.size + 1)), .map none, .bool false, .map none, .map none, .map (some (w.heap.size + 1 + 1 + 1)), .map (some (w.heap.size + 1 + 1)), .int .i64 10, .int .u64 0] 89))
      simpa only [World.size_alloc] using this
    · refine ⟨?_, by simp, by simp⟩
      have := (MapB.made (((w.alloc (.cells #[.map (some (w.heap.size + 1)), .map none, .bool false, .map none, .map none, .map (some (w.heap.size + 1 + 1 + 1)), .map (some (w.heap.size + 1 + 1)), .int .i64 10, .int .u64 0] 89)).alloc (.map #[] 0)).alloc (.map #[] 0))).alloc (.cells #[.map (some (w.heap.size + 1)), .map none, .bool false, .map none, .map none, .map (some (w.heap.size + 1 + 1 + 1)), .map (some (w.heap.size + 1 + 1)), .int .i64 10, .int .u64 0] 89)
      simp only [World.size_alloc] at this
      exact this
end Go.Proofs.Ytcgccoigjcdjeaa
