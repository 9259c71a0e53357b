/- The plain law of a change of members, whole: the code refuses where the reference refuses, and else makes the same configuration. Condition: what the statement asks. -/
import Derived.Test.YtcgccoigjcdjeaaConfX
import Derived.Test.YtcgccoigjcdjeaaChZb
import Derived.Test.YtcgccoigjcdjeaaChZc
namespace Go.Proofs.Ytcgccoigjcdjeaa
open Go.RowKit Go.Sort

/-- rising, from 1 on -/
def Up (l : List Int) : Prop := l.Pairwise (· < ·) ∧ ∀ x ∈ l, 1 ≤ x
theorem okS_up {l : List Int} (h : okS l) : Up l := by
  constructor
  · rw [List.pairwise_iff_getElem]
    intro i j hi hj hij
    induction j with
    | zero => omega
    | succ j ih =>
      have h1 := (h (j + 1) hj).2 (by omega)
      simp only [Nat.add_sub_cancel] at h1
      by_cases e : i = j
      · subst e; exact h1
      · have := ih (by omega) (by omega); omega
  · intro x hx
    obtain ⟨i, hi, rfl⟩ := List.getElem_of_mem hx
    exact (h i hi).1
theorem up_okS {l : List Int} (h : Up l) : okS l := by
  intro j hj
  refine ⟨h.2 _ (List.getElem_mem hj), fun h0 => ?_⟩
  exact (List.pairwise_iff_getElem.1 h.1) (j - 1) j (by omega) hj (by omega)
theorem Up.nodup {l : List Int} (h : Up l) : l.Nodup := h.1.imp (fun h e => by omega)
theorem mem_putC {l : List Int} {k x : Int} : x ∈ putC l k ↔ x ∈ l ∨ x = k := by
  unfold putC
  split
  · constructor
    · exact Or.inl
    · rintro (h | rfl) <;> assumption
  · rw [(List.mergeSort_perm _ _).mem_iff]; simp
theorem mem_lessC {l : List Int} {k x : Int} : x ∈ lessC l k ↔ x ∈ l ∧ x ≠ k := by simp [lessC]
theorem Up.put {l : List Int} (h : Up l) {k : Int} (hk : 1 ≤ k) : Up (putC l k) := by
  refine ⟨?_, fun x hx => ?_⟩
  · unfold putC
    split
    · exact h.1
    · rename_i hn
      have h1 : ((l ++ [k]).mergeSort (fun a b => decide (a ≤ b))).Pairwise (· ≤ ·) := by
        have := List.pairwise_mergeSort (le := fun a b : Int => decide (a ≤ b)) (fun a b c h1 h2 => by simp at *; omega) (fun a b => by simp; omega) (l ++ [k])
        exact this.imp (fun h => by simpa using h)
      have h2 : ((l ++ [k]).mergeSort (fun a b => decide (a ≤ b))).Nodup := by
        refine (List.mergeSort_perm _ _).nodup_iff.2 ?_
        refine List.nodup_append.2 ⟨h.nodup, by simp, fun a ha b hb => ?_⟩
        simp only [List.mem_singleton] at hb
        rintro rfl
        subst hb
        exact hn ha
      exact (h1.and h2).imp (fun h => by have := h.1; have := h.2; omega)
  · rcases mem_putC.1 hx with h1 | rfl
    · exact h.2 x h1
    · exact hk
theorem Up.less {l : List Int} (h : Up l) (k : Int) : Up (lessC l k) := ⟨h.1.filter _, fun x hx => h.2 x (mem_lessC.1 hx).1⟩
theorem up_nil : Up [] := ⟨List.Pairwise.nil, by simp⟩
/-- what stays along the changes -/
structure CfI (W : List Int) (s : List Int × List Int × List Int) : Prop where
  p0 : Up s.1
  p1 : Up s.2.1
  p2 : Up s.2.2
  ln : ∀ x ∈ s.2.1, x ∉ s.1 ∧ x ∉ W ∧ x ∉ s.2.2
  nx : ∀ x ∈ s.2.2, x ∈ W ∧ x ∉ s.1
theorem CfI.step {W : List Int} {s : List Int × List Int × List Int} (h : CfI W s) (x : Int × Int) (h0 : 0 ≤ x.2) : CfI W (oneC W s x) := by
  unfold oneC
  split
  · exact h
  rename_i hx
  have h1 : 1 ≤ x.2 := by omega
  split
  · refine ⟨h.p0.put h1, h.p1.less _, h.p2.less _, fun y hy => ?_, fun y hy => ?_⟩
    · simp only at hy ⊢
      rw [mem_lessC] at hy
      have := h.ln y hy.1
      rw [mem_putC, mem_lessC]
      exact ⟨fun e => e.elim this.1 hy.2, this.2.1, fun e => this.2.2 e.1⟩
    · simp only at hy ⊢
      rw [mem_lessC] at hy
      have := h.nx y hy.1
      rw [mem_putC]
      exact ⟨this.1, fun e => e.elim this.2 hy.2⟩
  split
  · refine ⟨h.p0.less _, h.p1.less _, h.p2.less _, fun y hy => ?_, fun y hy => ?_⟩
    · simp only at hy ⊢
      rw [mem_lessC] at hy
      have := h.ln y hy.1
      rw [mem_lessC, mem_lessC]
      exact ⟨fun e => this.1 e.1, this.2.1, fun e => this.2.2 e.1⟩
    · simp only at hy ⊢
      rw [mem_lessC] at hy
      have := h.nx y hy.1
      rw [mem_lessC]
      exact ⟨this.1, fun e => this.2 e.1⟩
  split
  · rename_i hin
    refine ⟨h.p0.less _, h.p1, h.p2.put h1, fun y hy => ?_, fun y hy => ?_⟩
    · simp only at hy ⊢
      have := h.ln y hy
      rw [mem_lessC, mem_putC]
      exact ⟨fun e => this.1 e.1, this.2.1, fun e => e.elim this.2.2 (fun e => this.2.1 (e ▸ hin))⟩
    · simp only at hy ⊢
      rw [mem_putC] at hy
      rw [mem_lessC]
      rcases hy with hy | rfl
      · have := h.nx y hy
        exact ⟨this.1, fun e => this.2 e.1⟩
      · exact ⟨hin, fun e => e.2 rfl⟩
  · rename_i hin
    refine ⟨h.p0.less _, h.p1.put h1, h.p2, fun y hy => ?_, fun y hy => ?_⟩
    · simp only at hy ⊢
      rw [mem_putC] at hy
      rw [mem_lessC]
      rcases hy with hy | rfl
      · have := h.ln y hy
        exact ⟨fun e => this.1 e.1, this.2.1, this.2.2⟩
      · exact ⟨fun e => e.2 rfl, hin, fun e => hin (h.nx _ e).1⟩
    · simp only at hy ⊢
      have := h.nx y hy
      rw [mem_lessC]
      exact ⟨this.1, fun e => this.2 e.1⟩
theorem CfI.fold {W : List Int} {s : List Int × List Int × List Int} (h : CfI W s) (l : List (Int × Int)) (h0 : ∀ x ∈ l, 0 ≤ x.2) : CfI W (l.foldl (oneC W) s) := by
  induction l generalizing s with
  | nil => exact h
  | cons x l ih => exact ih (h.step x (h0 x (by simp))) (fun y hy => h0 y (by simp [hy]))
/-- the same members, each once -/
structure SameM (a b : List Int) : Prop where
  mem : ∀ x, x ∈ a ↔ x ∈ b
  nd : a.Nodup
theorem SameM.ins {a b : List Int} (h : SameM a b) (k : Int) : SameM (ins a k) (putC b k) := ⟨fun x => by rw [mem_ins, mem_putC, h.mem], nodup_ins h.nd⟩
theorem SameM.out {a b : List Int} (h : SameM a b) (k : Int) : SameM (out a k) (lessC b k) := ⟨fun x => by rw [mem_out, mem_lessC, h.mem], nodup_out h.nd⟩
theorem SameM.perm {a b : List Int} (h : SameM a b) (hb : b.Nodup) : a.Perm b := (List.perm_ext_iff_of_nodup h.nd hb).2 h.mem
structure SameT (a b : List Int × List Int × List Int) : Prop where
  m0 : SameM a.1 b.1
  m1 : SameM a.2.1 b.2.1
  m2 : SameM a.2.2 b.2.2
theorem SameT.step {W : List Int} {c s : List Int × List Int × List Int} (h : SameT c s) (hi : CfI W s) (x : Int × Int) (hk : x.1 = 0 ∨ x.1 = 1 ∨ x.1 = 2) : SameT (stepC W c (kd x)) (oneC W s x) := by
  obtain ⟨k, x⟩ := x
  simp only at hk
  unfold stepC oneC kd
  simp only
  by_cases hx : x = 0
  · rw [if_pos hx, if_pos hx]; exact h
  rw [if_neg hx, if_neg hx]
  rcases hk with rfl | rfl | rfl
  · exact ⟨h.m0.ins x, h.m1.out x, h.m2.out x⟩
  · exact ⟨h.m0.out x, h.m1.out x, h.m2.out x⟩
  · by_cases hin : x ∈ W
    · simp only [hin, if_true]
      exact ⟨h.m0.out x, h.m1, h.m2.ins x⟩
    · simp only [hin, if_false]
      refine ⟨h.m0.out x, h.m1.ins x, ⟨fun y => ?_, nodup_out h.m2.nd⟩⟩
      show y ∈ Go.Proofs.Ytcgccoigjcdjeaa.out c.2.2 x ↔ y ∈ s.2.2
      rw [mem_out, h.m2.mem]
      exact ⟨fun e => e.1, fun e => ⟨e, fun e' => hin (e' ▸ (hi.nx y e).1)⟩⟩
theorem SameT.fold {W : List Int} {c s : List Int × List Int × List Int} (h : SameT c s) (hi : CfI W s) (l : List (Int × Int)) (h0 : ∀ x ∈ l, 0 ≤ x.2) (hk : ∀ x ∈ l, x.1 = 0 ∨ x.1 = 1 ∨ x.1 = 2) : SameT (foldC W c (l.map kd)) (l.foldl (oneC W) s) := by
  induction l generalizing s c with
  | nil => exact h
  | cons x l ih => exact ih (h.step hi x (hk x (by simp))) (hi.step x (h0 x (by simp))) (fun y hy => h0 y (by simp [hy])) (fun y hy => hk y (by simp [hy]))
theorem SameM.refl {a : List Int} (h : a.Nodup) : SameM a a := ⟨fun _ => Iff.rfl, h⟩
theorem cnt_same {a b : List Int} (h : SameM a b) (hb : b.Nodup) (V : List Int) : cnt V a + cnt a V = cnt V b + cnt b V := by
  rw [cnt_perm (h.perm hb)]
  unfold cnt
  have : (fun x => !decide (x ∈ a)) = (fun x => !decide (x ∈ b)) := by funext x; rw [decide_eq_decide.2 (h.mem x)]
  rw [this]
theorem same_nil {a b : List Int} (h : SameM a b) : a = [] ↔ b = [] := by
  constructor
  · rintro rfl; exact List.eq_nil_iff_forall_not_mem.2 (fun x hx => by have := (h.mem x).2 hx; cases this)
  · rintro rfl; exact List.eq_nil_iff_forall_not_mem.2 (fun x hx => by have := (h.mem x).1 hx; cases this)
theorem ins_fresh {s : List Int} {k : Int} (h : k ∉ s) : ins s k = s ++ [k] := by unfold ins; rw [if_neg h]
theorem out_none {s : List Int} {k : Int} (h : k ∉ s) : out s k = s := by
  unfold out
  rw [List.filter_eq_self]
  intro x hx
  have : x ≠ k := by rintro rfl; exact h hx
  simpa using this
theorem cnt_self (a b : List Int) (h : ∀ x ∈ a, x ∈ b) : cnt a b = 0 := by
  unfold cnt
  rw [List.length_eq_zero_iff, List.filter_eq_nil_iff]
  intro x hx
  simp [h x hx]
theorem run_voters (V : List Int) : ∀ P : List Int, (P ++ V).Nodup → (∀ x ∈ V, x ≠ 0) → runOps ⟨false, P, [], [], []⟩ ((kin 0 V).map .one) = some ⟨false, P ++ V, [], [], []⟩ := by
  induction V with
  | nil => intro P _ _; simp [kin, runOps]
  | cons x V ih =>
    intro P hn h0
    have hx : x ∉ P := fun h => (List.nodup_append.1 hn).2.2 x h x (by simp) rfl
    have hx0 : x ≠ 0 := h0 x (by simp)
    have hst : stepC [] (P, [], []) (0, x) = (P ++ [x], [], []) := by
      unfold stepC
      simp only [if_neg hx0, if_true, ins_fresh hx]
      rfl
    have hs : stepOp ⟨false, P, [], [], []⟩ (.one (0, x)) = some ⟨false, P ++ [x], [], [], []⟩ := by
      simp only [stepOp, foldC, List.foldl_cons, List.foldl_nil, hst]
      rw [if_pos]
      refine ⟨trivial, by simp, ?_⟩
      rw [cnt_snoc, cnt_self P P (fun _ h => h), cnt_self P (P ++ [x]) (fun _ h => by simp [h]), if_neg hx]
      omega
    simp only [kin, List.map_cons, runOps]
    rw [hs]
    simp only [Option.bind_some]
    have := ih (P ++ [x]) (by simpa using hn) (fun y hy => h0 y (by simp [hy]))
    simpa [kin] using this
theorem run_learners (V : List Int) (hV : V ≠ []) (L : List Int) : ∀ Q : List Int, (Q ++ L).Nodup → (∀ x ∈ L, x ≠ 0 ∧ x ∉ V) → runOps ⟨false, V, [], Q, []⟩ ((kin 3 L).map .one) = some ⟨false, V, [], Q ++ L, []⟩ := by
  induction L with
  | nil => intro Q _ _; simp [kin, runOps]
  | cons x L ih =>
    intro Q hn h0
    have hx : x ∉ Q := fun h => (List.nodup_append.1 hn).2.2 x h x (by simp) rfl
    have hx0 : x ≠ 0 := (h0 x (by simp)).1
    have hst : stepC [] (V, Q, []) (3, x) = (V, Q ++ [x], []) := by
      unfold stepC
      simp [if_neg hx0, ins_fresh hx, out_none (h0 x (by simp)).2]
      rfl
    have hs : stepOp ⟨false, V, [], Q, []⟩ (.one (3, x)) = some ⟨false, V, [], Q ++ [x], []⟩ := by
      simp only [stepOp, foldC, List.foldl_cons, List.foldl_nil, hst]
      rw [if_pos]
      refine ⟨trivial, hV, ?_⟩
      rw [cnt_self V V (fun _ h => h)]
      omega
    simp only [kin, List.map_cons, runOps]
    rw [hs]
    simp only [Option.bind_some]
    have := ih (Q ++ [x]) (by simpa using hn) (fun y hy => h0 y (by simp [hy]))
    simpa [kin] using this
theorem fold_rm (W : List Int) (l : List Int) : ∀ P : List Int, (∀ x ∈ P, x ∈ l) → (∀ x ∈ l, x ≠ 0) → foldC W (P, [], []) (kin 1 l) = ([], [], []) := by
  induction l with
  | nil =>
    intro P h _
    have : P = [] := List.eq_nil_iff_forall_not_mem.2 (fun x hx => by have := h x hx; cases this)
    subst this; rfl
  | cons x l ih =>
    intro P h h0
    have hx0 : x ≠ 0 := h0 x (by simp)
    have hst : stepC W (P, [], []) (1, x) = (out P x, [], []) := by
      unfold stepC
      simp [hx0]
      rfl
    have := ih (out P x) (fun y hy => by have h1 := mem_out.1 hy; have := h y h1.1; simp at this; exact this.resolve_left h1.2) (fun y hy => h0 y (by simp [hy]))
    simp only [foldC, kin, List.map_cons, List.foldl_cons, hst]
    exact this
theorem fold_voters (W V : List Int) : ∀ P : List Int, (P ++ V).Nodup → (∀ x ∈ V, x ≠ 0) → foldC W (P, [], []) (kin 0 V) = (P ++ V, [], []) := by
  induction V with
  | nil => intro P _ _; simp [kin, foldC]
  | cons x V ih =>
    intro P hn h0
    have hx : x ∉ P := fun h => (List.nodup_append.1 hn).2.2 x h x (by simp) rfl
    have hx0 : x ≠ 0 := h0 x (by simp)
    have hst : stepC W (P, [], []) (0, x) = (P ++ [x], [], []) := by
      unfold stepC
      simp only [if_neg hx0, if_true, ins_fresh hx]
      rfl
    have := ih (P ++ [x]) (by simpa using hn) (fun y hy => h0 y (by simp [hy]))
    simp only [foldC, kin, List.map_cons, List.foldl_cons, hst]
    simpa [kin, foldC] using this
theorem fold_learners (W V L : List Int) : ∀ Q : List Int, (Q ++ L).Nodup → (∀ x ∈ L, x ≠ 0 ∧ x ∉ V ∧ x ∉ W) → foldC W (V, Q, []) (kin 3 L) = (V, Q ++ L, []) := by
  induction L with
  | nil => intro Q _ _; simp [kin, foldC]
  | cons x L ih =>
    intro Q hn h0
    have hx : x ∉ Q := fun h => (List.nodup_append.1 hn).2.2 x h x (by simp) rfl
    have hx0 := h0 x (by simp)
    have hst : stepC W (V, Q, []) (3, x) = (V, Q ++ [x], []) := by
      unfold stepC
      simp [hx0.1, ins_fresh hx, out_none hx0.2.1, hx0.2.2]
      rfl
    have := ih (Q ++ [x]) (by simpa using hn) (fun y hy => h0 y (by simp [hy]))
    simp only [foldC, kin, List.map_cons, List.foldl_cons, hst]
    simpa [kin, foldC] using this
theorem fold_next (W V L N : List Int) : ∀ Q : List Int, (Q ++ N).Nodup → (∀ x ∈ N, x ≠ 0 ∧ x ∉ V ∧ x ∈ W) → foldC W (V, L, Q) (kin 3 N) = (V, L, Q ++ N) := by
  induction N with
  | nil => intro Q _ _; simp [kin, foldC]
  | cons x N ih =>
    intro Q hn h0
    have hx : x ∉ Q := fun h => (List.nodup_append.1 hn).2.2 x h x (by simp) rfl
    have hx0 := h0 x (by simp)
    have hst : stepC W (V, L, Q) (3, x) = (V, L, Q ++ [x]) := by
      unfold stepC
      simp [hx0.1, ins_fresh hx, out_none hx0.2.1, hx0.2.2]
    have := ih (Q ++ [x]) (by simpa using hn) (fun y hy => h0 y (by simp [hy]))
    simp only [foldC, kin, List.map_cons, List.foldl_cons, hst]
    simpa [kin, foldC] using this
/-- raft's own road back to a configuration gives it back -/
theorem rest_run {V VO L N : List Int} {al : Bool} (h : PropC V VO L N al) : runOps s00 (restOps V VO L N al) = some ⟨al, V, VO, L, N⟩ := by
  have u0 := okS_up h.s0; have u1 := okS_up h.s1; have u2 := okS_up h.s2; have u3 := okS_up h.s3
  have z0 : ∀ x ∈ V, x ≠ 0 := fun x hx => by have := u0.2 x hx; omega
  have z1 : ∀ x ∈ VO, x ≠ 0 := fun x hx => by have := u1.2 x hx; omega
  have z2 : ∀ x ∈ L, x ≠ 0 := fun x hx => by have := u2.2 x hx; omega
  have z3 : ∀ x ∈ N, x ≠ 0 := fun x hx => by have := u3.2 x hx; omega
  unfold restOps
  by_cases hv : VO = []
  · rw [if_pos hv]
    obtain ⟨rfl, rfl⟩ := h.out hv
    subst hv
    have e : (inL V [] L []).map COp.one = (kin 0 V).map .one ++ (kin 3 L).map .one := by simp [inL, kin]
    rw [e, runOps_append, run_voters V [] (by simpa using u0.nodup) z0]
    simp only [Option.bind_some, List.nil_append]
    by_cases hV : V = []
    · obtain ⟨-, rfl⟩ := h.emp hV
      rfl
    · have := run_learners V hV L [] (by simpa using u2.nodup) (fun x hx => ⟨z2 x hx, (h.lrn x hx).1⟩)
      simpa using this
  · rw [if_neg hv]
    have hV : V ≠ [] := fun e => hv (h.emp e).1
    have hf : foldC VO (VO, [], []) (inL V VO L N) = (V, L, N) := by
      have e : foldC VO (VO, [], []) (inL V VO L N) = foldC VO (foldC VO (foldC VO (foldC VO (VO, [], []) (kin 1 VO)) (kin 0 V)) (kin 3 L)) (kin 3 N) := by
        simp only [foldC, inL, List.foldl_append]
      rw [e, fold_rm VO VO VO (fun _ h => h) z1, fold_voters VO V [] (by simpa using u0.nodup) z0]
      rw [List.nil_append, fold_learners VO V L [] (by simpa using u2.nodup) (fun x hx => ⟨z2 x hx, (h.lrn x hx).1, (h.lrn x hx).2.1⟩)]
      rw [List.nil_append, fold_next VO V L N [] (by simpa using u3.nodup) (fun x hx => ⟨z3 x hx, (h.nxt x hx).2, (h.nxt x hx).1⟩)]
      rw [List.nil_append]
    unfold outL
    rw [runOps_append, run_voters VO [] (by simpa using u1.nodup) z1]
    simp only [Option.bind_some, List.nil_append, runOps, stepOp, hf]
    rw [if_pos ⟨trivial, hv, hV⟩]
    rfl
end Go.Proofs.Ytcgccoigjcdjeaa
namespace Go.Proofs.Ytcgccoigjcdjeaa
open Go.RowKit Go.Sort

theorem up_putAll {L N : List Int} (h : Up L) (h1 : ∀ x ∈ N, 1 ≤ x) : Up (N.foldl putC L) ∧ ∀ x, x ∈ N.foldl putC L ↔ x ∈ L ∨ x ∈ N := by
  induction N generalizing L with
  | nil => exact ⟨h, by simp⟩
  | cons y N ih =>
    obtain ⟨g1, g2⟩ := ih (h.put (h1 y (by simp))) (fun x hx => h1 x (by simp [hx]))
    refine ⟨g1, fun x => ?_⟩
    rw [List.foldl_cons, g2, mem_putC, List.mem_cons, or_assoc]
structure Agrees (c : Cfg) (s : Cs) : Prop where
  al : s.al = c.al
  p0 : s.V0.Perm c.V
  p1 : s.V1.Perm c.VO
  p2 : s.L.Perm c.L
  p3 : s.N.Perm c.N
  prop : PropC c.V c.VO c.L c.N c.al
  n0 : c.V.length ≤ 24
  n1 : c.VO.length ≤ 24
  n2 : c.L.length ≤ 24
  n3 : c.N.length ≤ 24
theorem agree {V VO L N : List Int} {al : Bool} {way : Int} {l : List (Int × Int)} (h : AskC V VO L N al way l) (h0 : ∀ x ∈ l, 0 ≤ x.2) :
    (specC V VO L N al way l = none ∧ changedC V VO L N al way l = none) ∨ ∃ c s, specC V VO L N al way l = some c ∧ changedC V VO L N al way l = some s ∧ Agrees c s := by
  have hp := h.prop
  have u0 := okS_up hp.s0; have u1 := okS_up hp.s1; have u2 := okS_up hp.s2; have u3 := okS_up hp.s3
  have hch : changedC V VO L N al way l = wayC ⟨al, V, VO, L, N⟩ way (l.map kd) := by unfold changedC; rw [rest_run hp]; rfl
  rw [hch]
  clear hch
  have l0 := h.v; have l1 := h.vo; have l2 := h.lr; have l3 := h.n; have l4 := h.ln
  unfold specC wayC
  by_cases w4 : way = 4
  · subst w4
    rw [if_pos (show (4 : Int) = 4 from rfl), if_neg (show ¬ (4 : Int) = 1 by decide), if_pos (show (4 : Int) = 4 from rfl)]
    simp only
    by_cases hv : VO = []
    · rw [if_pos hv, if_neg (by simp [hv])]; exact .inl ⟨rfl, rfl⟩
    · rw [if_neg hv, if_pos hv]
      have hV : V ≠ [] := fun e => hv (hp.emp e).1
      obtain ⟨g1, g2⟩ := up_putAll u2 u3.2
      have hnd : (L ++ N).Nodup := List.nodup_append.2 ⟨u2.nodup, u3.nodup, fun a ha b hb e => (hp.lrn a ha).2.2 (e ▸ hb)⟩
      have hpm : (L ++ N).Perm (N.foldl putC L) := (List.perm_ext_iff_of_nodup hnd g1.nodup).2 (fun x => by rw [g2, List.mem_append])
      refine .inr ⟨_, _, rfl, rfl, ⟨rfl, .refl _, .refl _, hpm, .refl _, ⟨hp.s0, up_okS up_nil, up_okS g1, up_okS up_nil, fun x hx => ⟨?_, by simp, by simp⟩, by simp, fun e => absurd e hV, fun _ => ⟨rfl, rfl⟩⟩, by simp only; omega, by simp, ?_, by simp⟩⟩
      · rcases (g2 x).1 hx with hx | hx
        · exact (hp.lrn x hx).1
        · exact (hp.nxt x hx).2
      · have := hpm.length_eq
        simp only [List.length_append] at this
        simp only
        omega
  · rw [if_neg w4]
    by_cases w1 : way = 1
    · subst w1
      rw [if_pos (show (1 : Int) = 1 from rfl), if_pos (show (1 : Int) = 1 from rfl)]
      simp only
      by_cases hv : VO = []
      · obtain ⟨rfl, rfl⟩ := hp.out hv
        subst hv
        have ci : CfI [] (V, L, []) := ⟨u0, u2, up_nil, fun x hx => ⟨(hp.lrn x hx).1, by simp, by simp⟩, by simp⟩
        have cf := ci.fold l h0
        have sf := (show SameT (V, L, []) (V, L, []) from ⟨.refl u0.nodup, .refl u2.nodup, .refl List.nodup_nil⟩).fold ci l h0 h.kinds
        have hln := foldOne_len [] l (V, L, [])
        obtain ⟨c, hc⟩ : ∃ c, c = l.foldl (oneC []) (V, L, []) := ⟨_, rfl⟩
        obtain ⟨d, hd⟩ : ∃ d, d = foldC [] (V, L, []) (l.map kd) := ⟨_, rfl⟩
        rw [← hc] at cf sf hln
        rw [← hd] at sf
        rw [← hc, ← hd]
        have hcnt := cnt_same sf.m0 cf.p0.nodup V
        have hnil := same_nil sf.m0
        by_cases hok : c.1 ≠ [] ∧ cnt V c.1 + cnt c.1 V ≤ 1
        · rw [if_pos ⟨rfl, hok⟩, if_pos ⟨rfl, fun e => hok.1 (hnil.1 e), by omega⟩]
          have hn : c.2.2 = [] := List.eq_nil_iff_forall_not_mem.2 (fun x hx => by have := (cf.nx x hx).1; cases this)
          simp only at hln
          simp at hln
          refine .inr ⟨_, _, rfl, rfl, ⟨rfl, sf.m0.perm cf.p0.nodup, .refl _, sf.m1.perm cf.p1.nodup, sf.m2.perm cf.p2.nodup, ⟨up_okS cf.p0, up_okS up_nil, up_okS cf.p1, up_okS cf.p2, cf.ln, cf.nx, fun e => absurd e hok.1, fun _ => ⟨hn, rfl⟩⟩, ?_, by simp, ?_, ?_⟩⟩
          · show c.1.length ≤ 24; omega
          · show c.2.1.length ≤ 24; omega
          · show c.2.2.length ≤ 24; omega
        · rw [if_neg (fun e => hok e.2), if_neg (fun e => hok ⟨fun e' => e.2.1 (hnil.2 e'), by omega⟩)]
          exact .inl ⟨rfl, rfl⟩
      · rw [if_neg (fun e => hv e.1), if_neg (fun e => hv e.1)]; exact .inl ⟨rfl, rfl⟩
    · rw [if_neg w1, if_neg w1, if_neg w4]
      simp only [stepOp]
      by_cases hv : VO = []
      · obtain ⟨rfl, rfl⟩ := hp.out hv
        subst hv
        have ci : CfI V (V, L, []) := ⟨u0, u2, up_nil, fun x hx => ⟨(hp.lrn x hx).1, (hp.lrn x hx).1, by simp⟩, by simp⟩
        have cf := ci.fold l h0
        have sf := (show SameT (V, L, []) (V, L, []) from ⟨.refl u0.nodup, .refl u2.nodup, .refl List.nodup_nil⟩).fold ci l h0 h.kinds
        have hln := foldOne_len V l (V, L, [])
        obtain ⟨c, hc⟩ : ∃ c, c = l.foldl (oneC V) (V, L, []) := ⟨_, rfl⟩
        obtain ⟨d, hd⟩ : ∃ d, d = foldC V (V, L, []) (l.map kd) := ⟨_, rfl⟩
        rw [← hc] at cf sf hln
        rw [← hd] at sf
        rw [← hc, ← hd]
        have hnil := same_nil sf.m0
        by_cases hok : V ≠ [] ∧ c.1 ≠ []
        · rw [if_pos ⟨rfl, hok⟩, if_pos ⟨rfl, hok.1, fun e => hok.2 (hnil.1 e)⟩]
          simp only at hln
          simp at hln
          refine .inr ⟨_, _, rfl, rfl, ⟨rfl, sf.m0.perm cf.p0.nodup, .refl _, sf.m1.perm cf.p1.nodup, sf.m2.perm cf.p2.nodup, ⟨up_okS cf.p0, hp.s0, up_okS cf.p1, up_okS cf.p2, cf.ln, cf.nx, fun e => absurd e hok.2, fun e => absurd e hok.1⟩, ?_, ?_, ?_, ?_⟩⟩
          · show c.1.length ≤ 24; omega
          · show V.length ≤ 24; omega
          · show c.2.1.length ≤ 24; omega
          · show c.2.2.length ≤ 24; omega
        · rw [if_neg (fun e => hok e.2), if_neg (fun e => hok ⟨e.2.1, fun e' => e.2.2 (hnil.2 e')⟩)]
          exact .inl ⟨rfl, rfl⟩
      · rw [if_neg (fun e => hv e.1), if_neg (fun e => hv e.1)]; exact .inl ⟨rfl, rfl⟩
/-- what the sorted lists that come out read -/
theorem sorted_is {d s c : List Int} (hp : d.Perm s) (hs : d.Pairwise (· ≤ ·)) (hsc : s.Perm c) (hc : okS c) : d = c :=
  List.Perm.eq_of_pairwise (le := fun a b => a ≤ b) (fun a b _ _ h1 h2 => by omega) hs ((okS_up hc).1.imp (fun h => by omega)) (hp.trans hsc)
end Go.Proofs.Ytcgccoigjcdjeaa
