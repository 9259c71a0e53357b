/- No change lets two sets without a common member decide. Condition: what the statement asks, and somebody votes. -/
import Derived.Test.YtcgccoigjcdjeaaQuZ
import Derived.Lib.SlicesCompact
import Derived.Test.YtcgccoigjcdjeaaChZd
namespace Go.Proofs.Ytcgccoigjcdjeaa
open Go.RowKit Go.Sort Go.Lib

theorem filt_part (l : List Int) (p q : Int → Bool) : (l.filter p).length ≤ ((l.filter q).filter p).length + (l.filter fun x => !q x).length := by
  induction l with
  | nil => simp
  | cons x l ih =>
    simp only [List.filter_cons]
    cases hp : p x <;> cases q x <;> simp only [hp, List.filter_cons, Bool.not_true, Bool.not_false, Bool.false_eq_true, if_true, if_false, List.length_cons] <;> omega
theorem len_part (l : List Int) (q : Int → Bool) : l.length = (l.filter q).length + (l.filter fun x => !q x).length := by
  induction l with
  | nil => simp
  | cons x l ih =>
    simp only [List.filter_cons]
    cases hq : q x <;> simp <;> omega
/-- opposite ballots -/
def Opp (ids : List Int) (A B : List (Int × Bool)) : Prop := ∀ x ∈ ids, ∃ c, bal A x = some c ∧ bal B x = some (!c)
theorem opp_sum {ids : List Int} {A B : List (Int × Bool)} (h : Opp ids A B) (s : List Int) (hs : ∀ x ∈ s, x ∈ ids) : yesN A s + yesN B s = s.length := by
  induction s with
  | nil => rfl
  | cons x s ih =>
    have h1 := ih (fun y hy => hs y (by simp [hy]))
    obtain ⟨c, hA, hB⟩ := h x (hs x (by simp))
    unfold yesN at h1 ⊢
    simp only [List.filter_cons, hA, hB]
    cases c <;> simp <;> omega
theorem joinR_won {a b : Int} (h : joinR a b = 3) : a = 3 ∧ b = 3 := by
  unfold joinR at h
  split at h
  · omega
  · split at h <;> omega
theorem voteR_won {B : List (Int × Bool)} {s : List Int} (h : voteR B s = 3) (hs : s ≠ []) : s.length / 2 + 1 ≤ yesN B s := by
  unfold voteR at h
  rw [if_neg hs] at h
  split at h
  · assumption
  · split at h <;> omega
/-- the same list cannot be won by both -/
theorem one_list {ids : List Int} {A B : List (Int × Bool)} (h : Opp ids A B) {s : List Int} (hs : ∀ x ∈ s, x ∈ ids) (hne : s ≠ []) (hA : voteR A s = 3) (hB : voteR B s = 3) : False := by
  have h1 := voteR_won hA hne
  have h2 := voteR_won hB hne
  have h3 := opp_sum h s hs
  omega
/-- nor two lists that differ by one -/
theorem near_lists {ids : List Int} {A B : List (Int × Bool)} (h : Opp ids A B) {s t : List Int} (hs : ∀ x ∈ s, x ∈ ids) (hns : s ≠ []) (hnt : t ≠ []) (ds : s.Nodup) (dt : t.Nodup) (hc : cnt s t + cnt t s ≤ 1) (hA : voteR A s = 3) (hB : voteR B t = 3) : False := by
  have h1 := voteR_won hA hns
  have h2 := voteR_won hB hnt
  have a1 := filt_part s (fun x => bal A x == some true) (fun x => decide (x ∈ t))
  have a2 := filt_part t (fun x => bal B x == some true) (fun x => decide (x ∈ s))
  have a3 := len_part s (fun x => decide (x ∈ t))
  have a4 := len_part t (fun x => decide (x ∈ s))
  have hp : (t.filter fun x => decide (x ∈ s)).Perm (s.filter fun x => decide (x ∈ t)) := by
    refine (List.perm_ext_iff_of_nodup (dt.filter _) (ds.filter _)).2 (fun x => ?_)
    simp only [List.mem_filter, decide_eq_true_eq]
    exact And.comm
  have a5 := hp.length_eq
  have a6 := opp_sum h (s.filter fun x => decide (x ∈ t)) (fun x hx => hs x (List.mem_filter.1 hx).1)
  have a7 : yesN B (t.filter fun x => decide (x ∈ s)) = yesN B (s.filter fun x => decide (x ∈ t)) := yesN_perm B hp
  unfold cnt at hc
  unfold yesN at h1 h2 a6 a7
  omega
theorem compactUpTo_sorted (d : Array Int) (hs : ∀ i j, i ≤ j → j < d.size → d[i]! ≤ d[j]!) : ∀ m, m ≤ d.size → (∀ x, x ∈ compactUpTo d m ↔ ∃ j, j < m ∧ d[j]! = x) ∧ (compactUpTo d m).Pairwise (· < ·) := by
  intro m
  induction m with
  | zero => intro _; exact ⟨by simp [compactUpTo], by simp [compactUpTo]⟩
  | succ m ih =>
    intro hm
    obtain ⟨h1, h2⟩ := ih (by omega)
    rw [compactUpTo_succ]
    by_cases hk : m = 0 ∨ d[m]! ≠ d[m - 1]!
    · have hkk : keeps d m = true := by simp [keeps, hk]
      rw [if_pos hkk]
      refine ⟨fun x => ?_, ?_⟩
      · rw [List.mem_append, h1, List.mem_singleton]
        constructor
        · rintro (⟨j, hj, e⟩ | rfl)
          · exact ⟨j, by omega, e⟩
          · exact ⟨m, by omega, rfl⟩
        · rintro ⟨j, hj, rfl⟩
          by_cases e : j = m
          · subst e; exact .inr rfl
          · exact .inl ⟨j, by omega, rfl⟩
      · refine List.pairwise_append.2 ⟨h2, by simp, fun x hx y hy => ?_⟩
        simp only [List.mem_singleton] at hy
        subst hy
        obtain ⟨j, hj, rfl⟩ := (h1 x).1 hx
        have h3 := hs j (m - 1) (by omega) (by omega)
        have h4 := hs (m - 1) m (by omega) (by omega)
        have h5 : d[m]! ≠ d[m - 1]! := hk.resolve_left (by omega)
        omega
    · have hkk : keeps d m = false := by simp only [keeps, decide_eq_false_iff_not]; exact hk
      have hm0 : m ≠ 0 := fun e => hk (.inl e)
      have he : d[m]! = d[m - 1]! := Classical.byContradiction (fun e => hk (.inr e))
      rw [hkk]
      simp only [Bool.false_eq_true, if_false, List.append_nil]
      refine ⟨fun x => ?_, h2⟩
      rw [h1]
      constructor
      · rintro ⟨j, hj, e⟩; exact ⟨j, by omega, e⟩
      · rintro ⟨j, hj, rfl⟩
        by_cases e : j = m
        · subst e; exact ⟨j - 1, by omega, he.symm⟩
        · exact ⟨j, by omega, rfl⟩
theorem compact_sorted {l : List Int} (h : l.Pairwise (· ≤ ·)) : (∀ x, x ∈ Lib.compact l ↔ x ∈ l) ∧ (Lib.compact l).Pairwise (· < ·) := by
  have hs : ∀ i j, i ≤ j → j < l.toArray.size → l.toArray[i]! ≤ l.toArray[j]! := by
    intro i j hij hj
    have hj' : j < l.length := by simpa using hj
    have hi' : i < l.length := by omega
    rw [getElem!_pos l.toArray i (by simpa using hi'), getElem!_pos l.toArray j (by simpa using hj')]
    simp only [List.getElem_toArray]
    by_cases e : i = j
    · subst e; exact Int.le_refl _
    · exact List.pairwise_iff_getElem.1 h i j hi' hj' (by omega)
  obtain ⟨h1, h2⟩ := compactUpTo_sorted l.toArray hs l.length (by simp)
  refine ⟨fun x => ?_, h2⟩
  show x ∈ compactUpTo l.toArray l.length ↔ _
  rw [h1]
  constructor
  · rintro ⟨j, hj, rfl⟩
    rw [getElem!_pos l.toArray j (by simpa using hj)]
    simp
  · intro hx
    obtain ⟨j, hj, rfl⟩ := List.getElem_of_mem hx
    exact ⟨j, hj, by rw [getElem!_pos l.toArray j (by simpa using hj)]; simp⟩
/-- the ballots of a set of members, and those of the others -/
def setB (b : Nat → Bool) (ids : List Int) : List (Int × Bool) := ids.zipIdx.map fun p => (p.1, b p.2)
theorem setB_keys (b : Nat → Bool) (ids : List Int) : (setB b ids).map (·.1) = ids := by
  unfold setB
  rw [List.map_map]
  show ids.zipIdx.map Prod.fst = ids
  simp
theorem setB_len (b : Nat → Bool) (ids : List Int) : (setB b ids).length = ids.length := by simp [setB]
theorem setB_succ (b : Nat → Bool) (ids : List Int) (i : Nat) (h : i < ids.length) : setB b (ids.take (i + 1)) = setB b (ids.take i) ++ [(ids[i], b i)] := by
  unfold setB
  rw [List.take_succ_eq_append_getElem h, List.zipIdx_append, List.map_append]
  simp [List.zipIdx, Nat.min_eq_left (Nat.le_of_lt h)]
theorem bal_mem {B : List (Int × Bool)} (hn : (B.map (·.1)).Nodup) {x : Int} {c : Bool} (h : (x, c) ∈ B) : bal B x = some c := by
  unfold bal
  induction B with
  | nil => cases h
  | cons p B ih =>
    rw [List.find?_cons]
    rw [List.map_cons, List.nodup_cons] at hn
    by_cases e : p.1 = x
    · simp only [e, beq_self_eq_true]
      rcases List.mem_cons.1 h with h | h
      · rw [← h]; rfl
      · exact absurd (List.mem_map.2 ⟨_, h, rfl⟩) (by rw [← e] at *; exact hn.1)
    · have : (p.1 == x) = false := by simpa using e
      rw [this]
      rcases List.mem_cons.1 h with h | h
      · rw [← h] at e; exact absurd rfl e
      · exact ih hn.2 h
theorem setB_opp (b : Nat → Bool) (ids : List Int) (h : ids.Nodup) : Opp ids (setB b ids) (setB (fun i => !b i) ids) := by
  intro x hx
  obtain ⟨i, hi, rfl⟩ := List.getElem_of_mem hx
  have hm : ∀ f : Nat → Bool, (ids[i], f i) ∈ setB f ids := fun f => by
    unfold setB
    exact List.mem_map.2 ⟨(ids[i], i), by rw [List.mem_zipIdx_iff_getElem?]; simp [hi], rfl⟩
  exact ⟨b i, bal_mem (by rw [setB_keys]; exact h) (hm b), bal_mem (by rw [setB_keys]; exact h) (hm (fun i => !b i))⟩
end Go.Proofs.Ytcgccoigjcdjeaa
namespace Go.Proofs.Ytcgccoigjcdjeaa
open Go.RowKit Go.Sort Go.Lib

theorem overlap {V VO L N : List Int} {al : Bool} {way : Int} {l : List (Int × Int)} (ha : AskC V VO L N al way l) (h0 : ∀ x ∈ l, 0 ≤ x.2) (hV : V ≠ []) {c : Cfg} (hc : specC V VO L N al way l = some c) {ids : List Int} {A B : List (Int × Bool)} (ho : Opp ids A B) (hi : ∀ x ∈ V, x ∈ ids) (hw : joinR (voteR A V) (voteR A VO) = 3) (hw' : joinR (voteR B c.V) (voteR B c.VO) = 3) : False := by
  have w1 := (joinR_won hw).1
  obtain ⟨w2, w3⟩ := joinR_won hw'
  have hp := ha.prop
  have u0 := (okS_up hp.s0).nodup
  have hok : PropC c.V c.VO c.L c.N c.al := by
    rcases agree ha h0 with ⟨h1, _⟩ | ⟨c', s, h1, _, ag⟩
    · rw [hc] at h1; cases h1
    · rw [hc] at h1; cases h1; exact ag.prop
  have u1 := (okS_up hok.s0).nodup
  unfold specC at hc
  split at hc
  · split at hc
    · cases hc
    · cases hc
      exact one_list ho hi hV w1 w2
  · split at hc
    · split at hc
      · rename_i hg
        cases hc
        exact near_lists ho hi hV hg.2.1 u0 u1 hg.2.2 w1 w2
      · cases hc
    · split at hc
      · cases hc
        exact one_list ho hi hV w1 w3
      · cases hc
theorem ov_size {V VO L N : List Int} {al : Bool} {way : Int} {l : List (Int × Int)} (ha : AskC V VO L N al way l) (h0 : ∀ x ∈ l, 0 ≤ x.2) {c : Cfg} (hc : specC V VO L N al way l = some c) : V.length + VO.length + c.V.length + c.VO.length ≤ 48 := by
  have l0 := ha.v; have l1 := ha.vo
  have hn : c.V.length ≤ 24 := by
    rcases agree ha h0 with ⟨h1, _⟩ | ⟨c', s, h1, _, ag⟩
    · rw [hc] at h1; cases h1
    · rw [hc] at h1; cases h1; exact ag.n0
  unfold specC at hc
  split at hc
  · split at hc
    · cases hc
    · cases hc
      simp only [List.length_nil] at hn ⊢
      omega
  · split at hc
    · split at hc
      · rename_i hg
        cases hc
        have e0 : VO.length = 0 := by rw [hg.1]; rfl
        simp only at hn ⊢
        omega
      · cases hc
    · split at hc
      · rename_i hg
        cases hc
        have e0 : VO.length = 0 := by rw [hg.1]; rfl
        simp only at hn ⊢
        omega
      · cases hc
end Go.Proofs.Ytcgccoigjcdjeaa
