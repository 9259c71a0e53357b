/- Plain: an index is won just if it is at most the committed one. Condition: no number below 0; each list without a number twice. -/
import Derived.Test.YtcgccoigjcdjeaaQuM
namespace Go.Proofs.Ytcgccoigjcdjeaa

/-- members, none twice, in the order in which they come first -/
def dd (c : List Int) : List Int := c.foldl ins []
theorem dd_snoc (c : List Int) (x : Int) : dd (c ++ [x]) = ins (dd c) x := by unfold dd; rw [List.foldl_append]; rfl
theorem dd_foldl (c : List Int) : ∀ s : List Int, (s.Nodup → (c.foldl ins s).Nodup) ∧ ∀ x, x ∈ c.foldl ins s ↔ x ∈ s ∨ x ∈ c := by
  induction c with
  | nil => intro s; exact ⟨fun h => h, fun x => by simp⟩
  | cons y c ih =>
    intro s
    obtain ⟨h1, h2⟩ := ih (ins s y)
    rw [List.foldl_cons]
    refine ⟨fun h => h1 (nodup_ins h), fun x => ?_⟩
    rw [h2 x, mem_ins, List.mem_cons, or_assoc]
theorem nodup_dd (c : List Int) : (dd c).Nodup := (dd_foldl c []).1 List.nodup_nil
theorem mem_dd (c : List Int) (x : Int) : x ∈ dd c ↔ x ∈ c := by rw [show (x ∈ dd c ↔ _) from (dd_foldl c []).2 x]; simp
theorem dd_le (c : List Int) : (dd c).length ≤ c.length := len_le_of_sub (nodup_dd c) (fun x hx => (mem_dd c x).1 hx)
def yesA (A : List (Int × Int)) (k id : Int) : Bool := decide (k = 0) || (match ackd A id with | none => false | some v => decide (k ≤ v))
def balB (A : List (Int × Int)) (k : Int) (c : List Int) : List (Int × Bool) := (dd c).map fun id => (id, yesA A k id)
theorem balB_keys (A : List (Int × Int)) (k : Int) (c : List Int) : (balB A k c).map (·.1) = dd c := by unfold balB; rw [List.map_map]; simp [Function.comp_def]
theorem balB_length (A : List (Int × Int)) (k : Int) (c : List Int) : (balB A k c).length = (dd c).length := by unfold balB; simp
theorem balB_in {A : List (Int × Int)} {k : Int} {c : List Int} {x : Int} (h : x ∈ dd c) : balB A k (c ++ [x]) = balB A k c := by
  unfold balB; rw [dd_snoc]; unfold ins; rw [if_pos h]
theorem balB_out {A : List (Int × Int)} {k : Int} {c : List Int} {x : Int} (h : x ∉ dd c) : balB A k (c ++ [x]) = balB A k c ++ [(x, yesA A k x)] := by
  unfold balB; rw [dd_snoc]; unfold ins; rw [if_neg h, List.map_append]; rfl
theorem bal_map (f : Int → Bool) (l : List Int) (x : Int) : bal (l.map fun id => (id, f id)) x = if x ∈ l then some (f x) else none := by
  induction l with
  | nil => rfl
  | cons y l ih =>
    unfold bal at ih ⊢
    by_cases h : y = x
    · subst h; simp
    · have h' : ¬ x = y := fun e => h e.symm
      simp only [List.map_cons, List.mem_cons, h', false_or]
      rw [List.find?_cons_of_neg (by simpa using h)]
      exact ih
theorem bal_balB (A : List (Int × Int)) (k : Int) (c : List Int) {x : Int} (h : x ∈ c) : bal (balB A k c) x = some (yesA A k x) := by
  unfold balB
  rw [bal_map, if_pos ((mem_dd c x).2 h)]
theorem yesA_iff {A : List (Int × Int)} (hA : ∀ p ∈ A, 0 ≤ p.2) {k : Int} (hk : 0 ≤ k) (x : Int) : yesA A k x = decide (k ≤ ackO A x) := by
  have h0 := ackO_nonneg hA x
  unfold yesA ackO at *
  by_cases hz : k = 0
  · subst hz; simp [h0]
  · cases hx : ackd A x with
    | none => simp [hz]; omega
    | some v => simp [hz]
theorem filter_len_congr {α : Type} {l : List α} {p q : α → Bool} (h : ∀ x ∈ l, p x = q x) : (l.filter p).length = (l.filter q).length := by
  induction l with
  | nil => rfl
  | cons y l ih =>
    have hy := h y (.head _)
    have := ih (fun x hx => h x (.tail _ hx))
    simp only [List.filter_cons, hy]
    split <;> simp [this]
theorem yesN_balB {A : List (Int × Int)} (hA : ∀ p ∈ A, 0 ≤ p.2) {k : Int} (hk : 0 ≤ k) {c s : List Int} (hs : ∀ x ∈ s, x ∈ c) : yesN (balB A k c) s = cntGe (s.map (ackO A)) k ∧ missN (balB A k c) s = 0 := by
  constructor
  · unfold yesN cntGe
    rw [List.filter_map, List.length_map]
    refine filter_len_congr fun x hx => ?_
    rw [bal_balB A k c (hs x hx), yesA_iff hA hk]
    simp [Function.comp]
  · unfold missN
    rw [List.length_eq_zero_iff, List.filter_eq_nil_iff]
    intro x hx
    rw [bal_balB A k c (hs x hx)]
    simp
theorem vote_balB {A : List (Int × Int)} (hA : ∀ p ∈ A, 0 ≤ p.2) {k : Int} (hk : 0 ≤ k) (hm : k ≤ maxU) {c s : List Int} (hs : ∀ x ∈ s, x ∈ c) : voteR (balB A k c) s = 3 ↔ k ≤ commR A s := by
  obtain ⟨h1, h2⟩ := yesN_balB hA hk hs
  unfold voteR commR commX
  rw [h1, h2]
  by_cases h0 : s = []
  · rw [if_pos h0, if_pos (by simpa using h0)]; simp [hm]
  · have hne : ¬ s.map (ackO A) = [] := by simpa using h0
    rw [if_neg h0, if_neg hne]
    have hb := best_reached (xs := s.map (ackO A)) (by simpa using h0) (fun x hx => by obtain ⟨y, _, rfl⟩ := List.mem_map.1 hx; exact ackO_nonneg hA y) k
    rw [List.length_map] at hb
    rw [← hb]
    constructor
    · intro h
      by_cases hq : s.length / 2 + 1 ≤ cntGe (s.map (ackO A)) k
      · exact hq
      · rw [if_neg hq] at h
        split at h <;> cases h
    · intro h; rw [if_pos h]
theorem joinR_won (B : List (Int × Bool)) (s t : List Int) : joinR (voteR B s) (voteR B t) = 3 ↔ voteR B s = 3 ∧ voteR B t = 3 := by
  have h1 := voteR_cases B s; have h2 := voteR_cases B t
  rcases h1 with h1 | h1 | h1 <;> rcases h2 with h2 | h2 | h2 <;> simp [h1, h2, joinR]
theorem win_iff {A : List (Int × Int)} (hA : ∀ p ∈ A, 0 ≤ p.2) {k : Int} (hk : 0 ≤ k) (hm : k ≤ maxU) (s t : List Int) : joinR (voteR (balB A k (s ++ t)) s) (voteR (balB A k (s ++ t)) t) = 3 ↔ k ≤ lessR (commR A s) (commR A t) := by
  rw [joinR_won, vote_balB hA hk hm (c := s ++ t) (s := s) (fun x hx => List.mem_append.2 (.inl hx)), vote_balB hA hk hm (c := s ++ t) (s := t) (fun x hx => List.mem_append.2 (.inr hx))]
  unfold lessR
  split <;> constructor <;> intro h <;> omega
theorem commR_range {A : List (Int × Int)} (hA : ∀ p ∈ A, 0 ≤ p.2 ∧ p.2 ≤ maxU) (s : List Int) : 0 ≤ commR A s ∧ commR A s ≤ maxU := by
  unfold commR commX
  split
  · unfold maxU; omega
  · rename_i hne
    have h := bestR_range hne (fun x hx => by obtain ⟨y, _, rfl⟩ := List.mem_map.1 hx; exact ackO_nonneg (fun p hp => (hA p hp).1) y)
    obtain ⟨y, _, e⟩ := List.mem_map.1 h
    rw [← e]
    refine ⟨ackO_nonneg (fun p hp => (hA p hp).1) y, ?_⟩
    unfold ackO ackd
    cases hf : A.find? (fun p => p.1 == y) with
    | none => simp [maxU]
    | some p => simpa using (hA p (List.mem_of_find?_eq_some hf)).2
/-- what FnQuorumVotes asks: the committed index wins, the next one does not -/
theorem win_at {A : List (Int × Int)} (hA : ∀ p ∈ A, 0 ≤ p.2 ∧ p.2 ≤ maxU) (s t : List Int) {K : Int} (hK : K = lessR (commR A s) (commR A t)) :
    (0 ≤ K ∧ K ≤ maxU) ∧ joinR (voteR (balB A K (s ++ t)) s) (voteR (balB A K (s ++ t)) t) = 3 ∧ (K ≠ maxU → joinR (voteR (balB A (K + 1) (s ++ t)) s) (voteR (balB A (K + 1) (s ++ t)) t) ≠ 3) := by
  have h1 := commR_range hA s
  have h2 := commR_range hA t
  have hr : 0 ≤ K ∧ K ≤ maxU := by rw [hK]; unfold lessR; split <;> omega
  refine ⟨hr, (win_iff (fun p hp => (hA p hp).1) hr.1 hr.2 s t).2 (by omega), fun hne h => ?_⟩
  have := (win_iff (fun p hp => (hA p hp).1) (by omega) (by omega) s t).1 h
  omega
end Go.Proofs.Ytcgccoigjcdjeaa
