/- Plain: the greatest number that more than half of a list reach. Condition: no number below 0. -/
import Derived.Below
namespace Go.Proofs.Ytcgccoigjcdjeaa

def cntGe (xs : List Int) (k : Int) : Nat := (xs.filter fun x => decide (k ≤ x)).length
def bestF (xs : List Int) (b k : Int) : Int := if xs.length / 2 + 1 ≤ cntGe xs k then (if b < k then k else b) else b
def bestR (xs p : List Int) : Int := p.foldl (bestF xs) 0
def maxU : Int := 18446744073709551615
def commX (xs : List Int) : Int := if xs = [] then maxU else bestR xs xs

theorem cntGe_perm {a b : List Int} (k : Int) (h : a.Perm b) : cntGe a k = cntGe b k := (h.filter _).length_eq
theorem cntGe_le (a : List Int) (k : Int) : cntGe a k ≤ a.length := List.length_filter_le _ _
theorem cntGe_append (a b : List Int) (k : Int) : cntGe (a ++ b) k = cntGe a k + cntGe b k := by unfold cntGe; rw [List.filter_append, List.length_append]
theorem cntGe_snoc (a : List Int) (x k : Int) : cntGe (a ++ [x]) k = cntGe a k + if k ≤ x then 1 else 0 := by
  rw [cntGe_append]
  unfold cntGe
  by_cases h : k ≤ x <;> simp [h]
theorem cntGe_all {a : List Int} {k : Int} (h : ∀ x ∈ a, k ≤ x) : cntGe a k = a.length := by
  unfold cntGe
  rw [List.filter_eq_self.2 (fun x hx => by simpa using h x hx)]
theorem cntGe_none {a : List Int} {k : Int} (h : ∀ x ∈ a, x < k) : cntGe a k = 0 := by
  unfold cntGe
  rw [List.length_eq_zero_iff, List.filter_eq_nil_iff]
  intro x hx
  have := h x hx
  simpa using this
/-- at place p of a rising list: who reaches k -/
theorem sorted_reach {d : List Int} (hs : d.Pairwise (· ≤ ·)) {p : Nat} {r : Int} (hr : d[p]? = some r) (k : Int) : d.length - p ≤ cntGe d k ↔ k ≤ r := by
  obtain ⟨hp, rfl⟩ := List.getElem?_eq_some_iff.1 hr
  have hpw := List.pairwise_iff_getElem.1 hs
  constructor
  · intro h
    apply Int.not_lt.1
    intro hlt
    have e : d = d.take (p + 1) ++ d.drop (p + 1) := (List.take_append_drop _ _).symm
    have h1 : cntGe (d.take (p + 1)) k = 0 := by
      refine cntGe_none fun x hx => ?_
      obtain ⟨i, hi, rfl⟩ := List.getElem_of_mem hx
      rw [List.getElem_take]
      simp at hi
      by_cases hip : i = p
      · subst hip; exact hlt
      · have := hpw i p (by omega) hp (by omega); omega
    have h2 := cntGe_le (d.drop (p + 1)) k
    rw [e, cntGe_append, h1] at h
    simp at h h2
    omega
  · intro h
    have e : d = d.take p ++ d.drop p := (List.take_append_drop _ _).symm
    have h1 : cntGe (d.drop p) k = (d.drop p).length := by
      refine cntGe_all fun x hx => ?_
      obtain ⟨i, hi, rfl⟩ := List.getElem_of_mem hx
      rw [List.getElem_drop]
      by_cases hip : i = 0
      · subst hip; simpa using h
      · have := hpw p (p + i) hp (by simp at hi; omega) (by omega); omega
    have h2 : cntGe d k = cntGe (d.take p) k + cntGe (d.drop p) k := by rw [← cntGe_append, ← e]
    rw [h2, h1]
    simp
theorem best_le (xs : List Int) (r : Int) : ∀ (p : List Int) (b : Int), b ≤ r → (∀ k ∈ p, xs.length / 2 + 1 ≤ cntGe xs k → k ≤ r) → p.foldl (bestF xs) b ≤ r := by
  intro p
  induction p with
  | nil => intro b hb _; exact hb
  | cons x p ih =>
    intro b hb h
    rw [List.foldl_cons]
    refine ih _ ?_ (fun k hk => h k (.tail _ hk))
    unfold bestF
    have := h x (.head _)
    split
    · rename_i hq
      have := this hq
      split <;> omega
    · exact hb
theorem best_ge (xs : List Int) : ∀ (p : List Int) (b : Int), b ≤ p.foldl (bestF xs) b := by
  intro p
  induction p with
  | nil => intro b; exact Int.le_refl _
  | cons x p ih =>
    intro b
    rw [List.foldl_cons]
    refine Int.le_trans ?_ (ih _)
    unfold bestF
    split
    · split <;> omega
    · exact Int.le_refl _
theorem best_reach (xs : List Int) (r : Int) (hq : xs.length / 2 + 1 ≤ cntGe xs r) : ∀ (p : List Int) (b : Int), r ∈ p → r ≤ p.foldl (bestF xs) b := by
  intro p
  induction p with
  | nil => intro b h; cases h
  | cons x p ih =>
    intro b h
    rw [List.foldl_cons]
    rcases List.mem_cons.1 h with rfl | h
    · refine Int.le_trans ?_ (best_ge xs p _)
      unfold bestF
      rw [if_pos hq]
      split <;> omega
    · exact ih _ h
theorem best_snoc (xs p : List Int) (k : Int) : bestR xs (p ++ [k]) = bestF xs (bestR xs p) k := by unfold bestR; rw [List.foldl_append]; rfl
theorem best_of_sorted {xs d : List Int} (hp : d.Perm xs) (hs : d.Pairwise (· ≤ ·)) (h0 : ∀ x ∈ xs, 0 ≤ x) {r : Int} (hr : d[xs.length - (xs.length / 2 + 1)]? = some r) : bestR xs xs = r := by
  have hlen := hp.length_eq
  have hlt := (List.getElem?_eq_some_iff.1 hr).1
  have hm : r ∈ xs := hp.mem_iff.1 (List.mem_of_getElem? hr)
  have hq : ∀ k, xs.length / 2 + 1 ≤ cntGe xs k ↔ k ≤ r := fun k => by
    rw [← sorted_reach hs hr k, cntGe_perm k hp]
    constructor <;> intro h <;> omega
  apply Int.le_antisymm
  · exact best_le xs r xs 0 (h0 r hm) (fun k _ h => (hq k).1 h)
  · exact best_reach xs r ((hq r).2 (Int.le_refl _)) xs 0 hm
/-- every list has a rising order -/
theorem sorted_ex (xs : List Int) : ∃ d : List Int, d.Perm xs ∧ d.Pairwise (· ≤ ·) := by
  refine ⟨xs.mergeSort (fun a b => decide (a ≤ b)), List.mergeSort_perm _ _, ?_⟩
  have h := List.pairwise_mergeSort (le := fun a b : Int => decide (a ≤ b)) (fun a b c h1 h2 => by simp at *; omega) (fun a b => by simp; omega) xs
  exact h.imp (fun h => by simpa using h)
/-- the greatest index that a majority reaches: reached just up to it -/
theorem best_reached {xs : List Int} (hne : xs ≠ []) (h0 : ∀ x ∈ xs, 0 ≤ x) (k : Int) : xs.length / 2 + 1 ≤ cntGe xs k ↔ k ≤ bestR xs xs := by
  obtain ⟨d, hp, hs⟩ := sorted_ex xs
  have hlen := hp.length_eq
  have hpos : 0 < xs.length := List.length_pos_iff.2 hne
  have hlt : xs.length - (xs.length / 2 + 1) < d.length := by omega
  have hr := List.getElem?_eq_getElem hlt
  rw [best_of_sorted hp hs h0 hr, ← sorted_reach hs hr k, cntGe_perm k hp]
  constructor <;> intro h <;> omega
theorem bestR_range {xs : List Int} (hne : xs ≠ []) (h0 : ∀ x ∈ xs, 0 ≤ x) : bestR xs xs ∈ xs := by
  obtain ⟨d, hp, hs⟩ := sorted_ex xs
  have hlen := hp.length_eq
  have hpos : 0 < xs.length := List.length_pos_iff.2 hne
  have hlt : xs.length - (xs.length / 2 + 1) < d.length := by omega
  have hr := List.getElem?_eq_getElem hlt
  rw [best_of_sorted hp hs h0 hr]
  exact hp.mem_iff.1 (List.getElem_mem hlt)
end Go.Proofs.Ytcgccoigjcdjeaa
