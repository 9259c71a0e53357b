/- How the configuration that the statements take is opened. No condition. -/
import Derived.Below
import Derived.Test.YtcgccoigjcdjeaaRows
import Derived.WalkKit
import Derived.ProofKit
import Derived.OpenShut
import Derived.ShutString
import Derived.ChangeOld
import Derived.Deep.Slices
import Derived.Lib.SmallJoins
namespace Go.Proofs.Ytcgccoigjcdjeaa

def cntGe (xs : List Int) (k : Int) : Nat := (xs.filter fun x => decide (k ≤ x)).length
def bestF (xs : List Int) (b k : Int) : Int := if xs.length / 2 + 1 ≤ cntGe xs k then (if b < k then k else b) else b
def bestR (xs p : List Int) : Int := p.foldl (bestF xs) 0
def maxU : Int := 18446744073709551615
def commX (xs : List Int) : Int := if xs = [] then maxU else bestR xs xs

theorem cntGe_perm {a b : List Int} (k : Int) (h : a.Perm b) : cntGe a k = cntGe b k := (h.filter _).length_eq
theorem cntGe_le (a : List Int) (k : Int) : cntGe a k ≤ a.length := List.length_filter_le _ _
theorem cntGe_append (a b : List Int) (k : Int) : cntGe (a ++ b) k = cntGe a k + cntGe b k := by unfold cntGe; rw [List.filter_append, List.length_append]
theorem cntGe_snoc (a : List Int) (x k : Int) : cntGe (a ++ [x]) k = cntGe a k + if k ≤ x then 1 else 0 := by
  rw [cntGe_append]
  unfold cntGe
  by_cases h : k ≤ x <;> simp [h]
theorem cntGe_all {a : List Int} {k : Int} (h : ∀ x ∈ a, k ≤ x) : cntGe a k = a.length := by
  unfold cntGe
  rw [List.filter_eq_self.2 (fun x hx => by simpa using h x hx)]
theorem cntGe_none {a : List Int} {k : Int} (h : ∀ x ∈ a, x < k) : cntGe a k = 0 := by
  unfold cntGe
  rw [List.length_eq_zero_iff, List.filter_eq_nil_iff]
  intro x hx
  have := h x hx
  simpa using this
/-- at place p of a rising list: who reaches k -/
theorem sorted_reach {d : List Int} (hs : d.Pairwise (· ≤ ·)) {p : Nat} {r : Int} (hr : d[p]? = some r) (k : Int) : d.length - p ≤ cntGe d k ↔ k ≤ r := by
  obtain ⟨hp, rfl⟩ := List.getElem?_eq_some_iff.1 hr
  have hpw := List.pairwise_iff_getElem.1 hs
  constructor
  · intro h
    apply Int.not_lt.1
    intro hlt
    have e : d = d.take (p + 1) ++ d.drop (p + 1) := (List.take_append_drop _ _).symm
    have h1 : cntGe (d.take (p + 1)) k = 0 := by
      refine cntGe_none fun x hx => ?_
      obtain ⟨i, hi, rfl⟩ := List.getElem_of_mem hx
      rw [List.getElem_take]
      simp at hi
      by_cases hip : i = p
      · subst hip; exact hlt
      · have := hpw i p (by omega) hp (by omega); omega
    have h2 := cntGe_le (d.drop (p + 1)) k
    rw [e, cntGe_append, h1] at h
    simp at h h2
    omega
  · intro h
    have e : d = d.take p ++ d.drop p := (List.take_append_drop _ _).symm
    have h1 : cntGe (d.drop p) k = (d.drop p).length := by
      refine cntGe_all fun x hx => ?_
      obtain ⟨i, hi, rfl⟩ := List.getElem_of_mem hx
      rw [List.getElem_drop]
      by_cases hip : i = 0
      · subst hip; simpa using h
      · have := hpw p (p + i) hp (by simp at hi; omega) (by omega); omega
    have h2 : cntGe d k = cntGe (d.take p) k + cntGe (d.drop p) k := by rw [← cntGe_append, ← e]
    rw [h2, h1]
    simp
theorem best_le (xs : List Int) (r : Int) : ∀ (p : List Int) (b : Int), b ≤ r → (∀ k ∈ p, xs.length / 2 + 1 ≤ cntGe xs k → k ≤ r) → p.foldl (bestF xs) b ≤ r := by
  intro p
  induction p with
  | nil => intro b hb _; exact hb
  | cons x p ih =>
    intro b hb h
    rw [List.foldl_cons]
    refine ih _ ?_ (fun k hk => h k (.tail _ hk))
    unfold bestF
    have := h x (.head _)
    split
    · rename_i hq
      have := this hq
      split <;> omega
    · exact hb
theorem best_ge (xs : List Int) : ∀ (p : List Int) (b : Int), b ≤ p.foldl (bestF xs) b := by
  intro p
  induction p with
  | nil => intro b; exact Int.le_refl _
  | cons x p ih =>
    intro b
    rw [List.foldl_cons]
    refine Int.le_trans ?_ (ih _)
    unfold bestF
    split
    · split <;> omega
    · exact Int.le_refl _
theorem best_reach (xs : List Int) (r : Int) (hq : xs.length / 2 + 1 ≤ cntGe xs r) : ∀ (p : List Int) (b : Int), r ∈ p → r ≤ p.foldl (bestF xs) b := by
  intro p
  induction p with
  | nil => intro b h; cases h
  | cons x p ih =>
    intro b h
    rw [List.foldl_cons]
    rcases List.mem_cons.1 h with rfl | h
    · refine Int.le_trans ?_ (best_ge xs p _)
      unfold bestF
      rw [if_pos hq]
      split <;> omega
    · exact ih _ h
theorem best_snoc (xs p : List Int) (k : Int) : bestR xs (p ++ [k]) = bestF xs (bestR xs p) k := by unfold bestR; rw [List.foldl_append]; rfl
theorem best_of_sorted {xs d : List Int} (hp : d.Perm xs) (hs : d.Pairwise (· ≤ ·)) (h0 : ∀ x ∈ xs, 0 ≤ x) {r : Int} (hr : d[xs.length - (xs.length / 2 + 1)]? = some r) : bestR xs xs = r := by
  have hlen := hp.length_eq
  have hlt := (List.getElem?_eq_some_iff.1 hr).1
  have hm : r ∈ xs := hp.mem_iff.1 (List.mem_of_getElem? hr)
  have hq : ∀ k, xs.length / 2 + 1 ≤ cntGe xs k ↔ k ≤ r := fun k => by
    rw [← sorted_reach hs hr k, cntGe_perm k hp]
    constructor <;> intro h <;> omega
  apply Int.le_antisymm
  · exact best_le xs r xs 0 (h0 r hm) (fun k _ h => (hq k).1 h)
  · exact best_reach xs r ((hq r).2 (Int.le_refl _)) xs 0 hm
/-- every list has a rising order -/
theorem sorted_ex (xs : List Int) : ∃ d : List Int, d.Perm xs ∧ d.Pairwise (· ≤ ·) := by
  refine ⟨xs.mergeSort (fun a b => decide (a ≤ b)), List.mergeSort_perm _ _, ?_⟩
  have h := List.pairwise_mergeSort (le := fun a b : Int => decide (a ≤ b)) (fun a b c h1 h2 => by simp at *; omega) (fun a b => by simp; omega) xs
  exact h.imp (fun h => by simpa using h)
/-- the greatest index that a majority reaches: reached just up to it -/
theorem best_reached {xs : List Int} (hne : xs ≠ []) (h0 : ∀ x ∈ xs, 0 ≤ x) (k : Int) : xs.length / 2 + 1 ≤ cntGe xs k ↔ k ≤ bestR xs xs := by
  obtain ⟨d, hp, hs⟩ := sorted_ex xs
  have hlen := hp.length_eq
  have hpos : 0 < xs.length := List.length_pos_iff.2 hne
  have hlt : xs.length - (xs.length / 2 + 1) < d.length := by omega
  have hr := List.getElem?_eq_getElem hlt
  rw [best_of_sorted hp hs h0 hr, ← sorted_reach hs hr k, cntGe_perm k hp]
  constructor <;> intro h <;> omega
theorem bestR_range {xs : List Int} (hne : xs ≠ []) (h0 : ∀ x ∈ xs, 0 ≤ x) : bestR xs xs ∈ xs := by
  obtain ⟨d, hp, hs⟩ := sorted_ex xs
  have hlen := hp.length_eq
  have hpos : 0 < xs.length := List.length_pos_iff.2 hne
  have hlt : xs.length - (xs.length / 2 + 1) < d.length := by omega
  have hr := List.getElem?_eq_getElem hlt
  rw [best_of_sorted hp hs h0 hr]
  exact hp.mem_iff.1 (List.getElem_mem hlt)
end Go.Proofs.Ytcgccoigjcdjeaa
namespace Go.Proofs.Ytcgccoigjcdjeaa
open Go.ChangeShapes Go.WideShapes Go.ChangeAt Go.RowKit

theorem own : ownKnob Try.prog.godebug = none := by kernel_rfl
theorem laidOut : laidOutB Try.prog = true := by kernel_rfl
theorem cells28 : Try.prog.cellsOf 28 = 1 := by kernel_rfl
theorem cells22 : Try.prog.cellsOf 22 = 1 := by kernel_rfl
theorem cells23 : Try.prog.cellsOf 23 = 2 := by kernel_rfl
theorem cells33 : Try.prog.cellsOf 33 = 2 := by kernel_rfl
theorem cells41 : Try.prog.cellsOf 41 = 2 := by kernel_rfl
theorem cells53 : Try.prog.cellsOf 53 = 2 := by kernel_rfl
theorem cells44 : Try.prog.cellsOf 44 = 5 := by kernel_rfl
theorem cells3 : Try.prog.cellsOf 3 = 1 := by kernel_rfl
theorem cells4 : Try.prog.cellsOf 4 = 1 := by kernel_rfl

section
variable {H : Type} {enc : TypeId × Value → H} {w : World} {base : Nat} {spare : Nat → Bool} {held : Bool}
theorem addr_head {a : Addr} {v : Value} (h : w.cell? (a.add 0) = some v) : ∃ b off, a = ⟨b, off, none⟩ := by
  obtain ⟨b, off, spot⟩ := a
  have e : (⟨b, off, spot⟩ : Addr).add 0 = ⟨b, off, spot⟩ := by unfold Addr.add; simp
  rw [e] at h
  have hs := World.cell?_spot h
  simp only at hs
  subst hs
  exact ⟨b, off, rfl⟩
theorem addr_at (b off i : Nat) : (⟨b, off, none⟩ : Addr).add i = ⟨b, off + i, none⟩ := by unfold Addr.add; split <;> simp_all

/-- what is told of a slice of numbers that came in -/
structure UsIn (w : World) (v : Value) (l : List Int) : Prop where
  us : ∃ ao cap, v = .slice ao l.length cap ∧ ∀ i (hi : i < l.length), ∃ b off, ao = some ⟨b, off, none⟩ ∧ w.cell? ⟨b, off + i, none⟩ = some (.int .u64 (l[i]'hi))
  nil : ∀ cap, v = .slice none 0 cap → cap = 0
  cap : ∀ ao n cap, v = .slice ao n cap → n ≤ cap
  len : l.length ≤ maxLen
  wf : ∀ x ∈ l, (Lit.int .u64 x).wf = true
theorem us_in {fuel : Nat} {cs : List Value} {x : DataW H × List MemPlace} (h : DataW.trod enc Try.prog w base spare held fuel 22 cs = some x) : ∃ v l, cs = [v] ∧ UsIn w v l := by
  rcases open_ints Try.underlying22 Try.underlying28 cells28 h with ⟨rfl, _⟩ | ⟨a, len, cap, zs, rfl, _, hl, hm, hz, _, hcell, hwz⟩
  · exact ⟨_, [], rfl, ⟨none, 0, rfl, fun i hi => by simp at hi⟩, (fun cap h => by cases h; rfl), (fun ao n cap h => by cases h; exact Nat.le_refl _), Nat.zero_le _, by simp⟩
  · have hzl : len ≤ zs.length := by rw [hz]; split <;> omega
    have hlt : (zs.take len).length = len := by simp; omega
    refine ⟨_, zs.take len, rfl, ⟨some a, cap, by rw [hlt], fun i hi => ?_⟩, (fun cap h => by cases h), (fun ao n cap h => by cases h; exact hl), by omega, fun x hx => hwz x (List.mem_of_mem_take hx)⟩
    have hi' : i < zs.length := by omega
    obtain ⟨b, off, rfl⟩ := addr_head (hcell 0 (by omega))
    refine ⟨b, off, rfl, ?_⟩
    have hc := hcell i hi'
    rw [addr_at] at hc
    rw [hc, List.getElem_take]
    simp [List.getD, List.getElem?_eq_getElem hi']
theorem trod_array2 {t e : TypeId} {fuel : Nat} {c0 c1 : Value} {x : DataW H × List MemPlace} (ht : Try.prog.underlying t = some (.array 2 e)) (hce : Try.prog.cellsOf e = 1)
    (h : DataW.trod enc Try.prog w base spare held fuel t [c0, c1] = some x) :
    ∃ y0 y1 n, DataW.trod enc Try.prog w base spare held n e [c0] = some y0 ∧ DataW.trod enc Try.prog w base spare held n e [c1] = some y1 := by
  obtain ⟨xs, m, _, _, hl, hn, hf⟩ := DataW.trod_array ht h
  have h0 := hf 0 (by omega)
  have h1 := hf 1 (by omega)
  rw [hce] at h0 h1
  simp only [Nat.zero_mul, List.drop_zero, Nat.one_mul, List.drop_succ_cons, List.take_succ_cons, List.take_zero] at h0 h1
  rw [List.getElem?_eq_getElem (by omega)] at h0 h1
  exact ⟨_, _, m, h0, h1⟩
theorem okWide_array {P : Program} {r : Reach} {b0 n : Nat} {t e : TypeId} {v : Value} (ht : P.underlying t = some (.array n e)) (h : Value.okWide P w r b0 t v) : ∃ cs, v = .agg cs ∧ cs.size = P.cellsOf t := by
  simp only [Value.okWide, ht] at h
  obtain ⟨cs, h1, h2, _⟩ := h
  exact ⟨cs, h1, h2⟩
theorem arr2 {cs : Array Value} (h : cs.size = 2) : ∃ c0 c1, cs = #[c0, c1] := by
  refine ⟨cs[0], cs[1], ?_⟩
  apply Array.ext
  · simp [h]
  · intro i h1 h2
    have : i = 0 ∨ i = 1 := by omega
    rcases this with rfl | rfl <;> rfl
set_option maxRecDepth 100000 in
/-- an array of two slices of numbers -/
theorem pair_in {r : Reach} {b0 : Nat} {v : Value} {d : DataW H} {p : List MemPlace} (hv : Value.okWide Try.prog w r b0 23 v) (h : DataW.Trod enc Try.prog w base spare held 23 v d p) :
    ∃ a b l0 l1, v = .agg #[a, b] ∧ UsIn w a l0 ∧ UsIn w b l1 := by
  obtain ⟨cs, rfl, hsz⟩ := okWide_array Try.underlying23 hv
  obtain ⟨c0, c1, rfl⟩ := arr2 (hsz.trans cells23)
  obtain ⟨fuel, hf⟩ := h
  obtain ⟨y0, y1, n, h0, h1⟩ := trod_array2 (c0 := c0) (c1 := c1) Try.underlying23 cells22 hf
  obtain ⟨a, l0, e0, u0⟩ := us_in h0
  obtain ⟨b, l1, e1, u1⟩ := us_in h1
  cases e0; cases e1
  exact ⟨_, _, l0, l1, rfl, u0, u1⟩
/-- what is told of a slice of pairs that came in -/
structure PairsIn {α : Type} (f g : α → Value) (Q : α → Prop) (w : World) (v : Value) (B : List α) : Prop where
  cells : ∃ ao cap, v = .slice ao B.length cap ∧ ∀ i (hi : i < B.length), ∃ b off, ao = some ⟨b, off, none⟩ ∧ w.cell? ⟨b, off + i * 2, none⟩ = some (f (B[i]'hi)) ∧ w.cell? ⟨b, off + i * 2 + 1, none⟩ = some (g (B[i]'hi))
  nil : ∀ cap, v = .slice none 0 cap → cap = 0
  cap : ∀ ao n cap, v = .slice ao n cap → n ≤ cap
  len : B.length ≤ maxLen
  ok : ∀ x ∈ B, Q x
open Go.Deep in
theorem pairs_in {α : Type} [Inhabited α] {f g : α → Value} {Q : α → Prop} {t e : TypeId} (ht : Try.prog.underlying t = some (.slice e)) (hc : Try.prog.cellsOf e = 2)
    (hdec : ∀ n cs y, DataW.trod enc Try.prog w base spare held n e cs = some y → ∃ x, cs = [f x, g x] ∧ Q x)
    {fuel : Nat} {cs : List Value} {x : DataW H × List MemPlace} (h : DataW.trod enc Try.prog w base spare held fuel t cs = some x) : ∃ v B, cs = [v] ∧ PairsIn f g Q w v B := by
  rcases open_slice ht h with ⟨rfl, _⟩ | ⟨a, len, cap, m, n, D, Pl, rfl, _, hl, hm, hmm, _, hx⟩
  · exact ⟨_, [], rfl, ⟨none, 0, rfl, fun i hi => by simp at hi⟩, (fun cap h => by cases h; rfl), (fun ao n cap h => by cases h; exact Nat.le_refl _), Nat.zero_le _, by simp⟩
  · have hlm : len ≤ m := by rw [hmm]; split <;> omega
    have hx1 : ∀ i, i < len → ∃ x : α, (w.cell? (a.add (i * 2)) = some (f x) ∧ w.cell? (a.add (i * 2 + 1)) = some (g x)) ∧ Q x := by
      intro i hi
      obtain ⟨cs', h1, h2⟩ := hx i (by omega)
      obtain ⟨x, rfl, hq⟩ := hdec _ _ _ h2
      rw [hc] at h1
      obtain ⟨_, _, h3⟩ := World.cells?_some h1
      have c0 := h3 0 (by omega)
      have c1 := h3 1 (by omega)
      rw [add_add] at c0 c1
      exact ⟨x, ⟨by simpa using c0, by simpa using c1⟩, hq⟩
    obtain ⟨F, hF⟩ := choose_lt hx1
    have hlen : ((List.range len).map F).length = len := by simp
    refine ⟨_, (List.range len).map F, rfl, ⟨some a, cap, by rw [hlen], fun i hi => ?_⟩, (fun cap h => by cases h), (fun ao n cap h => by cases h; exact hl), by omega, fun x hx => ?_⟩
    · have hi' : i < len := by omega
      obtain ⟨b, off, rfl⟩ := addr_head (by simpa using (hF 0 (by omega)).1.1 : w.cell? (a.add 0) = some (f (F 0)))
      obtain ⟨⟨c0, c1⟩, _⟩ := hF i hi'
      rw [addr_at] at c0 c1
      refine ⟨b, off, rfl, ?_, ?_⟩
      · simpa using c0
      · rw [Nat.add_assoc]; simpa using c1
    · obtain ⟨i, hi, rfl⟩ := List.mem_map.1 hx
      exact (hF i (by simpa using hi)).2
theorem take1 (c d : Value) : (([c, d] : List Value).drop 0).take 1 = [c] ∧ (([c, d] : List Value).drop 1).take 1 = [d] := ⟨rfl, rfl⟩
theorem split2 {cs : List Value} (h : cs.length = 2) : ∃ c d, cs = [c, d] := by
  match cs, h with
  | [c, d], _ => exact ⟨c, d, rfl⟩
set_option maxRecDepth 100000 in
theorem dec41 (n : Nat) (cs : List Value) (y : DataW H × List MemPlace) (h : DataW.trod enc Try.prog w base spare held n 41 cs = some y) : ∃ x : Int × Bool, cs = [.int .u64 x.1, .bool x.2] ∧ (Lit.int .u64 x.1).wf = true := by
  obtain ⟨y0, y1, n', _, hl, h0, h1⟩ := trod_struct2 Try.underlying41 h
  rw [cells41] at hl
  obtain ⟨c, d, rfl⟩ := split2 hl
  simp only [cells28, cells4] at h0 h1
  rw [(take1 c d).1] at h0
  rw [(take1 c d).2] at h1
  obtain ⟨k, e0, _, hw⟩ := DataW.trod_int Try.underlying28 h0
  obtain ⟨b, e1, _⟩ := DataW.trod_bool Try.underlying4 h1
  cases e0; cases e1
  exact ⟨(k, b), rfl, hw⟩
set_option maxRecDepth 100000 in
theorem dec33 (n : Nat) (cs : List Value) (y : DataW H × List MemPlace) (h : DataW.trod enc Try.prog w base spare held n 33 cs = some y) : ∃ x : Int × Int, cs = [.int .u64 x.1, .int .u64 x.2] ∧ ((Lit.int .u64 x.1).wf = true ∧ (Lit.int .u64 x.2).wf = true) := by
  obtain ⟨y0, y1, n', _, hl, h0, h1⟩ := trod_struct2 Try.underlying33 h
  rw [cells33] at hl
  obtain ⟨c, d, rfl⟩ := split2 hl
  simp only [cells28] at h0 h1
  rw [(take1 c d).1] at h0
  rw [(take1 c d).2] at h1
  obtain ⟨k, e0, _, hw⟩ := DataW.trod_int Try.underlying28 h0
  obtain ⟨b, e1, _, hw1⟩ := DataW.trod_int Try.underlying28 h1
  cases e0; cases e1
  exact ⟨(k, b), rfl, hw, hw1⟩
set_option maxRecDepth 100000 in
theorem dec53 (n : Nat) (cs : List Value) (y : DataW H × List MemPlace) (h : DataW.trod enc Try.prog w base spare held n 53 cs = some y) : ∃ x : Int × Int, cs = [.int .i64 x.1, .int .u64 x.2] ∧ ((Lit.int .i64 x.1).wf = true ∧ (Lit.int .u64 x.2).wf = true) := by
  obtain ⟨y0, y1, n', _, hl, h0, h1⟩ := trod_struct2 Try.underlying53 h
  rw [cells53] at hl
  obtain ⟨c, d, rfl⟩ := split2 hl
  simp only [cells28, cells3] at h0 h1
  rw [(take1 c d).1] at h0
  rw [(take1 c d).2] at h1
  obtain ⟨k, e0, _, hw⟩ := DataW.trod_int Try.underlying3 h0
  obtain ⟨b, e1, _, hw1⟩ := DataW.trod_int Try.underlying28 h1
  cases e0; cases e1
  exact ⟨(k, b), rfl, hw, hw1⟩
theorem wf_u64 {n : Int} (h : (Lit.int .u64 n).wf = true) : 0 ≤ n ∧ n < 18446744073709551616 := by
  simp [Lit.wf, IntKind.min, IntKind.max, IntKind.signed, IntKind.bits] at h
  omega
end
end Go.Proofs.Ytcgccoigjcdjeaa
namespace Go.Proofs.Ytcgccoigjcdjeaa
open Go.ChangeShapes Go.WideShapes Go.ChangeAt Go.RowKit

section
variable {H : Type} {enc : TypeId × Value → H} {w : World} {base : Nat} {spare : Nat → Bool} {held : Bool}
theorem arr5 {cs : Array Value} (h : cs.size = 5) : ∃ c0 c1 c2 c3 c4, cs = #[c0, c1, c2, c3, c4] := by
  obtain ⟨l⟩ := cs
  match l, h with
  | [c0, c1, c2, c3, c4], _ => exact ⟨c0, c1, c2, c3, c4, rfl⟩
theorem cut5 (a b c d e : Value) : (([a, b, c, d, e] : List Value).drop 0).take 2 = [a, b] ∧ (([a, b, c, d, e] : List Value).drop 2).take 1 = [c] ∧ (([a, b, c, d, e] : List Value).drop 3).take 1 = [d] ∧ (([a, b, c, d, e] : List Value).drop 4).take 1 = [e] := ⟨rfl, rfl, rfl, rfl⟩
/-- what is told of a configuration that came in -/
structure ConfIn (w : World) (v : Value) (V VO L N : List Int) (al : Bool) : Prop where
  ex : ∃ a b c d, v = .agg #[a, b, c, d, .bool al] ∧ UsIn w a V ∧ UsIn w b VO ∧ UsIn w c L ∧ UsIn w d N
set_option maxRecDepth 100000 in
theorem conf_in {r : Reach} {b0 : Nat} {v : Value} {d : DataW H} {p : List MemPlace} (hv : Value.okWide Try.prog w r b0 44 v) (h : DataW.Trod enc Try.prog w base spare held 44 v d p) :
    ∃ V VO L N al, ConfIn w v V VO L N al := by
  obtain ⟨cs, rfl, hsz⟩ := okWide_struct Try.underlying44 hv
  obtain ⟨c0, c1, c2, c3, c4, rfl⟩ := arr5 (hsz.trans cells44)
  obtain ⟨fuel, hf⟩ := h
  obtain ⟨y0, y1, y2, y3, n, _, _, h0, h1, h2, h3⟩ := Go.Joins.trod_struct4 Try.underlying44 hf
  simp only [cells23, cells22, cells4, Value.cells] at h0 h1 h2 h3
  rw [(cut5 c0 c1 c2 c3 c4).1] at h0
  rw [(cut5 c0 c1 c2 c3 c4).2.1] at h1
  rw [(cut5 c0 c1 c2 c3 c4).2.2.1] at h2
  rw [(cut5 c0 c1 c2 c3 c4).2.2.2] at h3
  obtain ⟨z0, z1, m, g0, g1⟩ := trod_array2 (c0 := c0) (c1 := c1) Try.underlying23 cells22 h0
  obtain ⟨a, V, e0, u0⟩ := us_in g0
  obtain ⟨b, VO, e1, u1⟩ := us_in g1
  obtain ⟨c, L, e2, u2⟩ := us_in h1
  obtain ⟨d', N, e3, u3⟩ := us_in h2
  obtain ⟨al, e4, _⟩ := DataW.trod_bool Try.underlying4 h3
  cases e0; cases e1; cases e2; cases e3; cases e4
  exact ⟨V, VO, L, N, al, ⟨_, _, _, _, rfl, u0, u1, u2, u3⟩⟩
end
end Go.Proofs.Ytcgccoigjcdjeaa
