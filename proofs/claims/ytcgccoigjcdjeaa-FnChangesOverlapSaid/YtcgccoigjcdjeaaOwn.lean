/- Slices that the call made, slices of numbers that are read; append of one element. No condition. -/
import Derived.Test.YtcgccoigjcdjeaaConfP
namespace Go.Proofs.Ytcgccoigjcdjeaa
open Go.RowKit

structure ST (t e : TypeId) (z : Value) : Prop where
  ex : ∃ i : TypeInfo, Try.prog.underlying t = some (.slice e) ∧ Try.prog.info? e = some i ∧ i.zero = some z ∧ i.size = 1 ∧ i.bytes = 8 ∧ z.cells.size = 1
theorem st_of {t e : TypeId} {z : Value} (ht : Try.prog.underlying t = some (.slice e)) (h : (Try.prog.info? e).map (fun i => (i.zero, i.size, i.bytes)) = some (some z, 1, 8)) (hz : z.cells.size = 1) : ST t e z := by
  cases hi : Try.prog.info? e with
  | none => rw [hi] at h; cases h
  | some i =>
    rw [hi] at h
    simp only [Option.map_some, Option.some.injEq, Prod.mk.injEq] at h
    exact ⟨i, ht, hi, h.1, h.2.1, h.2.2, hz⟩
theorem st100 : ST 100 101 (.pointer none) := st_of (by kernel_rfl) (by kernel_rfl) rfl
theorem st22 : ST 22 28 (.int .u64 0) := st_of (by kernel_rfl) (by kernel_rfl) rfl
theorem st125 : ST 125 126 .nilFunc := st_of (by kernel_rfl) (by kernel_rfl) rfl
theorem Chg.ofGrown {w w' : World} {r : Option Nat} (h : w.grownBy w' r) : Chg w w' (fun i => r = some i) :=
  ⟨h.os, h.tape, h.output, h.size, fun k hk hS => h.block k hk (fun e => hS e.symm)⟩

section
variable {w : World} {ops : Array Oper} {rest : List Oper} {o : Oper} {a : Act} {Q : Exit → Act → World → Prop} {t e : TypeId} {z : Value}
/-- 's = append(s, u)' -/
theorem op_append1 (hg : o.guard = none) (s x : Operand) (hop : o.op = Op.call { callee := Callee.builtin Builtin.append, args := #[s, x], argTypes := #[t, t] }) (T : ST t e z) (base n : Nat) (v : Value) (xs : List Value) (hs : a.eval s = v) (hown : w.ownsRow base e 1 v n xs)
    (nb : Nat) (u : Value) (hx : a.eval x = .slice (some ⟨nb, 0, none⟩) 1 1) (hc : w.cell? ⟨nb, 0, none⟩ = some u) (h1 : u.oneCell' = true) (hn : n ≤ 1000000) (hbase : base ≤ w.heap.size)
    (hK : ∀ v' w', w'.ownsRow base e 1 v' (n + 1) (xs ++ [u]) → Chg w w' (fun i => v.ownBlock = some i) → wpList Try.prog ops Q rest (a.put o.dst v') w') : wpList Try.prog ops Q (o :: rest) a w := by
  obtain ⟨i, h1', h2, h3, h4, h5, h6⟩ := T.ex
  refine wpList_append_own w hg s x t hop base e i z 1 8 h1' h2 h3 h4 h5 h6 (by decide) v n xs hs hown ⟨nb, 0, none⟩ 1 1 [u] hx rfl ?_ (fun u' hu => by simp at hu; subst hu; exact h1) (by unfold maxLen; omega) (by omega) hbase (fun v' w' r1 r2 _ => hK v' w' r1 (Chg.ofGrown r2))
  intro j u' hu
  cases j with
  | zero => simp at hu; subst hu; simpa [Addr.add] using hc
  | succ j => simp at hu
end

theorem ownsRow_chg {w w' : World} {S : Nat → Prop} {base e size : Nat} {v : Value} {n : Nat} {xs : List Value} (h : w.ownsRow base e size v n xs) (c : Chg w w' S) (hS : ∀ i, v.ownBlock = some i → ¬ S i) : w'.ownsRow base e size v n xs := by
  refine ⟨h.1, ?_⟩
  rcases h.2 with hn | ⟨g, cap, cur, rfl, hb, hgg, rest⟩
  · exact .inl hn
  · exact .inr ⟨g, cap, cur, rfl, hb, c.keeps hgg (hS g rfl), rest⟩
theorem ownsRow_base {w : World} {base base' e size : Nat} {v : Value} {n : Nat} {xs : List Value} (h : w.ownsRow base e size v n xs) (hb : base' ≤ base) : w.ownsRow base' e size v n xs := by
  refine ⟨h.1, ?_⟩
  rcases h.2 with hn | ⟨g, cap, cur, rfl, hb', rest⟩
  · exact .inl hn
  · exact .inr ⟨g, cap, cur, rfl, Nat.le_trans hb hb', rest⟩
theorem ownsRow_cell {w : World} {base e : Nat} {v : Value} {n : Nat} {xs : List Value} (h : w.ownsRow base e 1 v n xs) {i : Nat} (hi : i < n) : ∃ g cap, v = .slice (some ⟨g, 0, none⟩) n cap ∧ base ≤ g ∧ g < w.heap.size ∧ ∃ u, xs[i]? = some u ∧ w.cell? ⟨g, i, none⟩ = some u := by
  have hl := h.1
  rcases h.2 with ⟨_, hn⟩ | ⟨g, cap, cur, rfl, hb, hgg, h1, h2, h3, h4⟩
  · omega
  · have hlt : i < xs.length := by omega
    refine ⟨g, cap, rfl, hb, lt_of_block hgg, xs[i], List.getElem?_eq_getElem hlt, ?_⟩
    have := h.cells (g := g) rfl i xs[i] (List.getElem?_eq_getElem hlt)
    have e : (⟨g, 0, none⟩ : Addr).add i = ⟨g, i, none⟩ := by unfold Addr.add; split <;> simp_all
    rwa [e] at this

/-- a slice of numbers that is read -/
def Us (w : World) (v : Value) (l : List Int) : Prop :=
  ∃ ao cap, v = .slice ao l.length cap ∧ ∀ i (hi : i < l.length), ∃ b off, ao = some ⟨b, off, none⟩ ∧ w.cell? ⟨b, off + i, none⟩ = some (.int .u64 (l[i]'hi))
theorem Us.chg {w w' : World} {S : Nat → Prop} {v : Value} {l : List Int} (h : Us w v l) (c : Chg w w' S) (hS : ∀ i, i < w.heap.size → v.ownBlock = some i → ¬ S i) : Us w' v l := by
  obtain ⟨ao, cap, rfl, h⟩ := h
  refine ⟨ao, cap, rfl, fun i hi => ?_⟩
  obtain ⟨b, off, rfl, hc⟩ := h i hi
  have hlt := World.block_lt_of_cell? w _ hc
  exact ⟨b, off, rfl, (c.cell hlt (hS b hlt rfl)).trans hc⟩
theorem Us.new {w w' : World} {v : Value} {l : List Int} (h : Us w v l) (c : New w w') : Us w' v l := h.chg c (by simp)

/-- changes that the call made, as pointers -/
def Cr (w : World) (base : Nat) (v : Value) (l : List (Int × Int)) : Prop :=
  ∃ ps : List Nat, ps.length = l.length ∧ w.ownsRow base 101 1 v l.length (ps.map fun p => .pointer (some ⟨p, 0, none⟩)) ∧
    ∀ (i p : Nat) (x : Int × Int), ps[i]? = some p → l[i]? = some x → base ≤ p ∧ w.heap[p]? = some (.cells #[.int .i32 x.1, .int .u64 x.2] 104 (0, 0))
theorem Cr.nil (w : World) (base : Nat) : Cr w base (.slice none 0 0) [] := ⟨[], rfl, World.ownsRow_nil _ _ _ _, by simp⟩
theorem Cr.chg {w w' : World} {S : Nat → Prop} {base : Nat} {v : Value} {l : List (Int × Int)} (h : Cr w base v l) (c : Chg w w' S) (hS : ∀ i, base ≤ i → i < w.heap.size → ¬ S i) : Cr w' base v l := by
  obtain ⟨ps, h1, h2, h3⟩ := h
  exact ⟨ps, h1, ownsRow_chg h2 c (fun i hi => by have := h2.lt i hi; exact hS i this.1 this.2), fun i p x hp hx => by have := h3 i p x hp hx; exact ⟨this.1, c.keeps this.2 (hS p this.1 (lt_of_block this.2))⟩⟩
theorem Cr.new {w w' : World} {base : Nat} {v : Value} {l : List (Int × Int)} (h : Cr w base v l) (c : New w w') : Cr w' base v l := h.chg c (by simp)
theorem Cr.base {w : World} {base base' : Nat} {v : Value} {l : List (Int × Int)} (h : Cr w base v l) (hb : base' ≤ base) : Cr w base' v l := by
  obtain ⟨ps, h1, h2, h3⟩ := h
  exact ⟨ps, h1, ownsRow_base h2 hb, fun i p x hp hx => ⟨Nat.le_trans hb (h3 i p x hp hx).1, (h3 i p x hp hx).2⟩⟩
theorem Cr.push {w w' : World} {base : Nat} {v v' : Value} {l : List (Int × Int)} {ps : List Nat} (h1 : ps.length = l.length) (h2 : w.ownsRow base 101 1 v l.length (ps.map fun p => .pointer (some ⟨p, 0, none⟩)))
    (h3 : ∀ (i p : Nat) (x : Int × Int), ps[i]? = some p → l[i]? = some x → base ≤ p ∧ w.heap[p]? = some (.cells #[.int .i32 x.1, .int .u64 x.2] 104 (0, 0))) {nb : Nat} {x : Int × Int} (hb : base ≤ nb) (hnb : w.heap[nb]? = some (.cells #[.int .i32 x.1, .int .u64 x.2] 104 (0, 0)))
    (hown : w'.ownsRow base 101 1 v' (l.length + 1) ((ps.map fun p => .pointer (some ⟨p, 0, none⟩)) ++ [.pointer (some ⟨nb, 0, none⟩)])) (c : Chg w w' (fun i => v.ownBlock = some i)) : Cr w' base v' (l ++ [x]) := by
  have hne : ∀ p cs, w.heap[p]? = some (.cells cs 104 (0, 0)) → v.ownBlock ≠ some p := by
    intro p cs hp e
    rcases h2.2 with ⟨rfl, _⟩ | ⟨g, cap, cur, rfl, _, hgg, _⟩
    · simp [Value.ownBlock] at e
    · simp [Value.ownBlock] at e; subst e; rw [hgg] at hp; cases hp
  refine ⟨ps ++ [nb], by simp [h1], by simpa using hown, fun i p y hp hy => ?_⟩
  by_cases hi : i < ps.length
  · rw [List.getElem?_append_left hi] at hp
    rw [List.getElem?_append_left (by omega)] at hy
    have := h3 i p y hp hy
    exact ⟨this.1, c.keeps this.2 (hne p _ this.2)⟩
  · have e : i = ps.length := by
      have : i < (ps ++ [nb]).length := (List.getElem?_eq_some_iff.1 hp).1
      simp at this; omega
    subst e
    simp at hp; subst hp
    rw [h1] at hy
    simp at hy; subst hy
    exact ⟨hb, c.keeps hnb (hne _ _ hnb)⟩
theorem Cr.ccs {w : World} {base : Nat} {v : Value} {l : List (Int × Int)} (h : Cr w base v l) : Ccs w (fun i => w.heap.size ≤ i) v l := by
  obtain ⟨ps, h1, h2, h3⟩ := h
  rcases h2.2 with ⟨rfl, hn⟩ | ⟨g, cap, cur, rfl, hb, hgg, _⟩
  · exact ⟨none, 0, by rw [hn], fun i hi => by omega⟩
  · refine ⟨_, cap, rfl, fun i hi => ?_⟩
    have hi' : i < ps.length := by omega
    obtain ⟨g', cap', e1, e2, e3, u, hu, hc⟩ := ownsRow_cell h2 hi
    cases e1
    rw [List.getElem?_map, List.getElem?_eq_getElem hi'] at hu
    simp only [Option.map_some, Option.some.injEq] at hu
    subst hu
    have hp := (h3 i ps[i] l[i] (List.getElem?_eq_getElem hi') (List.getElem?_eq_getElem hi)).2
    have hlt := lt_of_block hp
    exact ⟨g, 0, ps[i], rfl, by omega, by omega, e3, hlt, by simpa using hc, cell_of_block hp rfl, cell_of_block hp rfl⟩
end Go.Proofs.Ytcgccoigjcdjeaa
