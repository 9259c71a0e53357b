/- slices.Clone at numbers. Condition: fewer than a million elements. -/
import Derived.Test.YtcgccoigjcdjeaaConfV
import Derived.Lib.SliceRun
namespace Go.Proofs.Ytcgccoigjcdjeaa
open Go.RowKit Go.Sort

abbrev NilOk (v : Value) : Prop := ∀ cap, v = .slice none 0 cap → cap = 0

@[go_sem] theorem eqnil22 (w : World) (a : Option Addr) (l c : Nat) : (binOp .eql 22 (.slice a l c) (.slice none 0 0)).run Try.prog w = .ok (.bool a.isNone) w := Lib.run_eql_slice_nil w _ _ a l c 0 0 Try.underlying22
section
variable {w : World} {ops : Array Oper} {rest : List Oper} {o : Oper} {a : Act} {Q : Exit → Act → World → Prop} {t e : TypeId} {z : Value}
/-- 's = append(s, news...)' -/
theorem op_appends (hg : o.guard = none) (s x : Operand) (hop : o.op = Op.call { callee := Callee.builtin Builtin.append, args := #[s, x], argTypes := #[t, t] }) (T : ST t e z) (base n : Nat) (v : Value) (xs : List Value) (hs : a.eval s = v) (hown : w.ownsRow base e 1 v n xs)
    (ad : Addr) (m c : Nat) (news : List Value) (hx : a.eval x = .slice (some ad) m c) (hl : news.length = m) (hnews : ∀ (j : Nat) (u : Value), news[j]? = some u → w.cell? (ad.add j) = some u) (h1 : ∀ u ∈ news, u.oneCell' = true) (hn : n + m ≤ 2000000) (hbase : base ≤ w.heap.size)
    (hK : ∀ v' w', w'.ownsRow base e 1 v' (n + m) (xs ++ news) → Chg w w' (fun i => v.ownBlock = some i) → wpList Try.prog ops Q rest (a.put o.dst v') w') : wpList Try.prog ops Q (o :: rest) a w := by
  obtain ⟨i, h1', h2, h3, h4, h5, h6⟩ := T.ex
  exact wpList_append_own w hg s x t hop base e i z 1 8 h1' h2 h3 h4 h5 h6 (by decide) v n xs hs hown ad m c news hx (by simpa using hl) hnews h1 (by unfold maxLen; omega) (by omega) hbase (fun v' w' r1 r2 _ => hK v' w' r1 (Chg.ofGrown r2))
end
theorem us_of_owns {w : World} {base e : Nat} {v : Value} {l : List Int} (h : w.ownsRow base e 1 v l.length (l.map (Value.int .u64))) : Us w v l := by
  rcases row_of_owns h with ⟨rfl, rfl⟩ | ⟨g, cap, rest, rfl, hb, h1, h2, h3, hr⟩
  · exact ⟨none, 0, rfl, fun i hi => by simp at hi⟩
  · refine ⟨_, cap, rfl, fun i hi => ⟨g, 0, rfl, ?_⟩⟩
    have := hr.cell (t := i) (by simpa using hi)
    simpa [hi] using this

set_option maxRecDepth 100000 in
set_option maxHeartbeats 1600000 in
theorem clone22_any (v : Value) (l : List Int) (w : World) (h : Us w v l) (hn : l.length ≤ 1000000) (hnil : ∀ cap, v = .slice none 0 cap → cap = 0) :
    Calls Try.prog 42 #[v] w fun e w' => ∃ v', e = .returned v' ∧ Us w' v' l ∧ New w w' ∧ ∃ ao cap, v' = .slice ao l.length cap := by
  obtain ⟨ao, cap, rfl, h⟩ := h
  cases ao with
  | none =>
    have hl : l = [] := by
      cases l with
      | nil => rfl
      | cons x l => obtain ⟨b, off, e, _⟩ := h 0 (by simp); cases e
    subst hl
    have hc := hnil cap rfl
    subst hc
    clear hnil h
    go_enter Try.func42, Try.ntmps42
    go_wp2_with fail
    go_ret
    exact ⟨_, rfl, ⟨none, 0, rfl, fun i hi => by simp at hi⟩, Chg.refl _ _, none, 0, rfl⟩
  | some ad =>
    have hA : ∃ b off, ad = ⟨b, off, none⟩ ∨ l = [] := by
      cases l with
      | nil => exact ⟨0, 0, .inr rfl⟩
      | cons x l => obtain ⟨b, off, e, _⟩ := h 0 (by simp); cases e; exact ⟨b, off, .inl rfl⟩
    have hcells : ∀ j u, (l.map (Value.int .u64))[j]? = some u → ∀ o, (w.alloc o).cell? (ad.add j) = some u := by
      intro j u hu o
      have hj : j < l.length := by have := (List.getElem?_eq_some_iff.1 hu).1; simpa using this
      obtain ⟨b, off, e, hc⟩ := h j hj
      cases e
      rw [List.getElem?_map, List.getElem?_eq_getElem hj] at hu
      simp only [Option.map_some, Option.some.injEq] at hu
      subst hu
      have e2 : (⟨b, off, none⟩ : Addr).add j = ⟨b, off + j, none⟩ := by unfold Addr.add; split <;> simp_all
      rw [e2]
      exact (Chg.alloc w o (fun _ => False)).has hc
    have HC := Lib.hid hcells; have HN := Lib.hid hn
    clear hcells hn h hnil hA
    go_enter Try.func42, Try.ntmps42
    go_wp2_with (first
      | (at_builtin; refine op_appends rfl (.tmp 5) (.tmp 6) rfl st22 w.heap.size 0 (.slice (some ⟨w.heap.size, 0, none⟩) 0 0) [] rfl (World.ownsRow_made w #[] 0 (Nat.le_refl _) (by decide) rfl) ad l.length cap (l.map (Value.int .u64)) rfl (by simp) (fun j u hu => HC.out j u hu _) (by intro u hu; obtain ⟨x, _, rfl⟩ := List.mem_map.1 hu; rfl) (by have := HN.out; omega) (by simp) ?_; intro v' w1 hown hch)
      | fail)
    go_ret
    rw [Nat.zero_add, List.nil_append] at hown
    have hus := us_of_owns hown
    obtain ⟨ao', cap', he, _⟩ := id hus
    have hb : ∀ x : Nat, Value.ownBlock (.slice (some ⟨w.heap.size, 0, none⟩) 0 0) = some x → x = w.heap.size := fun x e => by simp [Value.ownBlock] at e; exact e.symm
    exact ⟨v', rfl, hus, (Chg.alloc w _ _).trans hch (fun _ _ h => h) (fun i hi e => by have := hb i e; omega), ao', cap', he⟩
end Go.Proofs.Ytcgccoigjcdjeaa
