/- slices.Clone at votes; laws.piVoters. Condition: fewer than a million elements. -/
import Derived.Test.YtcgccoigjcdjeaaQuE
namespace Go.Proofs.Ytcgccoigjcdjeaa
open Go.RowKit Go.Sort

/-- the cells of a list of pairs -/
def pcs {α : Type} (f g : α → Value) (B : List α) : List Value := B.flatMap fun p => [f p, g p]
theorem pcs_length {α : Type} (f g : α → Value) (B : List α) : (pcs f g B).length = B.length * 2 := by
  induction B with
  | nil => rfl
  | cons p B ih => unfold pcs at *; simp only [List.flatMap_cons, List.length_append, List.length_cons, List.length_nil, ih]; omega
theorem pcs_get {α : Type} (f g : α → Value) (B : List α) : ∀ i, (pcs f g B)[i * 2]? = B[i]?.map f ∧ (pcs f g B)[i * 2 + 1]? = B[i]?.map g := by
  induction B with
  | nil => intro i; simp [pcs]
  | cons p B ih =>
    intro i
    have e : pcs f g (p :: B) = f p :: g p :: pcs f g B := by simp [pcs]
    rw [e]
    cases i with
    | zero => simp
    | succ i =>
      have h := ih i
      rw [show (i + 1) * 2 = i * 2 + 1 + 1 by omega]
      simp only [List.getElem?_cons_succ]
      exact h
structure ST2 (t e : TypeId) (z : Value) : Prop where
  ex : ∃ i : TypeInfo, Try.prog.underlying t = some (.slice e) ∧ Try.prog.info? e = some i ∧ i.zero = some z ∧ i.size = 2 ∧ i.bytes = 16 ∧ z.cells.size = 2
theorem st2_of {t e : TypeId} {z : Value} (ht : Try.prog.underlying t = some (.slice e)) (h : (Try.prog.info? e).map (fun i => (i.zero, i.size, i.bytes)) = some (some z, 2, 16)) (hz : z.cells.size = 2) : ST2 t e z := by
  cases hi : Try.prog.info? e with
  | none => rw [hi] at h; cases h
  | some i =>
    rw [hi] at h
    simp only [Option.map_some, Option.some.injEq, Prod.mk.injEq] at h
    exact ⟨i, ht, hi, h.1, h.2.1, h.2.2, hz⟩
theorem st36 : ST2 36 41 (.agg #[.int .u64 0, .bool false]) := st2_of (by kernel_rfl) (by kernel_rfl) rfl
theorem st24 : ST2 24 33 (.agg #[.int .u64 0, .int .u64 0]) := st2_of (by kernel_rfl) (by kernel_rfl) rfl
theorem st45 : ST2 45 53 (.agg #[.int .i64 0, .int .u64 0]) := st2_of (by kernel_rfl) (by kernel_rfl) rfl
section
variable {w : World} {ops : Array Oper} {rest : List Oper} {o : Oper} {a : Act} {Q : Exit → Act → World → Prop} {t e : TypeId} {z : Value}
theorem op_appends2 (hg : o.guard = none) (s x : Operand) (hop : o.op = Op.call { callee := Callee.builtin Builtin.append, args := #[s, x], argTypes := #[t, t] }) (T : ST2 t e z) (base n : Nat) (v : Value) (xs : List Value) (hs : a.eval s = v) (hown : w.ownsRow base e 2 v n xs)
    (ad : Addr) (m c : Nat) (news : List Value) (hx : a.eval x = .slice (some ad) m c) (hl : news.length = m * 2) (hnews : ∀ (j : Nat) (u : Value), news[j]? = some u → w.cell? (ad.add j) = some u) (h1 : ∀ u ∈ news, u.oneCell' = true) (hn : n + m ≤ 2000000) (hbase : base ≤ w.heap.size)
    (hK : ∀ v' w', w'.ownsRow base e 2 v' (n + m) (xs ++ news) → Chg w w' (fun i => v.ownBlock = some i) → wpList Try.prog ops Q rest (a.put o.dst v') w') : wpList Try.prog ops Q (o :: rest) a w := by
  obtain ⟨i, h1', h2, h3, h4, h5, h6⟩ := T.ex
  exact wpList_append_own w hg s x t hop base e i z 2 16 h1' h2 h3 h4 h5 h6 (by decide) v n xs hs hown ad m c news hx hl hnews h1 (by unfold maxLen; omega) (by omega) hbase (fun v' w' r1 r2 _ => hK v' w' r1 (Chg.ofGrown r2))
end
theorem pairs_of_owns {α : Type} {f g : α → Value} {w : World} {base e : Nat} {v : Value} {B : List α} (h : w.ownsRow base e 2 v B.length (pcs f g B)) :
    ∃ ao cap, v = .slice ao B.length cap ∧ ∀ i (hi : i < B.length), ∃ b off, ao = some ⟨b, off, none⟩ ∧ w.cell? ⟨b, off + i * 2, none⟩ = some (f (B[i]'hi)) ∧ w.cell? ⟨b, off + i * 2 + 1, none⟩ = some (g (B[i]'hi)) := by
  rcases h.2 with ⟨rfl, hn⟩ | ⟨gb, cap, cur, rfl, hb, hg, _⟩
  · exact ⟨none, 0, by rw [hn], fun i hi => by omega⟩
  · refine ⟨_, cap, rfl, fun i hi => ⟨gb, 0, rfl, ?_⟩⟩
    have hc := h.cells (g := gb) rfl
    obtain ⟨e1, e2⟩ := pcs_get f g B i
    rw [List.getElem?_eq_getElem hi] at e1 e2
    have c1 := hc _ _ e1
    have c2 := hc _ _ e2
    have ad : ∀ j, (⟨gb, 0, none⟩ : Addr).add j = ⟨gb, j, none⟩ := fun j => by unfold Addr.add; split <;> simp_all
    rw [ad] at c1 c2
    exact ⟨by simpa using c1, by simpa using c2⟩
@[go_sem] theorem eqnil36 (w : World) (a : Option Addr) (l c : Nat) : (binOp .eql 36 (.slice a l c) (.slice none 0 0)).run Try.prog w = .ok (.bool a.isNone) w := Lib.run_eql_slice_nil w _ _ a l c 0 0 Try.underlying36
@[go_sem] theorem eqnil24 (w : World) (a : Option Addr) (l c : Nat) : (binOp .eql 24 (.slice a l c) (.slice none 0 0)).run Try.prog w = .ok (.bool a.isNone) w := Lib.run_eql_slice_nil w _ _ a l c 0 0 Try.underlying24
@[go_sem] theorem eqnil45 (w : World) (a : Option Addr) (l c : Nat) : (binOp .eql 45 (.slice a l c) (.slice none 0 0)).run Try.prog w = .ok (.bool a.isNone) w := Lib.run_eql_slice_nil w _ _ a l c 0 0 Try.underlying45

set_option maxRecDepth 100000 in
set_option maxHeartbeats 1600000 in
theorem clone19_any (v : Value) (B : List (Int × Bool)) (w : World) (h : Bas w v B) (hn : B.length ≤ 1000000) (hnil : NilOk v) :
    Calls Try.prog 19 #[v] w fun e w' => ∃ v', e = .returned v' ∧ Bas w' v' B ∧ New w w' := by
  obtain ⟨ao, cap, rfl, h⟩ := h
  cases ao with
  | none =>
    have hl : B = [] := by
      cases B with
      | nil => rfl
      | cons x l => obtain ⟨b, off, e, _⟩ := h 0 (by simp); cases e
    subst hl
    have hc := hnil cap rfl
    subst hc
    clear hnil h
    go_enter Try.func19, Try.ntmps19
    go_wp2_with fail
    go_ret
    exact ⟨_, rfl, ⟨none, 0, rfl, fun i hi => by simp at hi⟩, Chg.refl _ _⟩
  | some ad =>
    have hcells : ∀ (j : Nat) (u : Value), (pcs (fun p : Int × Bool => Value.int .u64 p.1) (fun p => Value.bool p.2) B)[j]? = some u → ∀ o, (w.alloc o).cell? (ad.add j) = some u := by
      intro j u hu o
      have hj : j < B.length * 2 := by have := (List.getElem?_eq_some_iff.1 hu).1; rwa [pcs_length] at this
      have hi : j / 2 < B.length := by omega
      obtain ⟨b, off, e, h1, h2⟩ := h (j / 2) hi
      cases e
      obtain ⟨e1, e2⟩ := pcs_get (fun p : Int × Bool => Value.int .u64 p.1) (fun p => Value.bool p.2) B (j / 2)
      rw [List.getElem?_eq_getElem hi] at e1 e2
      have e3 : (⟨b, off, none⟩ : Addr).add j = ⟨b, off + j, none⟩ := by unfold Addr.add; split <;> simp_all
      rw [e3]
      rcases Nat.mod_two_eq_zero_or_one j with hm | hm
      · have ej : j / 2 * 2 = j := by omega
        rw [ej] at e1 h1
        rw [e1] at hu; cases hu
        exact (Chg.alloc w o (fun _ => False)).has h1
      · have ej : j / 2 * 2 + 1 = j := by omega
        rw [ej] at e2
        rw [Nat.add_assoc, ej] at h2
        rw [e2] at hu; cases hu
        exact (Chg.alloc w o (fun _ => False)).has h2
    have HC := Lib.hid hcells; have HN := Lib.hid hn
    clear hcells hn h hnil
    go_enter Try.func19, Try.ntmps19
    go_wp2_with (first
      | (at_builtin; refine op_appends2 rfl (.tmp 5) (.tmp 6) rfl st36 w.heap.size 0 (.slice (some ⟨w.heap.size, 0, none⟩) 0 0) [] rfl (World.ownsRow_made w #[] 0 (Nat.le_refl _) (by decide) rfl) ad B.length cap (pcs (fun p : Int × Bool => Value.int .u64 p.1) (fun p => Value.bool p.2) B) rfl (pcs_length _ _ _) (fun j u hu => HC.out j u hu _) (by intro u hu; simp only [pcs, List.mem_flatMap, List.mem_cons, List.not_mem_nil, or_false] at hu; obtain ⟨x, _, rfl | rfl⟩ := hu <;> rfl) (by have := HN.out; omega) (by simp) ?_; intro v' w1 hown hch)
      | fail)
    go_ret
    rw [Nat.zero_add, List.nil_append] at hown
    have hb : ∀ x : Nat, Value.ownBlock (.slice (some ⟨w.heap.size, 0, none⟩) 0 0) = some x → x = w.heap.size := fun x e => by simp [Value.ownBlock] at e; exact e.symm
    exact ⟨v', rfl, pairs_of_owns hown, (Chg.alloc w _ _).trans hch (fun _ _ h => h) (fun i hi e => by have := hb i e; omega)⟩
end Go.Proofs.Ytcgccoigjcdjeaa
