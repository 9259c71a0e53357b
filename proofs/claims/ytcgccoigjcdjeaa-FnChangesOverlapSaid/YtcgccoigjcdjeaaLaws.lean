/- The laws of YtcgccoigjcdjeaaBase at the operations of a walk, and sets of uint64 as Go maps. No condition. -/
import Derived.Test.YtcgccoigjcdjeaaBase
import Derived.Test.YtcgccoigjcdjeaaProg
import Derived.Outline
import Derived.WalkSpells
import Derived.WalkLawsBesides
import Derived.Lib.Hide
import Derived.BigQuiet
import Derived.Deep.QuietTactic
import Derived.Deep.RegionHeld3
import Derived.Deep.RegionWith
import Derived.Deep.DeepFit
import Derived.Deep.DeepCutAuto
import Derived.Handy
namespace Go.Proofs.Ytcgccoigjcdjeaa
open Go.RowKit

/-- t is a map type keyed by uint64 whose elements' zero value is z. -/
structure MT (t : TypeId) (z : Value) : Prop where
  ex : ∃ et, Try.prog.underlying t = some (.map 28 et) ∧ ∀ w : World, (zeroValue et).run Try.prog w = .ok z w

theorem u28 : Try.prog.underlying 28 = some (.int .u64) := Try.underlying28
theorem mt69 : MT 69 (.agg #[]) := ⟨139, Try.underlying69, fun w => by kernel_rfl⟩
theorem mt70 : MT 70 (.agg #[]) := ⟨139, Try.underlying70, fun w => by kernel_rfl⟩
theorem mt67 : MT 67 (.int .u64 0) := ⟨28, Try.underlying67, fun w => by kernel_rfl⟩
theorem mt76 : MT 76 (.bool false) := ⟨4, Try.underlying76, fun w => by kernel_rfl⟩
theorem mt87 : MT 87 (.pointer none) := ⟨146, Try.underlying87, fun w => by kernel_rfl⟩

@[go_sem] theorem cell_alloc_map (w : World) (es : Array MapEntry) (c : Nat) (a : Addr) : (w.alloc (.map es c)).cell? a = w.cell? a := (soft_alloc w (by simp) (fun _ => False)).cell a
@[go_sem] theorem frozen_alloc_map (w : World) (es : Array MapEntry) (c : Nat) (a : Addr) : (w.alloc (.map es c)).frozen? a = w.frozen? a := (soft_alloc w (by simp) (fun _ => False)).frozen a
attribute [go_sem] run_makeMap World.cell?_alloc_some frozen?_alloc_cells
@[go_sem] theorem cell_alloc2 (w : World) (a : Addr) (o1 o2 : Obj) (h : (w.cell? a).isSome = true) : ((w.alloc o1).alloc o2).cell? a = w.cell? a := by
  have h1 : ((w.alloc o1).cell? a).isSome = true := by rw [World.cell?_alloc_some w a o1 h]; exact h
  rw [World.cell?_alloc_some _ a o2 h1, World.cell?_alloc_some w a o1 h]
@[go_sem] theorem cell_alloc3 (w : World) (a : Addr) (o1 o2 o3 : Obj) (h : (w.cell? a).isSome = true) : (((w.alloc o1).alloc o2).alloc o3).cell? a = w.cell? a := by
  have h1 : ((w.alloc o1).cell? a).isSome = true := by rw [World.cell?_alloc_some w a o1 h]; exact h
  rw [cell_alloc2 _ a o2 o3 h1, World.cell?_alloc_some w a o1 h]
@[go_sem] theorem cell_alloc4 (w : World) (a : Addr) (o1 o2 o3 o4 : Obj) (h : (w.cell? a).isSome = true) : ((((w.alloc o1).alloc o2).alloc o3).alloc o4).cell? a = w.cell? a := by
  have h1 : ((w.alloc o1).cell? a).isSome = true := by rw [World.cell?_alloc_some w a o1 h]; exact h
  rw [cell_alloc3 _ a o2 o3 o4 h1, World.cell?_alloc_some w a o1 h]
@[go_sem] theorem make69h (w : World) (q : IntKind) (n : Int) : (Instr.makeMap 69 (some (.int q n))).run Try.prog w = .ok (.map (some w.heap.size)) (w.alloc (.map #[] 0)) := run_makeMap_hint w 69 28 139 Try.underlying69 q n
@[go_sem] theorem eqnil69 (w : World) (r : Option Nat) : (binOp .eql 69 (.map r) (.map none)).run Try.prog w = .ok (.bool r.isNone) w := run_eql_map_nil w _ _ _ r Try.underlying69
@[go_sem] theorem eqnil70 (w : World) (r : Option Nat) : (binOp .eql 70 (.map r) (.map none)).run Try.prog w = .ok (.bool r.isNone) w := run_eql_map_nil w _ _ _ r Try.underlying70
@[go_sem] theorem nenil69 (w : World) (r : Option Nat) : (binOp .neq 69 (.map r) (.map none)).run Try.prog w = .ok (.bool !r.isNone) w := run_neq_map_nil w _ _ _ r Try.underlying69
@[go_sem] theorem nenil70 (w : World) (r : Option Nat) : (binOp .neq 70 (.map r) (.map none)).run Try.prog w = .ok (.bool !r.isNone) w := run_neq_map_nil w _ _ _ r Try.underlying70

theorem cell_of_block {w : World} {b off : Nat} {cs : Array Value} {e : TypeId} {f : Nat × Nat} {v : Value} (h : w.heap[b]? = some (.cells cs e f)) (hv : cs[off]? = some v) : w.cell? ⟨b, off, none⟩ = some v := by
  simp [World.cell?, h, hv]
theorem free_of_block {w : World} {b off : Nat} {cs : Array Value} {e : TypeId} (h : w.heap[b]? = some (.cells cs e (0, 0))) : w.frozen? ⟨b, off, none⟩ = false := by
  simp [World.frozen?, h]
theorem lt_of_block {w : World} {b : Nat} {o : Obj} (h : w.heap[b]? = some o) : b < w.heap.size := (Array.getElem?_eq_some_iff.1 h).1
theorem block_setCell {w : World} {b off : Nat} {cs : Array Value} {e : TypeId} {f : Nat × Nat} (h : w.heap[b]? = some (.cells cs e f)) (v : Value) : (w.setCell ⟨b, off, none⟩ v).heap[b]? = some (.cells (cs.setIfInBounds off v) e f) := by
  simp [World.setCell, Array.getElem?_modify, h]
theorem block_setCell_ne {w : World} {b : Nat} {o : Obj} (h : w.heap[b]? = some o) {a : Addr} (v : Value) (hn : b ≠ a.block) : (w.setCell a v).heap[b]? = some o := by
  rw [Below.heap_setCell _ _ _ _ hn]; exact h
theorem block_alloc {w : World} {b : Nat} {o : Obj} (h : w.heap[b]? = some o) (ob : Obj) : (w.alloc ob).heap[b]? = some o := by
  rw [Below.heap_alloc _ _ _ (lt_of_block h)]; exact h
theorem block_new (w : World) (ob : Obj) : (w.alloc ob).heap[w.heap.size]? = some ob := (MapKept.heap_alloc w ob).1

section
variable {w : World} {ops : Array Oper} {rest : List Oper} {o : Oper} {a : Act} {Q : Exit → Act → World → Prop} {l : List (Int × Value)} {ob : Option Nat} {b r : Nat} {k : Int} {z : Value}

/-- 'v, ok := m[k]' -/
theorem op_lookup_ok (hg : o.guard = none) (m x : Operand) (t : TypeId) (hop : o.op = Op.lookup t m x true) (T : MT t z) (hm : a.eval m = .map ob) (h : MapV w ob l) (hx : a.eval x = .int .u64 k)
    (hK : wpList Try.prog ops Q rest (a.put o.dst (.tuple #[(look l k).getD z, .bool (look l k).isSome])) w) : wpList Try.prog ops Q (o :: rest) a w := by
  refine wpList_plain hg fun K' hK' => ?_
  obtain ⟨et, h1, h2⟩ := T.ex
  unfold Oper.wp
  simp [execOp, hop, hm, hx, run_lookup_v h h1 u28 (h2 w) k true, Result.andThen]
  exact hK' _ _ hK
/-- 'm[k]' -/
theorem op_lookup (hg : o.guard = none) (m x : Operand) (t : TypeId) (hop : o.op = Op.lookup t m x false) (T : MT t z) (hm : a.eval m = .map ob) (h : MapV w ob l) (hx : a.eval x = .int .u64 k)
    (hK : wpList Try.prog ops Q rest (a.put o.dst ((look l k).getD z)) w) : wpList Try.prog ops Q (o :: rest) a w := by
  refine wpList_plain hg fun K' hK' => ?_
  obtain ⟨et, h1, h2⟩ := T.ex
  unfold Oper.wp
  simp [execOp, hop, hm, hx, run_lookup_v h h1 u28 (h2 w) k false, Result.andThen]
  exact hK' _ _ hK
/-- 'm[k] = v' -/
theorem op_update (hg : o.guard = none) (m x v : Operand) (t : TypeId) (hop : o.op = Op.mapUpdate t m x v) (T : MT t z) (hm : a.eval m = .map (some b)) (h : MapB w b l) (hx : a.eval x = .int .u64 k) {val : Value} (hv : a.eval v = val)
    (hK : ∀ w', Turn w w' b (upd l k val) → wpList Try.prog ops Q rest (a.put o.dst undef) w') : wpList Try.prog ops Q (o :: rest) a w := by
  refine wpList_plain hg fun K' hK' => ?_
  obtain ⟨et, h1, h2⟩ := T.ex
  obtain ⟨w', hrun, ht⟩ := run_update_v (P := Try.prog) h h1 u28 k val
  unfold Oper.wp
  simp [execOp, hop, hm, hx, hv, hrun, Result.andThen]
  exact hK' _ _ (hK w' ht)
/-- 'delete(m, k)' -/
theorem op_delete (hg : o.guard = none) (m x : Operand) (t : TypeId) (hop : o.op = Op.call { callee := Callee.builtin Builtin.delete, args := #[m, x], argTypes := #[t, 28] }) (T : MT t z) (hm : a.eval m = .map (some b)) (h : MapB w b l) (hx : a.eval x = .int .u64 k)
    (hK : ∀ w', Turn w w' b (del l k) → wpList Try.prog ops Q rest (a.put o.dst (.tuple #[])) w') : wpList Try.prog ops Q (o :: rest) a w := by
  refine wpList_plain hg fun K' hK' => ?_
  obtain ⟨et, h1, h2⟩ := T.ex
  obtain ⟨w', hrun, ht⟩ := run_delete_v (P := Try.prog) h h1 u28 k o.type
  unfold Oper.wp
  simp [execOp, hop, resolve, invoke, builtin, hm, hx, hrun, Result.andThen]
  exact hK' _ _ (hK w' ht)
/-- 'len(m)' -/
theorem op_len (hg : o.guard = none) (m : Operand) (t : TypeId) (hop : o.op = Op.call { callee := Callee.builtin Builtin.len, args := #[m], argTypes := #[t] }) (T : MT t z) (hm : a.eval m = .map ob) (h : MapV w ob l)
    (hK : wpList Try.prog ops Q rest (a.put o.dst (.int .i64 l.length)) w) : wpList Try.prog ops Q (o :: rest) a w := by
  refine wpList_plain hg fun K' hK' => ?_
  obtain ⟨et, h1, h2⟩ := T.ex
  unfold Oper.wp
  simp [execOp, hop, resolve, invoke, builtin, hm, run_len_v h h1 o.type, Result.andThen]
  exact hK' _ _ hK
/-- 'range m' -/
theorem op_range (hg : o.guard = none) (m : Operand) (t : TypeId) (hop : o.op = Op.range t m) (T : MT t z) (hm : a.eval m = .map ob) (h : MapV w ob l)
    (hK : ∀ w', RangV w' w.heap.size ob l [] → Soft w w' (fun _ => False) → w'.heap.size = w.heap.size + 1 → wpList Try.prog ops Q rest (a.put o.dst (.pointer (some ⟨w.heap.size, 0, none⟩))) w') : wpList Try.prog ops Q (o :: rest) a w := by
  refine wpList_plain hg fun K' hK' => ?_
  obtain ⟨et, h1, h2⟩ := T.ex
  obtain ⟨w', hrun, r1, r2, r3⟩ := run_range_v (P := Try.prog) h h1
  unfold Oper.wp
  simp [execOp, hop, hm, hrun, Result.andThen]
  exact hK' _ _ (hK w' r1 r2 r3)
/-- the step of a range loop -/
theorem op_next (hg : o.guard = none) (it : Operand) (hop : o.op = Op.next it false) {done : List Int} (hit : a.eval it = .pointer (some ⟨r, 0, none⟩)) (h : RangV w r ob l done)
    (hDone : done.Perm (l.map (·.1)) → wpList Try.prog ops Q rest (a.put o.dst (.tuple #[.bool false])) w)
    (hMore : ∀ k v w', (k, v) ∈ l → k ∉ done → RangV w' r ob l (done ++ [k]) → Soft w w' (· = r) → w'.heap.size = w.heap.size →
      (Instr.entry (.pointer (some ⟨r, 0, none⟩))).run Try.prog w' = .ok (.tuple #[.int .u64 k, v]) w' → wpList Try.prog ops Q rest (a.put o.dst (.tuple #[.bool true, .int .u64 k, v])) w') :
    wpList Try.prog ops Q (o :: rest) a w := by
  refine wpList_plain hg fun K' hK' => ?_
  unfold Oper.wp
  rcases run_next_v (P := Try.prog) h o.type with ⟨h0, hrun⟩ | ⟨k, v, w', h1, h2, hrun, h3, h4, h5, h6⟩
  · simp [execOp, hop, hit, hrun, Result.andThen]
    exact hK' _ _ (hDone h0)
  · simp [execOp, hop, hit, hrun, Result.andThen]
    exact hK' _ _ (hMore k v w' h1 h2 h3 h4 h5 h6)
end

/-! ### sets -/
def unitV : Value := .agg #[]
def units (l : List Int) : List (Int × Value) := l.map fun k => (k, .agg #[])
theorem units_keys (l : List Int) : (units l).map (·.1) = l := by simp [units, Function.comp_def]
theorem units_length (l : List Int) : (units l).length = l.length := by simp [units]
theorem look_units (l : List Int) (k : Int) : look (units l) k = if k ∈ l then some (.agg #[]) else none := by
  induction l with
  | nil => rfl
  | cons a l ih =>
    unfold look units at ih ⊢
    by_cases h : a = k
    · subst h; simp
    · have h' : ¬ k = a := fun e => h e.symm
      simp only [List.map_cons, List.mem_cons, h', false_or]
      rw [List.find?_cons_of_neg (by simpa using h)]
      exact ih
theorem units_isSome (l : List Int) (k : Int) : (look (units l) k).isSome = decide (k ∈ l) := by
  rw [look_units]; split <;> simp_all
theorem units_getD (l : List Int) (k : Int) : (look (units l) k).getD (.agg #[]) = .agg #[] := by
  rw [look_units]; split <;> rfl
theorem upd_units (l : List Int) (k : Int) : upd (units l) k (.agg #[]) = units (if k ∈ l then l else l ++ [k]) := by
  have e : (units l).any (fun p => p.1 == k) = decide (k ∈ l) := by
    induction l with
    | nil => rfl
    | cons a l ih =>
      simp only [units, List.map_cons, List.any_cons] at ih ⊢
      rw [ih]
      by_cases h : a = k
      · subst h; simp
      · have h' : ¬ k = a := fun e => h e.symm
        simp [h, h']
  unfold upd
  rw [e]
  by_cases h : k ∈ l
  · rw [if_pos h]
    simp only [h, decide_true, if_true]
    unfold units
    rw [List.map_map]
    apply List.map_congr_left
    intro x _
    by_cases hx : x = k
    · subst hx; simp
    · simp [hx]
  · rw [if_neg h]
    simp [h, units]
theorem del_units (l : List Int) (k : Int) : del (units l) k = units (l.filter fun x => !(x == k)) := by
  unfold del units
  rw [List.filter_map]; rfl

/-- The map value o is the set s (in whatever order). -/
def SetV (w : World) (o : Option Nat) (s : List Int) : Prop := ∃ l : List Int, MapV w o (units l) ∧ l.Perm s

theorem SetV.perm {w : World} {o : Option Nat} {s t : List Int} (h : SetV w o s) (p : s.Perm t) : SetV w o t := by
  obtain ⟨l, h1, h2⟩ := h
  exact ⟨l, h1, h2.trans p⟩
theorem SetV.nodup {w : World} {o : Option Nat} {s : List Int} (h : SetV w o s) : s.Nodup := by
  obtain ⟨l, h1, h2⟩ := h
  have := h1.keys
  rw [units_keys] at this
  exact h2.nodup_iff.1 this
theorem SetV.nil (w : World) : SetV w none [] := ⟨[], rfl, .refl _⟩
theorem SetV.none_nil {w : World} {s : List Int} (h : SetV w none s) : s = [] := by
  obtain ⟨l, h1, h2⟩ := h
  have h1 : units l = [] := h1
  have : l = [] := by cases l with
    | nil => rfl
    | cons a l => cases h1
  subst this
  exact List.Perm.nil_eq h2 |>.symm
theorem SetV.made (w : World) : SetV (w.alloc (.map #[] 0)) (some w.heap.size) [] := ⟨[], MapB.made w, .refl _⟩
theorem SetV.alloc {w : World} {o : Option Nat} {s : List Int} (h : SetV w o s) (ob : Obj) : SetV (w.alloc ob) o s := by
  obtain ⟨l, h1, h2⟩ := h; exact ⟨l, h1.alloc ob, h2⟩
theorem SetV.drew {w : World} {o : Option Nat} {s : List Int} (h : SetV w o s) : SetV w.drew o s := by
  obtain ⟨l, h1, h2⟩ := h; exact ⟨l, h1.drew, h2⟩
theorem SetV.setCell {w : World} {o : Option Nat} {s : List Int} (h : SetV w o s) (a : Addr) (u : Value) : SetV (w.setCell a u) o s := by
  obtain ⟨l, h1, h2⟩ := h; exact ⟨l, h1.setCell a u, h2⟩
theorem SetV.chg {w w' : World} {S : Nat → Prop} {o : Option Nat} {s : List Int} (h : SetV w o s) (c : Chg w w' S) (hS : ∀ i, o = some i → ¬ S i) : SetV w' o s := by
  obtain ⟨l, h1, h2⟩ := h; exact ⟨l, h1.chg c hS, h2⟩
theorem SetV.lt {w : World} {b : Nat} {s : List Int} (h : SetV w (some b) s) : b < w.heap.size := by
  obtain ⟨l, h1, h2⟩ := h; exact MapB.lt h1
theorem SetV.length_eq {w : World} {o : Option Nat} {s : List Int} (_ : SetV w o s) {l : List Int} (hp : l.Perm s) : (units l).length = s.length := by
  rw [units_length]; exact hp.length_eq
/-- a set with k, without k -/
def ins (s : List Int) (k : Int) : List Int := if k ∈ s then s else s ++ [k]
def out (s : List Int) (k : Int) : List Int := s.filter fun x => !(x == k)
theorem mem_ins {s : List Int} {k x : Int} : x ∈ ins s k ↔ x ∈ s ∨ x = k := by
  unfold ins; split
  · constructor
    · exact Or.inl
    · rintro (h | rfl) <;> assumption
  · simp
theorem mem_out {s : List Int} {k x : Int} : x ∈ out s k ↔ x ∈ s ∧ x ≠ k := by simp [out]
theorem nodup_ins {s : List Int} {k : Int} (h : s.Nodup) : (ins s k).Nodup := by
  unfold ins; split
  · exact h
  · rename_i hk
    rw [List.nodup_append]
    exact ⟨h, by simp, fun a ha b hb e => by simp at hb; subst hb; subst e; exact hk ha⟩
theorem nodup_out {s : List Int} {k : Int} (h : s.Nodup) : (out s k).Nodup := h.filter _
theorem ins_perm {s t : List Int} (p : s.Perm t) (k : Int) : (ins s k).Perm (ins t k) := by
  unfold ins
  by_cases h : k ∈ s
  · rw [if_pos h, if_pos (p.mem_iff.1 h)]; exact p
  · rw [if_neg h, if_neg (fun h' => h (p.mem_iff.2 h'))]; exact p.append_right _
theorem out_perm {s t : List Int} (p : s.Perm t) (k : Int) : (out s k).Perm (out t k) := p.filter _

/-- an iterator over a set -/
def RangS (w : World) (r : Nat) (o : Option Nat) (s : List Int) (done : List Int) : Prop := ∃ l : List Int, RangV w r o (units l) done ∧ l.Perm s
theorem RangS.chg {w w' : World} {S : Nat → Prop} {r : Nat} {o : Option Nat} {s done : List Int} (h : RangS w r o s done) (c : Chg w w' S) (hr : ¬ S r) (hb : ∀ b, o = some b → ¬ S b) : RangS w' r o s done := by
  obtain ⟨l, h1, h2⟩ := h; exact ⟨l, h1.chg c hr hb, h2⟩
theorem RangS.alloc {w : World} {r : Nat} {o : Option Nat} {s done : List Int} (h : RangS w r o s done) (ob : Obj) : RangS (w.alloc ob) r o s done := by
  obtain ⟨l, h1, h2⟩ := h; exact ⟨l, h1.alloc ob, h2⟩
theorem RangS.drew {w : World} {r : Nat} {o : Option Nat} {s done : List Int} (h : RangS w r o s done) : RangS w.drew r o s done := by
  obtain ⟨l, h1, h2⟩ := h; exact ⟨l, h1.drew, h2⟩
theorem RangS.setCell {w : World} {r : Nat} {o : Option Nat} {s done : List Int} (h : RangS w r o s done) (a : Addr) (u : Value) : RangS (w.setCell a u) r o s done := by
  obtain ⟨l, h1, h2⟩ := h; exact ⟨l, h1.setCell a u, h2⟩
theorem RangS.set {w : World} {r : Nat} {o : Option Nat} {s done : List Int} (h : RangS w r o s done) : SetV w o s := by
  obtain ⟨l, h1, h2⟩ := h; exact ⟨l, h1.map, h2⟩
theorem RangS.lt {w : World} {r : Nat} {o : Option Nat} {s done : List Int} (h : RangS w r o s done) : r < w.heap.size := by
  obtain ⟨l, h1, h2⟩ := h; exact h1.lt
theorem RangS.nodup {w : World} {r : Nat} {o : Option Nat} {s done : List Int} (h : RangS w r o s done) : done.Nodup := by
  obtain ⟨l, h1, h2⟩ := h; exact h1.nodup
theorem RangS.sub {w : World} {r : Nat} {o : Option Nat} {s done : List Int} (h : RangS w r o s done) : ∀ k ∈ done, k ∈ s := by
  obtain ⟨l, h1, h2⟩ := h
  intro k hk
  have := h1.sub k hk
  rw [units_keys] at this
  exact h2.mem_iff.1 this
theorem len_le_of_sub {a b : List Int} (ha : a.Nodup) (h : ∀ x ∈ a, x ∈ b) : a.length ≤ b.length := by
  induction a generalizing b with
  | nil => simp
  | cons x a ih =>
    have hx := h x (.head _)
    have hn := List.nodup_cons.1 ha
    have hle := ih (b := b.erase x) hn.2 (fun y hy => (List.mem_erase_of_ne (fun e => hn.1 (by subst e; exact hy))).2 (h y (.tail _ hy)))
    have := List.length_erase_of_mem hx
    have hp := List.length_pos_of_mem hx
    simp only [List.length_cons]; omega
theorem RangS.len {w : World} {r : Nat} {o : Option Nat} {s done : List Int} (h : RangS w r o s done) : done.length ≤ s.length :=
  len_le_of_sub h.nodup h.sub
theorem RangS.ne_map {w : World} {r : Nat} {o : Option Nat} {s done : List Int} (h : RangS w r o s done) {b : Nat} {l' : List (Int × Value)} (hb : MapB w b l') : b ≠ r := by
  obtain ⟨l, h1, h2⟩ := h; exact h1.ne_map hb
theorem RangS.ne_set {w : World} {r : Nat} {o : Option Nat} {s done : List Int} (h : RangS w r o s done) {b : Nat} {t : List Int} (hb : SetV w (some b) t) : b ≠ r := by
  obtain ⟨l, h1, _⟩ := hb; exact h.ne_map h1
theorem SetV.ne_cells {w : World} {b c : Nat} {s : List Int} (h : SetV w (some b) s) {cs : Array Value} {e : TypeId} {f : Nat × Nat} (hc : w.heap[c]? = some (.cells cs e f)) : c ≠ b := by
  obtain ⟨l, h1, _⟩ := h; exact MapB.ne_cells h1 hc

section
variable {w : World} {ops : Array Oper} {rest : List Oper} {o : Oper} {a : Act} {Q : Exit → Act → World → Prop} {s : List Int} {ob : Option Nat} {b r : Nat} {k : Int}
theorem set_lookup (hg : o.guard = none) (m x : Operand) (t : TypeId) (hop : o.op = Op.lookup t m x true) (T : MT t (.agg #[])) (hm : a.eval m = .map ob) (h : SetV w ob s) (hx : a.eval x = .int .u64 k)
    (hK : wpList Try.prog ops Q rest (a.put o.dst (.tuple #[.agg #[], .bool (decide (k ∈ s))])) w) : wpList Try.prog ops Q (o :: rest) a w := by
  obtain ⟨l, h1, h2⟩ := h
  refine op_lookup_ok hg m x t hop T hm h1 hx ?_
  rw [units_getD, units_isSome, decide_eq_decide.2 h2.mem_iff]
  exact hK
theorem set_update (hg : o.guard = none) (m x v : Operand) (t : TypeId) (hop : o.op = Op.mapUpdate t m x v) (T : MT t (.agg #[])) (hm : a.eval m = .map (some b)) (h : SetV w (some b) s) (hx : a.eval x = .int .u64 k) (hv : a.eval v = .agg #[])
    (hK : ∀ w', SetV w' (some b) (ins s k) → Soft w w' (· = b) → w'.heap.size = w.heap.size → wpList Try.prog ops Q rest (a.put o.dst undef) w') : wpList Try.prog ops Q (o :: rest) a w := by
  obtain ⟨l, h1, h2⟩ := h
  refine op_update hg m x v t hop T hm h1 hx hv fun w' ht => hK w' ⟨ins l k, ?_, ins_perm h2 k⟩ ht.soft ht.size
  have := ht.map
  rw [upd_units] at this
  exact this
theorem set_delete (hg : o.guard = none) (m x : Operand) (t : TypeId) (hop : o.op = Op.call { callee := Callee.builtin Builtin.delete, args := #[m, x], argTypes := #[t, 28] }) (T : MT t (.agg #[])) (hm : a.eval m = .map (some b)) (h : SetV w (some b) s) (hx : a.eval x = .int .u64 k)
    (hK : ∀ w', SetV w' (some b) (out s k) → Soft w w' (· = b) → w'.heap.size = w.heap.size → wpList Try.prog ops Q rest (a.put o.dst (.tuple #[])) w') : wpList Try.prog ops Q (o :: rest) a w := by
  obtain ⟨l, h1, h2⟩ := h
  refine op_delete hg m x t hop T hm h1 hx fun w' ht => hK w' ⟨out l k, ?_, out_perm h2 k⟩ ht.soft ht.size
  have := ht.map
  rw [del_units] at this
  exact this
theorem set_len (hg : o.guard = none) (m : Operand) (t : TypeId) (hop : o.op = Op.call { callee := Callee.builtin Builtin.len, args := #[m], argTypes := #[t] }) (T : MT t (.agg #[])) (hm : a.eval m = .map ob) (h : SetV w ob s)
    (hK : wpList Try.prog ops Q rest (a.put o.dst (.int .i64 s.length)) w) : wpList Try.prog ops Q (o :: rest) a w := by
  obtain ⟨l, h1, h2⟩ := h
  refine op_len hg m t hop T hm h1 ?_
  rw [units_length, h2.length_eq]
  exact hK
theorem set_range (hg : o.guard = none) (m : Operand) (t : TypeId) (hop : o.op = Op.range t m) (T : MT t (.agg #[])) (hm : a.eval m = .map ob) (h : SetV w ob s)
    (hK : ∀ w', RangS w' w.heap.size ob s [] → Soft w w' (fun _ => False) → w'.heap.size = w.heap.size + 1 → wpList Try.prog ops Q rest (a.put o.dst (.pointer (some ⟨w.heap.size, 0, none⟩))) w') : wpList Try.prog ops Q (o :: rest) a w := by
  obtain ⟨l, h1, h2⟩ := h
  exact op_range hg m t hop T hm h1 fun w' r1 r2 r3 => hK w' ⟨l, r1, h2⟩ r2 r3
theorem set_next (hg : o.guard = none) (it : Operand) (hop : o.op = Op.next it false) {done : List Int} (hit : a.eval it = .pointer (some ⟨r, 0, none⟩)) (h : RangS w r ob s done)
    (hDone : done.Perm s → wpList Try.prog ops Q rest (a.put o.dst (.tuple #[.bool false])) w)
    (hMore : ∀ k w', k ∈ s → k ∉ done → RangS w' r ob s (done ++ [k]) → Soft w w' (· = r) → w'.heap.size = w.heap.size →
      (Instr.entry (.pointer (some ⟨r, 0, none⟩))).run Try.prog w' = .ok (.tuple #[.int .u64 k, .agg #[]]) w' → wpList Try.prog ops Q rest (a.put o.dst (.tuple #[.bool true, .int .u64 k, .agg #[]])) w') :
    wpList Try.prog ops Q (o :: rest) a w := by
  obtain ⟨l, h1, h2⟩ := h
  refine op_next hg it hop hit h1 (fun hp => hDone ?_) (fun k v w' hm hn r1 r2 r3 r4 => ?_)
  · rw [units_keys] at hp; exact hp.trans h2
  · obtain ⟨k', hk', e⟩ := List.mem_map.1 hm
    simp only [Prod.mk.injEq] at e
    obtain ⟨rfl, rfl⟩ := e
    exact hMore k' w' (h2.mem_iff.1 hk') hn ⟨l, r1, h2⟩ r2 r3 r4
end
end Go.Proofs.Ytcgccoigjcdjeaa
