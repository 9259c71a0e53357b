/- The words that all texts of this seat use: how a Go map keyed by uint64 lies in memory, and what one step of the model does to it. No condition. -/
import Derived.Maps.RangeWalk
import Derived.Maps.OwnSet
import Derived.WalkKit
namespace Go.Proofs.Ytcgccoigjcdjeaa
open Go.RowKit
open Go.ChangeMaps (setBlock)

/-- w' is w but for the blocks in S, and with new blocks. -/
structure Chg (w w' : World) (S : Nat → Prop) : Prop where
  os : w'.os = w.os
  tape : w'.tape = w.tape
  output : w'.output = w.output
  size : w.heap.size ≤ w'.heap.size
  block : ∀ i, i < w.heap.size → ¬ S i → w'.heap[i]? = w.heap[i]?

theorem Chg.refl (w : World) (S : Nat → Prop) : Chg w w S := ⟨rfl, rfl, rfl, Nat.le_refl _, fun _ _ _ => rfl⟩
theorem Chg.mono {w w' : World} {S T : Nat → Prop} (h : Chg w w' S) (hs : ∀ i, i < w.heap.size → S i → T i) : Chg w w' T :=
  ⟨h.os, h.tape, h.output, h.size, fun i hi ht => h.block i hi (fun hS => ht (hs i hi hS))⟩
theorem Chg.trans {a b c : World} {S T U : Nat → Prop} (h : Chg a b S) (k : Chg b c T) (hs : ∀ i, i < a.heap.size → S i → U i) (ht : ∀ i, i < a.heap.size → T i → U i) : Chg a c U :=
  ⟨k.os.trans h.os, k.tape.trans h.tape, k.output.trans h.output, Nat.le_trans h.size k.size, fun i hi hu =>
    (k.block i (Nat.lt_of_lt_of_le hi h.size) (fun hT => hu (ht i hi hT))).trans (h.block i hi (fun hS => hu (hs i hi hS)))⟩
/-- the same set on both legs -/
theorem Chg.then {a b c : World} {S : Nat → Prop} (h : Chg a b S) (k : Chg b c S) : Chg a c S := h.trans k (fun _ _ h => h) (fun _ _ h => h)
theorem Chg.alloc (w : World) (o : Obj) (S : Nat → Prop) : Chg w (w.alloc o) S :=
  ⟨rfl, rfl, rfl, by simp, fun k hk _ => Below.heap_alloc _ _ _ (by omega)⟩
theorem Chg.drew (w : World) (S : Nat → Prop) : Chg w w.drew S := ⟨rfl, rfl, rfl, Nat.le_refl _, fun _ _ _ => rfl⟩
theorem Chg.setCell (w : World) (a : Addr) (u : Value) (S : Nat → Prop) (h : a.block < w.heap.size → S a.block) : Chg w (w.setCell a u) S :=
  ⟨rfl, rfl, rfl, by simp [World.setCell], fun k hk hS => Below.heap_setCell _ _ _ _ (fun e => hS (by subst e; exact h hk))⟩
theorem Chg.below {w w' : World} {S : Nat → Prop} (h : Chg w w' S) {B : Nat} (hB : B ≤ w.heap.size) (hs : ∀ i, i < B → ¬ S i) : Below B w w' :=
  ⟨h.os, h.tape, h.output, h.size, fun k hk => h.block k (by omega) (hs k hk)⟩
theorem Chg.ofBelow {w w' : World} {B : Nat} (h : Below B w w') : Chg w w' (fun i => B ≤ i) :=
  ⟨h.os, h.tape, h.output, h.size, fun k _ hk => h.block k (by omega)⟩
theorem Chg.cell {w w' : World} {S : Nat → Prop} (h : Chg w w' S) {p : Addr} (hp : p.block < w.heap.size) (hS : ¬ S p.block) : w'.cell? p = w.cell? p := World.cell?_of_block (w := w) (h.block p.block hp hS)
theorem Chg.frozen {w w' : World} {S : Nat → Prop} (h : Chg w w' S) {p : Addr} (hp : p.block < w.heap.size) (hS : ¬ S p.block) : w'.frozen? p = w.frozen? p := World.frozen?_of_block (w := w) (h.block p.block hp hS)
/-- a block that is known whole stays -/
theorem Chg.keeps {w w' : World} {S : Nat → Prop} (h : Chg w w' S) {b : Nat} {o : Obj} (hb : w.heap[b]? = some o) (hS : ¬ S b) : w'.heap[b]? = some o :=
  (h.block b (Array.getElem?_eq_some_iff.1 hb).1 hS).trans hb

/-! ### maps keyed by uint64 -/
/-- Block b is a map with these entries, in the order in which they were laid. -/
def MapB (w : World) (b : Nat) (l : List (Int × Value)) : Prop :=
  ∃ es clock, w.heap[b]? = some (.map es clock) ∧ es.toList.map (fun e => (e.key, e.val)) = l.map (fun p => (Value.int .u64 p.1, p.2)) ∧ MapKept.Stamped es clock
/-- the same of a map value that may be nil -/
def MapV (w : World) (o : Option Nat) (l : List (Int × Value)) : Prop :=
  match o with
  | none => l = []
  | some b => MapB w b l
def look (l : List (Int × Value)) (k : Int) : Option Value := (l.find? (fun p => p.1 == k)).map (·.2)
def upd (l : List (Int × Value)) (k : Int) (v : Value) : List (Int × Value) :=
  if l.any (fun p => p.1 == k) then l.map (fun p => if p.1 == k then (k, v) else p) else l ++ [(k, v)]
def del (l : List (Int × Value)) (k : Int) : List (Int × Value) := l.filter (fun p => !(p.1 == k))

theorem MapB.of_block {w w' : World} {b : Nat} {l : List (Int × Value)} (h : MapB w b l) (hb : w'.heap[b]? = w.heap[b]?) : MapB w' b l := by
  obtain ⟨es, clock, h1, h2, h3⟩ := h
  exact ⟨es, clock, hb.trans h1, h2, h3⟩
theorem MapB.lt {w : World} {b : Nat} {l : List (Int × Value)} (h : MapB w b l) : b < w.heap.size := by
  obtain ⟨es, clock, h1, _⟩ := h
  exact (Array.getElem?_eq_some_iff.1 h1).1
theorem MapB.chg {w w' : World} {S : Nat → Prop} {b : Nat} {l : List (Int × Value)} (h : MapB w b l) (c : Chg w w' S) (hS : ¬ S b) : MapB w' b l := h.of_block (c.block b h.lt hS)
theorem MapB.alloc {w : World} {b : Nat} {l : List (Int × Value)} (h : MapB w b l) (o : Obj) : MapB (w.alloc o) b l := h.of_block (Below.heap_alloc _ _ _ h.lt)
theorem MapB.drew {w : World} {b : Nat} {l : List (Int × Value)} (h : MapB w b l) : MapB w.drew b l := h.of_block rfl
/-- a store into a cell turns no map -/
theorem MapB.setCell {w : World} {b : Nat} {l : List (Int × Value)} (h : MapB w b l) (a : Addr) (u : Value) : MapB (w.setCell a u) b l := by
  obtain ⟨es, clock, h1, h2, h3⟩ := h
  refine ⟨es, clock, ?_, h2, h3⟩
  simp only [World.setCell, Array.getElem?_modify]
  by_cases e : a.block = b
  · rw [if_pos e, h1]; rfl
  · rw [if_neg e]; exact h1
theorem MapV.alloc {w : World} {b : Option Nat} {l : List (Int × Value)} (h : MapV w b l) (o : Obj) : MapV (w.alloc o) b l := by
  cases b with
  | none => exact h
  | some b => exact MapB.alloc h o
theorem MapV.drew {w : World} {b : Option Nat} {l : List (Int × Value)} (h : MapV w b l) : MapV w.drew b l := by
  cases b with
  | none => exact h
  | some b => exact MapB.drew h
theorem MapV.setCell {w : World} {b : Option Nat} {l : List (Int × Value)} (h : MapV w b l) (a : Addr) (u : Value) : MapV (w.setCell a u) b l := by
  cases b with
  | none => exact h
  | some b => exact MapB.setCell h a u
theorem MapV.chg {w w' : World} {S : Nat → Prop} {b : Option Nat} {l : List (Int × Value)} (h : MapV w b l) (c : Chg w w' S) (hS : ∀ i, b = some i → ¬ S i) : MapV w' b l := by
  cases b with
  | none => exact h
  | some b => exact MapB.chg h c (hS b rfl)
theorem MapB.keys {w : World} {b : Nat} {l : List (Int × Value)} (h : MapB w b l) : (l.map (·.1)).Nodup := by
  obtain ⟨es, clock, h1, h2, h3⟩ := h
  have hk := h3.2.2
  have e : es.toList.map (·.key) = (l.map (·.1)).map (Value.int .u64) := by
    have := congrArg (List.map Prod.fst) h2
    simpa [List.map_map, Function.comp_def] using this
  rw [e] at hk
  exact hk.of_map _ (fun a b hne h => hne (by rw [h]))
theorem MapV.keys {w : World} {b : Option Nat} {l : List (Int × Value)} (h : MapV w b l) : (l.map (·.1)).Nodup := by
  cases b with
  | none => rw [show l = [] from h]; simp
  | some b => exact MapB.keys h
/-- a block of cells is no map -/
theorem MapB.ne_cells {w : World} {b c : Nat} {l : List (Int × Value)} (h : MapB w b l) {cs : Array Value} {e : TypeId} {f : Nat × Nat} (hc : w.heap[c]? = some (.cells cs e f)) : c ≠ b := by
  obtain ⟨es, clock, h1, _⟩ := h
  intro e; subst e; rw [h1] at hc; cases hc
theorem MapB.made (w : World) : MapB (w.alloc (.map #[] 0)) w.heap.size [] :=
  ⟨#[], 0, (MapKept.heap_alloc w _).1, by simp, MapKept.stamped_empty 0⟩

/-! ### the entries, the list -/
theorem find_entries (es : List MapEntry) (l : List (Int × Value)) (h : es.map (fun e => (e.key, e.val)) = l.map (fun p => (Value.int .u64 p.1, p.2))) (k : Int) (i : Nat) :
    (look l k = none ∧ Instr.findNow (.int .u64) (.int .u64 k) es i = some none ∧ (∀ p ∈ l, p.1 ≠ k) ∧ ∀ x ∈ es, x.key ≠ .int .u64 k) ∨
    ∃ j e, look l k = some e.val ∧ Instr.findNow (.int .u64) (.int .u64 k) es i = some (some (i + j, e.val)) ∧ es[j]? = some e ∧ e.key = .int .u64 k ∧ l[j]? = some (k, e.val) := by
  induction es generalizing l i with
  | nil =>
    cases l with
    | nil => left; exact ⟨rfl, rfl, by simp, by simp⟩
    | cons p l => simp at h
  | cons e es ih =>
    cases l with
    | nil => simp at h
    | cons p l =>
      simp only [List.map_cons, List.cons.injEq, Prod.mk.injEq] at h
      obtain ⟨⟨hk, hv⟩, ht⟩ := h
      by_cases hp : p.1 = k
      · right
        refine ⟨0, e, ?_, ?_, rfl, by rw [hk, hp], ?_⟩
        · simp [look, hp, hv]
        · simp [Instr.findNow, Instr.sameNow, hk, hp]
        · simp [hv, ← hp]
      · have hp' : (k == p.1) = false := by simpa using fun h : k = p.1 => hp h.symm
        rcases ih l ht (i + 1) with ⟨h1, h2, h3, h4⟩ | ⟨j, e', h1, h2, h3, h4, h5⟩
        · left
          refine ⟨?_, ?_, ?_, ?_⟩
          · simpa [look, hp] using h1
          · simp [Instr.findNow, Instr.sameNow, hk, hp', h2]
          · intro q hq
            rcases List.mem_cons.1 hq with rfl | hq
            · exact hp
            · exact h3 q hq
          · intro x hx
            rcases List.mem_cons.1 hx with rfl | hx
            · rw [hk]; intro e; injection e with _ e; exact hp e
            · exact h4 x hx
        · right
          refine ⟨j + 1, e', ?_, ?_, by simpa using h3, h4, by simpa using h5⟩
          · simpa [look, hp] using h1
          · simp [Instr.findNow, Instr.sameNow, hk, hp', h2]; omega

section
variable {P : Program} {w : World} {mty kt et : TypeId} {b : Nat} {l : List (Int × Value)}

theorem map_eraseIdx' {α β : Type} (f : α → β) (l : List α) (j : Nat) : (l.eraseIdx j).map f = (l.map f).eraseIdx j := by
  induction l generalizing j with
  | nil => rfl
  | cons a l ih => cases j <;> simp [ih]

theorem isKey_u64 (k : Int) : MapKept.IsKey (.int .u64) (.int .u64 k) := rfl

/-- 'm[k]', 'v, ok := m[k]' -/
theorem run_lookup_v {o : Option Nat} (h : MapV w o l) (hm : P.underlying mty = some (.map kt et)) (hd : P.underlying kt = some (.int .u64)) {z : Value} (hz : (zeroValue et).run P w = .ok z w) (k : Int) (c : Bool) :
    (Instr.lookup mty (.map o) (.int .u64 k) c).run P w = .ok (if c then .tuple #[(look l k).getD z, .bool (look l k).isSome] else (look l k).getD z) w := by
  cases o with
  | none =>
    have hl : l = [] := h
    subst hl
    have hf : Instr.findNow (.int .u64) (.int .u64 k) [] 0 = some none := rfl
    simp [Instr.lookup, run_underlying hm, MapKept.run_checkKey hd (isKey_u64 k), MapKept.run_findKey hd hf, hz, Result.andThen, look]
  | some b =>
    obtain ⟨es, clock, h1, h2, h3⟩ := h
    rcases find_entries es.toList l h2 k 0 with ⟨hl, hf, _, _⟩ | ⟨j, e, hl, hf, _, _, _⟩
    · simp [Instr.lookup, run_underlying hm, MapKept.run_getObj_map h1, MapKept.run_checkKey hd (isKey_u64 k), MapKept.run_findKey hd hf, hz, Result.andThen, hl]
    · simp [Instr.lookup, run_underlying hm, MapKept.run_getObj_map h1, MapKept.run_checkKey hd (isKey_u64 k), MapKept.run_findKey hd hf, Result.andThen, hl]

theorem any_false {k : Int} (h : ∀ p ∈ l, p.1 ≠ k) : l.any (fun p => p.1 == k) = false := by
  rw [List.any_eq_false]
  intro p hp
  simpa using h p hp
theorem any_true {k : Int} {j : Nat} {v : Value} (h : l[j]? = some (k, v)) : l.any (fun p => p.1 == k) = true := by
  rw [List.any_eq_true]
  exact ⟨(k, v), List.mem_of_getElem? h, by simp⟩

/-- what a step on the map in block b leaves -/
structure Turn (w w' : World) (b : Nat) (l : List (Int × Value)) : Prop where
  map : MapB w' b l
  chg : Chg w w' (· = b)
  size : w'.heap.size = w.heap.size
  cell : ∀ a, w'.cell? a = w.cell? a
  frozen : ∀ a, w'.frozen? a = w.frozen? a

theorem turn_setBlock {es es' : Array MapEntry} {clock clock' : Nat} (h1 : w.heap[b]? = some (.map es clock)) (h2 : es'.toList.map (fun e => (e.key, e.val)) = l.map (fun p => (Value.int .u64 p.1, p.2))) (h3 : MapKept.Stamped es' clock') :
    Turn w (setBlock w b (.map es' clock')) b l := by
  have hlt := (Array.getElem?_eq_some_iff.1 h1).1
  have hs := MapKept.heap_set (o' := .map es' clock') h1
  refine ⟨⟨es', clock', hs.1, h2, h3⟩, ⟨rfl, rfl, rfl, by simp [setBlock], fun i _ hi => hs.2 i hi⟩, by simp [setBlock], ?_, ?_⟩
  · intro a
    by_cases e : a.block = b
    · have e1 : (setBlock w b (.map es' clock')).heap[a.block]? = some (.map es' clock') := by rw [e]; exact hs.1
      simp only [World.cell?, e1]
      rw [e, h1]
    · exact World.cell?_of_block (hs.2 _ e)
  · intro a
    by_cases e : a.block = b
    · have e1 : (setBlock w b (.map es' clock')).heap[a.block]? = some (.map es' clock') := by rw [e]; exact hs.1
      simp only [World.frozen?, e1]
      rw [e, h1]
    · exact World.frozen?_of_block (hs.2 _ e)

/-- 'm[k] = v' -/
theorem run_update_v (h : MapB w b l) (hm : P.underlying mty = some (.map kt et)) (hd : P.underlying kt = some (.int .u64)) (k : Int) (v : Value) :
    ∃ w', (Instr.mapUpdate mty (.map (some b)) (.int .u64 k) v).run P w = .ok () w' ∧ Turn w w' b (upd l k v) := by
  obtain ⟨es, clock, h1, h2, h3⟩ := h
  rcases find_entries es.toList l h2 k 0 with ⟨hl, hf, hn, hne⟩ | ⟨j, e, hl, hf, hj, hek, hlj⟩
  · refine ⟨setBlock w b (.map (es.push { key := .int .u64 k, val := v, born := clock }) (clock + 1)), ?_, ?_⟩
    · simp [Instr.mapUpdate, run_underlying hm, MapKept.run_getObj_map h1, MapKept.run_checkKey hd (isKey_u64 k), MapKept.run_findKey hd hf, MapKept.run_setObj_map _ h1, Result.andThen, setBlock]
    · refine turn_setBlock h1 ?_ (MapKept.stamped_push h3 hne)
      unfold upd
      rw [any_false hn]
      simp [h2]
  · have hj' : es[j]? = some e := by simpa using hj
    refine ⟨setBlock w b (.map (es.modify j fun e => { e with key := .int .u64 k, val := v }) clock), ?_, ?_⟩
    · simp [Instr.mapUpdate, run_underlying hm, MapKept.run_getObj_map h1, MapKept.run_checkKey hd (isKey_u64 k), MapKept.run_findKey hd hf, hj', hek, MapKept.run_keyThatStays (isKey_u64 k), MapKept.run_setObj_map _ h1, Result.andThen, setBlock]
    · have hkey : ∀ e', es[j]? = some e' → ({ e' with key := .int .u64 k, val := v } : MapEntry).key = e'.key := fun e' he' => by rw [hj'] at he'; cases he'; exact hek.symm
      refine turn_setBlock h1 ?_ (MapKept.stamped_modify h3 _ _ (fun _ _ => rfl) (fun e' _ he' => hkey e' he'))
      unfold upd
      rw [any_true hlj, if_pos rfl]
      have hnd : (l.map (·.1)).Nodup := MapB.keys ⟨es, clock, h1, h2, h3⟩
      apply List.ext_getElem?
      intro i
      have h2i := congrArg (fun (x : List (Value × Value)) => x[i]?) h2
      simp only [List.getElem?_map, Array.getElem?_toList] at h2i
      simp only [List.getElem?_map, Array.getElem?_toList, Array.getElem?_modify]
      by_cases hij : j = i
      · subst hij
        rw [if_pos rfl, hj', hlj]
        simp
      · rw [if_neg hij, h2i]
        cases hli : l[i]? with
        | none => rfl
        | some p =>
          have : p.1 ≠ k := by
            intro hpk
            have g1 : (l.map (·.1))[i]? = some k := by simp [hli, hpk]
            have g2 : (l.map (·.1))[j]? = some k := by simp [hlj]
            have hi' := (List.getElem?_eq_some_iff.1 g1).1
            exact hij ((List.getElem?_inj hi' hnd).1 (g1.trans g2.symm)).symm
          simp [this]

/-- 'delete(m, k)' -/
theorem run_delete_v (h : MapB w b l) (hm : P.underlying mty = some (.map kt et)) (hd : P.underlying kt = some (.int .u64)) (k : Int) (ty : TypeId) :
    ∃ w', (Builtin.delete_ #[mty, kt] ty #[.map (some b), .int .u64 k]).run P w = .ok (.tuple #[]) w' ∧ Turn w w' b (del l k) := by
  obtain ⟨es, clock, h1, h2, h3⟩ := h
  rcases find_entries es.toList l h2 k 0 with ⟨hl, hf, hn, hne⟩ | ⟨j, e, hl, hf, hj, hek, hlj⟩
  · refine ⟨setBlock w b (.map es clock), ?_, ?_⟩
    · simp [Builtin.delete_, run_underlying hm, MapKept.run_getObj_map h1, MapKept.run_checkKey hd (isKey_u64 k), MapKept.run_findKey hd hf, MapKept.run_setObj_map _ h1, Result.andThen, setBlock]
    · refine turn_setBlock h1 ?_ h3
      have : del l k = l := by
        unfold del
        rw [List.filter_eq_self]
        intro p hp
        simpa using hn p hp
      rw [this, h2]
  · refine ⟨setBlock w b (.map (es.eraseIdxIfInBounds j) clock), ?_, ?_⟩
    · simp [Builtin.delete_, run_underlying hm, MapKept.run_getObj_map h1, MapKept.run_checkKey hd (isKey_u64 k), MapKept.run_findKey hd hf, MapKept.run_setObj_map _ h1, Result.andThen, setBlock]
    · refine turn_setBlock h1 ?_ (MapKept.stamped_erase h3 _)
      have hnd : (l.map (·.1)).Nodup := MapB.keys ⟨es, clock, h1, h2, h3⟩
      have hjl : j < l.length := (List.getElem?_eq_some_iff.1 hlj).1
      have hjs : j < es.size := by
        have := (List.getElem?_eq_some_iff.1 hj).1
        simpa using this
      have e1 : (es.eraseIdxIfInBounds j).toList = es.toList.eraseIdx j := by
        unfold Array.eraseIdxIfInBounds
        rw [dif_pos hjs]; simp
      rw [e1, map_eraseIdx', h2, ← map_eraseIdx']
      congr 1
      unfold del
      clear h2 hl hf hj hek h1 h3 hjs e1
      induction l generalizing j with
      | nil => simp at hjl
      | cons p l ih =>
        simp only [List.map_cons, List.nodup_cons, List.mem_map, not_exists, not_and] at hnd
        cases j with
        | zero =>
          simp only [List.getElem?_cons_zero, Option.some.injEq] at hlj
          subst hlj
          simp only [List.eraseIdx_cons_zero]
          rw [List.filter_cons_of_neg (by simp)]
          symm
          rw [List.filter_eq_self]
          intro q hq
          simpa using hnd.1 q hq
        | succ j =>
          simp only [List.getElem?_cons_succ] at hlj
          have : p.1 ≠ k := fun hpk => hnd.1 (k, e.val) (List.mem_of_getElem? hlj) hpk.symm
          simp only [List.eraseIdx_cons_succ]
          rw [List.filter_cons_of_pos (by simpa using this), ih j hlj hnd.2 (by simpa using hjl)]

/-- 'len(m)' -/
theorem run_len_v {o : Option Nat} (h : MapV w o l) (hm : P.underlying mty = some (.map kt et)) (ty : TypeId) : (Builtin.len_ #[mty] ty #[.map o]).run P w = .ok (.int .i64 l.length) w := by
  cases o with
  | none =>
    have hl : l = [] := h
    subst hl
    simp [Builtin.len_, run_underlying hm, goInt, Result.andThen]
  | some b =>
    obtain ⟨es, clock, h1, h2, h3⟩ := h
    have e : es.size = l.length := by
      have := congrArg List.length h2
      simpa using this
    simp [Builtin.len_, run_underlying hm, MapKept.run_getObj_map h1, goInt, Result.andThen, e]
end

/-- 'make(map[K]V, n)' -/
theorem run_makeMap_hint {P : Program} (w : World) (t kt et : TypeId) (hm : P.underlying t = some (.map kt et)) (q : IntKind) (n : Int) :
    (Instr.makeMap t (some (.int q n))).run P w = .ok (.map (some w.heap.size)) (w.alloc (.map #[] 0)) := by
  simp [Instr.makeMap, run_underlying hm, asInt, asIntOf, Result.andThen]

/-! ### no cell turns -/
/-- w' is w but for the blocks in S and new blocks, and every cell reads as it did. -/
structure Soft (w w' : World) (S : Nat → Prop) : Prop where
  chg : Chg w w' S
  cell : ∀ a, w'.cell? a = w.cell? a
  frozen : ∀ a, w'.frozen? a = w.frozen? a

theorem Turn.soft {w w' : World} {b : Nat} {l : List (Int × Value)} (h : Turn w w' b l) : Soft w w' (· = b) := ⟨h.chg, h.cell, h.frozen⟩

theorem cell_no {w : World} {a : Addr} (h : ∀ c e f, w.heap[a.block]? ≠ some (.cells c e f)) : w.cell? a = none := by
  unfold World.cell?
  split
  · rename_i c e f hc; exact absurd hc (h c e f)
  · rfl
theorem frozen_no {w : World} {a : Addr} (h : ∀ c e f, w.heap[a.block]? ≠ some (.cells c e f)) : w.frozen? a = false := by
  unfold World.frozen?
  split
  · rename_i c e lo hi hc; exact absurd hc (h c e (lo, hi))
  · rfl
/-- a new block that holds no cells -/
theorem soft_alloc (w : World) {o : Obj} (h : ∀ c e f, o ≠ .cells c e f) (S : Nat → Prop) : Soft w (w.alloc o) S := by
  have hh := MapKept.heap_alloc w o
  refine ⟨Chg.alloc w o S, fun a => ?_, fun a => ?_⟩
  · by_cases e : a.block < w.heap.size
    · exact World.cell?_of_block (hh.2 _ e)
    · rw [cell_no (w := w) (fun c e' f hc => e (Array.getElem?_eq_some_iff.1 hc).1)]
      apply cell_no
      intro c e' f hc
      by_cases e2 : a.block = w.heap.size
      · rw [e2, hh.1] at hc; injection hc with hc; exact h _ _ _ hc
      · have := (Array.getElem?_eq_some_iff.1 hc).1
        simp at this; omega
  · by_cases e : a.block < w.heap.size
    · exact World.frozen?_of_block (hh.2 _ e)
    · rw [frozen_no (w := w) (fun c e' f hc => e (Array.getElem?_eq_some_iff.1 hc).1)]
      apply frozen_no
      intro c e' f hc
      by_cases e2 : a.block = w.heap.size
      · rw [e2, hh.1] at hc; injection hc with hc; exact h _ _ _ hc
      · have := (Array.getElem?_eq_some_iff.1 hc).1
        simp at this; omega

/-! ### ranging over a map -/
/-- Block r is an iterator over the map in block b, which reads as l; 'done': the keys that have come. -/
def RangB (w : World) (r b : Nat) (l : List (Int × Value)) (done : List Int) : Prop :=
  ∃ es clock since seen c0, ∃ ds : List MapEntry, w.heap[b]? = some (.map es clock) ∧ es.toList.map (fun e => (e.key, e.val)) = l.map (fun p => (Value.int .u64 p.1, p.2)) ∧ MapKept.Stamped es clock ∧
    w.heap[r]? = some (.mapIter (some b) since seen c0) ∧ (∀ x ∈ es.toList, x.born < since) ∧ (since ≤ c0 ∧ since ≤ clock) ∧
    seen.toList = ds.map (·.born) ∧ ds.map (·.key) = done.map (Value.int .u64) ∧ (∀ d ∈ ds, d ∈ es.toList) ∧ done.Nodup
def RangV (w : World) (r : Nat) (o : Option Nat) (l : List (Int × Value)) (done : List Int) : Prop :=
  match o with
  | none => w.heap[r]? = some (.mapIter none 0 #[] 0) ∧ l = [] ∧ done = []
  | some b => RangB w r b l done

theorem RangV.of_block {w w' : World} {r : Nat} {o : Option Nat} {l : List (Int × Value)} {done : List Int} (h : RangV w r o l done) (hr : w'.heap[r]? = w.heap[r]?) (hb : ∀ b, o = some b → w'.heap[b]? = w.heap[b]?) : RangV w' r o l done := by
  cases o with
  | none => exact ⟨hr.trans h.1, h.2⟩
  | some b =>
    obtain ⟨es, clock, since, seen, c0, ds, h1, h2, h3, h4, h5⟩ := h
    exact ⟨es, clock, since, seen, c0, ds, (hb b rfl).trans h1, h2, h3, hr.trans h4, h5⟩
theorem RangV.iter {w : World} {r : Nat} {o : Option Nat} {l : List (Int × Value)} {done : List Int} (h : RangV w r o l done) : ∃ s seen c, w.heap[r]? = some (.mapIter o s seen c) := by
  cases o with
  | none => exact ⟨_, _, _, h.1⟩
  | some b =>
    obtain ⟨es, clock, since, seen, c0, ds, h1, h2, h3, h4, h5⟩ := h
    exact ⟨_, _, _, h4⟩
theorem RangV.lt {w : World} {r : Nat} {o : Option Nat} {l : List (Int × Value)} {done : List Int} (h : RangV w r o l done) : r < w.heap.size := by
  obtain ⟨_, _, _, h⟩ := h.iter
  exact (Array.getElem?_eq_some_iff.1 h).1
theorem RangV.map {w : World} {r : Nat} {o : Option Nat} {l : List (Int × Value)} {done : List Int} (h : RangV w r o l done) : MapV w o l := by
  cases o with
  | none => exact h.2.1
  | some b =>
    obtain ⟨es, clock, since, seen, c0, ds, h1, h2, h3, h4, h5⟩ := h
    exact ⟨es, clock, h1, h2, h3⟩
theorem RangV.blt {w : World} {r b : Nat} {l : List (Int × Value)} {done : List Int} (h : RangV w r (some b) l done) : b < w.heap.size := MapB.lt h.map
theorem RangV.alloc {w : World} {r : Nat} {o : Option Nat} {l : List (Int × Value)} {done : List Int} (h : RangV w r o l done) (ob : Obj) : RangV (w.alloc ob) r o l done :=
  h.of_block (Below.heap_alloc _ _ _ h.lt) (fun b hb => by subst hb; exact Below.heap_alloc _ _ _ h.blt)
theorem RangV.drew {w : World} {r : Nat} {o : Option Nat} {l : List (Int × Value)} {done : List Int} (h : RangV w r o l done) : RangV w.drew r o l done := h.of_block rfl (fun _ _ => rfl)
theorem RangV.chg {w w' : World} {S : Nat → Prop} {r : Nat} {o : Option Nat} {l : List (Int × Value)} {done : List Int} (h : RangV w r o l done) (c : Chg w w' S) (hr : ¬ S r) (hb : ∀ b, o = some b → ¬ S b) : RangV w' r o l done :=
  h.of_block (c.block _ h.lt hr) (fun b e => by subst e; exact c.block _ h.blt (hb b rfl))
theorem heap_setCell_soft {w : World} {b : Nat} {o : Obj} (h : w.heap[b]? = some o) (hn : ∀ c e f, o ≠ .cells c e f) (a : Addr) (u : Value) : (w.setCell a u).heap[b]? = w.heap[b]? := by
  simp only [World.setCell, Array.getElem?_modify]
  by_cases e : a.block = b
  · rw [if_pos e, h]
    cases o <;> simp_all
  · rw [if_neg e]
theorem RangV.setCell {w : World} {r : Nat} {o : Option Nat} {l : List (Int × Value)} {done : List Int} (h : RangV w r o l done) (a : Addr) (u : Value) : RangV (w.setCell a u) r o l done := by
  obtain ⟨_, _, _, hi⟩ := h.iter
  refine h.of_block (heap_setCell_soft hi (by simp) a u) (fun b e => ?_)
  subst e
  obtain ⟨es, clock, h1, _⟩ := h.map
  exact heap_setCell_soft h1 (by simp) a u
/-- an iterator's block is no map, and no row of cells -/
theorem RangV.ne_map {w : World} {r : Nat} {o : Option Nat} {l : List (Int × Value)} {done : List Int} (h : RangV w r o l done) {b : Nat} {l' : List (Int × Value)} (hb : MapB w b l') : b ≠ r := by
  obtain ⟨_, _, _, hi⟩ := h.iter
  obtain ⟨es, clock, h1, _⟩ := hb
  intro e; subst e; rw [h1] at hi; cases hi
theorem RangV.ne_cells {w : World} {r : Nat} {o : Option Nat} {l : List (Int × Value)} {done : List Int} (h : RangV w r o l done) {c : Nat} {cs : Array Value} {e : TypeId} {f : Nat × Nat} (hc : w.heap[c]? = some (.cells cs e f)) : c ≠ r := by
  obtain ⟨_, _, _, hi⟩ := h.iter
  intro e; subst e; rw [hc] at hi; cases hi
theorem RangV.nodup {w : World} {r : Nat} {o : Option Nat} {l : List (Int × Value)} {done : List Int} (h : RangV w r o l done) : done.Nodup := by
  cases o with
  | none => rw [h.2.2]; simp
  | some b =>
    obtain ⟨es, clock, since, seen, c0, ds, h1, h2, h3, h4, h5, h6, h7, h8, h9, h10⟩ := h
    exact h10
theorem RangV.sub {w : World} {r : Nat} {o : Option Nat} {l : List (Int × Value)} {done : List Int} (h : RangV w r o l done) : ∀ k ∈ done, k ∈ l.map (·.1) := by
  cases o with
  | none => rw [h.2.2]; simp
  | some b =>
    obtain ⟨es, clock, since, seen, c0, ds, h1, h2, h3, h4, h5, h6, h7, h8, h9, h10⟩ := h
    intro k hk
    have : Value.int .u64 k ∈ ds.map (·.key) := by rw [h8]; exact List.mem_map.2 ⟨k, hk, rfl⟩
    obtain ⟨d, hd, e⟩ := List.mem_map.1 this
    have h2' : (es.toList.map (fun e => (e.key, e.val))).map Prod.fst = (l.map (fun p => (Value.int .u64 p.1, p.2))).map Prod.fst := by rw [h2]
    simp only [List.map_map, Function.comp_def] at h2'
    have m : Value.int .u64 k ∈ l.map (fun p => Value.int .u64 p.1) := by rw [← h2']; exact List.mem_map.2 ⟨d, h9 d hd, e⟩
    obtain ⟨p, hp, e'⟩ := List.mem_map.1 m
    injection e' with _ e'
    exact List.mem_map.2 ⟨p, hp, e'⟩
theorem perm_of_sub {a b : List Int} (ha : a.Nodup) (hb : b.Nodup) (h1 : ∀ x ∈ a, x ∈ b) (h2 : ∀ x ∈ b, x ∈ a) : a.Perm b :=
  (List.perm_ext_iff_of_nodup ha hb).2 fun x => ⟨h1 x, h2 x⟩

section
variable {P : Program} {w : World} {l : List (Int × Value)}
/-- 'range m' -/
theorem run_range_v {t kt et : TypeId} {o : Option Nat} (h : MapV w o l) (hm : P.underlying t = some (.map kt et)) :
    ∃ w', (Instr.range t (.map o)).run P w = .ok (.pointer (some ⟨w.heap.size, 0, none⟩)) w' ∧ RangV w' w.heap.size o l [] ∧ Soft w w' (fun _ => False) ∧ w'.heap.size = w.heap.size + 1 := by
  cases o with
  | none =>
    refine ⟨w.alloc (.mapIter none 0 #[] 0), by simp [Instr.range, run_underlying hm, Result.andThen], ⟨(MapKept.heap_alloc w _).1, h, rfl⟩, soft_alloc w (by simp) _, by simp⟩
  | some b =>
    obtain ⟨es, clock, h1, h2, h3⟩ := h
    refine ⟨w.alloc (.mapIter (some b) clock #[] clock), by simp [Instr.range, run_underlying hm, MapKept.run_getObj_map h1, Result.andThen], ⟨es, clock, clock, #[], clock, [], ?_, h2, h3, (MapKept.heap_alloc w _).1, h3.1, ⟨Nat.le_refl _, Nat.le_refl _⟩, by simp, by simp, by simp, by simp⟩, soft_alloc w (by simp) _, by simp⟩
    rw [(MapKept.heap_alloc w _).2 b (Array.getElem?_eq_some_iff.1 h1).1]; exact h1

theorem run_next_v {r : Nat} {o : Option Nat} {done : List Int} (h : RangV w r o l done) (ty : TypeId) :
    (done.Perm (l.map (·.1)) ∧ (Instr.next (.pointer (some ⟨r, 0, none⟩)) false ty).run P w = .ok (.tuple #[.bool false]) w) ∨
    ∃ k v w', (k, v) ∈ l ∧ k ∉ done ∧ (Instr.next (.pointer (some ⟨r, 0, none⟩)) false ty).run P w = .ok (.tuple #[.bool true, .int .u64 k, v]) w' ∧ RangV w' r o l (done ++ [k]) ∧ Soft w w' (· = r) ∧ w'.heap.size = w.heap.size ∧
      (Instr.entry (.pointer (some ⟨r, 0, none⟩))).run P w' = .ok (.tuple #[.int .u64 k, v]) w' := by
  cases o with
  | none =>
    left
    obtain ⟨h1, h2, h3⟩ := h
    subst h2; subst h3
    exact ⟨by simp, by simp [Instr.next, getObj, Sem.run, h1, Result.andThen]⟩
  | some b =>
    obtain ⟨es, clock, since, seen, c0, ds, h1, h2, h3, h4, h5, h6, h7, h8, h9, h10⟩ := h
    have hkeys : es.toList.map (·.key) = l.map (fun p => Value.int .u64 p.1) := by
      have := congrArg (List.map Prod.fst) h2
      simpa [List.map_map, Function.comp_def] using this
    have hl : (l.map (·.1)).Nodup := MapB.keys (w := w) (b := b) ⟨es, clock, h1, h2, h3⟩
    have hborn : ∀ x ∈ es.toList, ∀ y ∈ es.toList, x.born = y.born → x = y := fun x hx y hy e => by
      obtain ⟨i, hi, rfl⟩ := List.getElem_of_mem hx
      obtain ⟨j, hj, rfl⟩ := List.getElem_of_mem hy
      have hi' : i < (es.toList.map (·.born)).length := by simpa using hi
      have g : (es.toList.map (·.born))[i]? = (es.toList.map (·.born))[j]? := by
        rw [List.getElem?_map, List.getElem?_map, List.getElem?_eq_getElem hi, List.getElem?_eq_getElem hj]
        simp only [Option.map_some]; rw [e]
      have := (List.getElem?_inj hi' h3.2.1).1 g
      subst this; rfl
    have hkey : ∀ x ∈ es.toList, ∀ y ∈ es.toList, x.key = y.key → x = y := fun x hx y hy e => by
      obtain ⟨i, hi, rfl⟩ := List.getElem_of_mem hx
      obtain ⟨j, hj, rfl⟩ := List.getElem_of_mem hy
      have hi' : i < (es.toList.map (·.key)).length := by simpa using hi
      have g : (es.toList.map (·.key))[i]? = (es.toList.map (·.key))[j]? := by
        rw [List.getElem?_map, List.getElem?_map, List.getElem?_eq_getElem hi, List.getElem?_eq_getElem hj]
        simp only [Option.map_some]; rw [e]
      have := (List.getElem?_inj hi' h3.2.2).1 g
      subst this; rfl
    have hsub := RangV.sub (w := w) (r := r) (o := some b) (l := l) (done := done) ⟨es, clock, since, seen, c0, ds, h1, h2, h3, h4, h5, h6, h7, h8, h9, h10⟩
    rcases run_next_at (P := P) w ty r b since c0 seen es clock h4 h1 h5 h6.1 with ⟨hz, hrun⟩ | ⟨e, he, w1, hw1, hrun⟩
    · left
      refine ⟨perm_of_sub h10 hl hsub ?_, hrun⟩
      intro k hk
      have : Value.int .u64 k ∈ es.toList.map (·.key) := by
        rw [hkeys]
        obtain ⟨p, hp, e⟩ := List.mem_map.1 hk
        exact List.mem_map.2 ⟨p, hp, by rw [← e]⟩
      obtain ⟨x, hx, ex⟩ := List.mem_map.1 this
      have hs : seen.contains x.born = true := by
        by_cases hc : seen.contains x.born = true
        · exact hc
        · exfalso
          have : x ∈ (leftOf es seen).toList := by
            unfold leftOf
            rw [Array.toList_filter, List.mem_filter]
            exact ⟨hx, by simpa using hc⟩
          have hpos : 0 < (leftOf es seen).toList.length := List.length_pos_of_mem this
          simp at hpos; omega
      have : x.born ∈ seen.toList := by simpa using hs
      rw [h7] at this
      obtain ⟨d, hd, ed⟩ := List.mem_map.1 this
      have := hborn d (h9 d hd) x hx ed
      subst this
      have m : d.key ∈ ds.map (·.key) := List.mem_map.2 ⟨d, hd, rfl⟩
      rw [h8, ex] at m
      obtain ⟨k', hk', e'⟩ := List.mem_map.1 m
      injection e' with _ e'
      subst e'; exact hk'
    · right
      have hmem : e ∈ es.toList ∧ seen.contains e.born = false := by
        unfold leftOf at he
        rw [Array.toList_filter, List.mem_filter] at he
        exact ⟨he.1, by simpa using he.2⟩
      have m : e.key ∈ l.map (fun p => Value.int .u64 p.1) := by rw [← hkeys]; exact List.mem_map.2 ⟨e, hmem.1, rfl⟩
      have mv : (e.key, e.val) ∈ l.map (fun p => (Value.int .u64 p.1, p.2)) := by rw [← h2]; exact List.mem_map.2 ⟨e, hmem.1, rfl⟩
      obtain ⟨⟨k, v⟩, hp, ep⟩ := List.mem_map.1 mv
      simp only [Prod.mk.injEq] at ep
      obtain ⟨ek, ev⟩ := ep
      have hnd : k ∉ done := by
        intro hk
        have : Value.int .u64 k ∈ ds.map (·.key) := by rw [h8]; exact List.mem_map.2 ⟨k, hk, rfl⟩
        obtain ⟨d, hd, ed⟩ := List.mem_map.1 this
        have := hkey d (h9 d hd) e hmem.1 (ed.trans ek)
        subst this
        have : d.born ∈ seen.toList := by rw [h7]; exact List.mem_map.2 ⟨d, hd, rfl⟩
        have h0 := hmem.2
        simp at this h0
        exact h0 this
      have hw1h : w1.heap = w.heap := by rcases hw1 with rfl | rfl <;> rfl
      have h4' : w1.heap[r]? = some (.mapIter (some b) since seen c0) := by rw [hw1h]; exact h4
      have hset := MapKept.heap_set (o' := .mapIter (some b) since (seen.push e.born) clock) h4'
      have hbr : b ≠ r := by intro e; subst e; rw [h1] at h4; cases h4
      have hb' : (setBlock w1 r (.mapIter (some b) since (seen.push e.born) clock)).heap[b]? = some (.map es clock) := by
        show (w1.heap.setIfInBounds r _)[b]? = _
        rw [hset.2 b hbr, hw1h]; exact h1
      have hr' : (setBlock w1 r (.mapIter (some b) since (seen.push e.born) clock)).heap[r]? = some (.mapIter (some b) since (seen.push e.born) clock) := hset.1
      refine ⟨k, v, _, hp, hnd, by rw [hrun, ← ek, ← ev], ⟨es, clock, since, _, clock, ds ++ [e], hb', h2, h3, hr', h5, ⟨h6.2, h6.2⟩, by simp [h7], by simp [h8, ← ek], ?_, ?_⟩, ⟨⟨?_, ?_, ?_, ?_, ?_⟩, ?_, ?_⟩, ?_, ?_⟩
      · intro d hd
        rcases List.mem_append.1 hd with hd | hd
        · exact h9 d hd
        · simp at hd; subst hd; exact hmem.1
      · rw [List.nodup_append]
        exact ⟨h10, by simp, fun a ha c hc e => by simp at hc; subst hc; subst e; exact hnd ha⟩
      · rcases hw1 with rfl | rfl <;> rfl
      · rcases hw1 with rfl | rfl <;> rfl
      · rcases hw1 with rfl | rfl <;> rfl
      · simp [setBlock, hw1h]
      · intro i hi hne
        show (w1.heap.setIfInBounds r _)[i]? = _
        rw [hset.2 i hne, hw1h]
      · intro a
        by_cases ea : a.block = r
        · rw [cell_no (w := w) (fun c e f hc => by rw [ea, h4] at hc; cases hc)]
          exact cell_no (fun c e f hc => by rw [ea, hr'] at hc; cases hc)
        · exact World.cell?_of_block (by show (w1.heap.setIfInBounds r _)[a.block]? = _; rw [hset.2 _ ea, hw1h])
      · intro a
        by_cases ea : a.block = r
        · rw [frozen_no (w := w) (fun c e f hc => by rw [ea, h4] at hc; cases hc)]
          exact frozen_no (fun c e f hc => by rw [ea, hr'] at hc; cases hc)
        · exact World.frozen?_of_block (by show (w1.heap.setIfInBounds r _)[a.block]? = _; rw [hset.2 _ ea, hw1h])
      · simp [setBlock, hw1h]
      · rw [run_entry_at _ r b since seen es clock e hr' hb' hmem.1 h3.2.1, ← ek, ← ev]
end

#print axioms run_update_v
#print axioms run_delete_v
end Go.Proofs.Ytcgccoigjcdjeaa
