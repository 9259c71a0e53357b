/- nilAwareAdd, nilAwareDelete: what they do to a set in a cell. No condition. -/
import Derived.Test.YtcgccoigjcdjeaaLaws
namespace Go.Proofs.Ytcgccoigjcdjeaa
open Go.RowKit

/-- a set that is nil just where it is empty -/
def NSet (w : World) (o : Option Nat) (s : List Int) : Prop := SetV w o s ∧ (o = none ↔ s = [])
/-- what a step on the set in the cell at (mb, mo) leaves -/
structure CellSet (w : World) (mb mo : Nat) (cs : Array Value) (et : TypeId) (o : Option Nat) (s' : List Int) (o' : Option Nat) (w' : World) : Prop where
  block : w'.heap[mb]? = some (.cells (cs.setIfInBounds mo (.map o')) et (0, 0))
  set : NSet w' o' s'
  own : o' = o ∨ o' = none ∨ (o = none ∧ o' = some w.heap.size)
  chg : Chg w w' (fun i => i = mb ∨ o = some i)
def CellSetTo (w : World) (mb mo : Nat) (cs : Array Value) (et : TypeId) (o : Option Nat) (s' : List Int) (w' : World) : Prop := ∃ o', CellSet w mb mo cs et o s' o' w'

theorem ins_ne_nil (s : List Int) (k : Int) : ins s k ≠ [] := fun h => by
  have : k ∈ ins s k := mem_ins.2 (.inr rfl)
  rw [h] at this; cases this
theorem set_same {cs : Array Value} {mo : Nat} {v : Value} (h : cs[mo]? = some v) : cs.setIfInBounds mo v = cs := by
  apply Array.ext_getElem?
  intro i
  rw [Array.getElem?_setIfInBounds]
  split
  · rename_i e; subst e
    split
    · exact h.symm
    · rename_i hn; exact absurd (Array.getElem?_eq_some_iff.1 h).1 hn
  · rfl

set_option maxRecDepth 100000 in
theorem add_any (mb mo : Nat) (cs : Array Value) (et : TypeId) (o : Option Nat) (s : List Int) (k : Int) (w : World) (hb : w.heap[mb]? = some (.cells cs et (0, 0))) (hc : cs[mo]? = some (.map o)) (hs : NSet w o s) :
    Calls Try.prog 85 #[.pointer (some ⟨mb, mo, none⟩), .int .u64 k] w fun e w' => e = .returned (.tuple #[]) ∧ CellSetTo w mb mo cs et o (ins s k) w' := by
  have c0 := cell_of_block hb hc
  have f0 := free_of_block (off := mo) hb
  have n0 := World.new_ne w ⟨mb, mo, none⟩ c0
  have HB := Lib.hid hb; have HC := Lib.hid hc; have HS := Lib.hid hs; clear hb hc hs
  cases o with
  | none =>
    go_enter Try.func85, Try.ntmps85
    go_wp2_with (at_mapUpdate; refine set_update rfl _ _ _ _ rfl mt69 rfl ((SetV.made w).setCell _ _) rfl rfl ?_; intro w1 h1 s1 z1)
    go_end0
    have hb := HB.out
    have hs : s = [] := (HS.out).1.none_nil
    subst hs
    have hne : mb ≠ w.heap.size := Nat.ne_of_lt (lt_of_block hb)
    refine ⟨rfl, some w.heap.size, ?_, ⟨h1, by simp [ins_ne_nil]⟩, .inr (.inr ⟨rfl, rfl⟩), ?_⟩
    · exact s1.chg.keeps (block_setCell (block_alloc hb _) _) hne
    · refine ((Chg.alloc w _ _).then (Chg.setCell _ _ _ _ (fun _ => .inl rfl))).trans s1.chg (fun _ _ h => h) (fun i hi e => ?_)
      subst e; omega
  | some b =>
    go_enter Try.func85, Try.ntmps85
    go_wp2_with (at_mapUpdate; refine set_update rfl _ _ _ _ rfl mt69 rfl HS.out.1 rfl rfl ?_; intro w1 h1 s1 z1)
    go_end0
    have hb := HB.out
    have hne : mb ≠ b := HS.out.1.ne_cells hb
    refine ⟨rfl, some b, ?_, ⟨h1, by simp [ins_ne_nil]⟩, .inl rfl, s1.chg.mono (fun i _ e => .inr (by rw [e]))⟩
    rw [set_same HC.out]
    exact s1.chg.keeps hb hne

set_option maxRecDepth 100000 in
theorem delete_any (mb mo : Nat) (cs : Array Value) (et : TypeId) (o : Option Nat) (s : List Int) (k : Int) (w : World) (hb : w.heap[mb]? = some (.cells cs et (0, 0))) (hc : cs[mo]? = some (.map o)) (hs : NSet w o s) :
    Calls Try.prog 116 #[.pointer (some ⟨mb, mo, none⟩), .int .u64 k] w fun e w' => e = .returned (.tuple #[]) ∧ CellSetTo w mb mo cs et o (out s k) w' := by
  have c0 := cell_of_block hb hc
  have f0 := free_of_block (off := mo) hb
  have HB := Lib.hid hb; have HC := Lib.hid hc; have HS := Lib.hid hs; clear hb hc hs
  cases o with
  | none =>
    go_enter Try.func116, Try.ntmps116
    go_wp2
    have hs : s = [] := (HS.out).1.none_nil
    subst hs
    refine bodyPost_ret (results_none rfl _ _ _) rfl ?_
    refine ⟨rfl, none, ?_, ⟨SetV.nil w, by simp [out]⟩, .inl rfl, Chg.refl _ _⟩
    rw [set_same HC.out]
    exact HB.out
  | some b =>
    by_cases h0 : (out s k).length = 0
    · go_enter Try.func116, Try.ntmps116
      go_wp2_with (first | (at_delete; refine set_delete rfl _ _ _ rfl mt69 rfl HS.out.1 rfl ?_; intro w1 h1 s1 z1; have c1 := s1.cell ⟨mb, mo, none⟩; have f1 := s1.frozen ⟨mb, mo, none⟩) | (at_len; refine set_len rfl _ _ rfl mt69 rfl h1 ?_))
      go_end0
      have hb := HB.out
      have hne : mb ≠ b := HS.out.1.ne_cells hb
      refine ⟨rfl, none, block_setCell (s1.chg.keeps hb hne) _, ⟨?_, by simpa using h0⟩, .inr (.inl rfl), ?_⟩
      · rw [List.eq_nil_of_length_eq_zero h0]; exact SetV.nil _
      · exact s1.chg.trans (Chg.setCell _ _ _ (fun i => i = mb) (fun _ => rfl)) (fun _ _ e => .inr (by rw [e])) (fun _ _ e => .inl e)
    · have hp : 0 < (out s k).length := by omega
      have hp' : (((out s k).length : Int) == 0) = false := by simp; simpa using h0
      clear h0
      go_enter Try.func116, Try.ntmps116
      go_wp2_with (first | (at_delete; refine set_delete rfl _ _ _ rfl mt69 rfl HS.out.1 rfl ?_; intro w1 h1 s1 z1; have c1 := s1.cell ⟨mb, mo, none⟩; have f1 := s1.frozen ⟨mb, mo, none⟩) | (at_len; refine set_len rfl _ _ rfl mt69 rfl h1 ?_))
      go_end0
      have hb := HB.out
      have hne : mb ≠ b := HS.out.1.ne_cells hb
      refine ⟨rfl, some b, ?_, ⟨h1, by constructor <;> intro h <;> simp_all⟩, .inl rfl, s1.chg.mono (fun i _ e => .inr (by rw [e]))⟩
      rw [set_same HC.out]
      exact s1.chg.keeps hb hne
end Go.Proofs.Ytcgccoigjcdjeaa
