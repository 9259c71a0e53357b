/- tracker.Config.Clone: the copy of a configuration. No condition. -/
import Derived.Test.YtcgccoigjcdjeaaConfD
namespace Go.Proofs.Ytcgccoigjcdjeaa
open Go.RowKit

theorem Chg.rule {w w' : World} (h : New w w') : ∀ a, (w.cell? a).isSome = true → w'.cell? a = w.cell? a := fun a ha => by
  obtain ⟨u, hu⟩ := Option.isSome_iff_exists.1 ha
  exact h.cell (World.block_lt_of_cell? w a hu) (by simp)
theorem block_drew {w : World} {b : Nat} {o : Obj} (h : w.heap[b]? = some o) : w.drew.heap[b]? = some o := h

/-- map blocks, each another -/
def blocksOf (l : List (Option Nat)) : List Nat := l.filterMap id
structure Cloned (w : World) (v0 v1 ln nx : Option Nat) (V0 V1 L N : List Int) (v0' v1' ln' nx' : Option Nat) (w' : World) : Prop where
  s0 : SetV w' v0' V0
  s1 : SetV w' v1' V1
  sl : SetV w' ln' L
  sn : SetV w' nx' N
  n0 : v0 = none ↔ v0' = none
  n1 : v1 = none ↔ v1' = none
  nl : ln = none ↔ ln' = none
  nn : nx = none ↔ nx' = none
  fresh : ∀ b ∈ blocksOf [v0', v1', ln', nx'], w.heap.size ≤ b
  apart : (blocksOf [v0', v1', ln', nx']).Nodup
  new : New w w'
def ClonedTo (w : World) (v0 v1 ln nx : Option Nat) (V0 V1 L N : List Int) (e : Ending) (w' : World) : Prop :=
  ∃ v0' v1' ln' nx', e = .returned (.agg #[.map v0', .map v1', .bool false, .map ln', .map nx']) ∧ Cloned w v0 v1 ln nx V0 V1 L N v0' v1' ln' nx' w'

set_option maxRecDepth 100000 in
set_option maxHeartbeats 1600000 in
theorem cfgclone_any (b : Nat) (v0 v1 ln nx : Option Nat) (V0 V1 L N : List Int) (w : World) (h0 : w.cell? ⟨b, 0, none⟩ = some (.map v0)) (h1 : w.cell? ⟨b, 1, none⟩ = some (.map v1)) (h3 : w.cell? ⟨b, 3, none⟩ = some (.map ln)) (h4 : w.cell? ⟨b, 4, none⟩ = some (.map nx))
    (s0 : SetV w v0 V0) (s1 : SetV w v1 V1) (sl : SetV w ln L) (sn : SetV w nx N) :
    Calls Try.prog 100 #[.pointer (some ⟨b, 0, none⟩)] w (ClonedTo w v0 v1 ln nx V0 V1 L N) := by
  have S0 := Lib.hid s0; have S1 := Lib.hid s1; have SL := Lib.hid sl; have SN := Lib.hid sn; clear s0 s1 sl sn
  have nb := World.new_ne w _ h0
  go_enter Try.func100, Try.ntmps100
  go_wp2_with fail
  go_region_held3 (fun w' => w'.cell? ⟨b, 0, none⟩ = some (.map v0) ∧ w'.cell? ⟨b, 1, none⟩ = some (.map v1) ∧ w'.cell? ⟨b, 3, none⟩ = some (.map ln) ∧ w'.cell? ⟨b, 4, none⟩ = some (.map nx)) (go_keep)
    (first
      | (go_at_call 114; ((with_reducible refine (clone1_any v0 V0 _ ((S0.out.alloc _).drew)).mono ?_); rintro e1 w1 ⟨a0, rfl, t0, m0, f0, n1⟩; have k1 := n1.rule))
      | (go_at_call 114; ((with_reducible refine (clone1_any v1 V1 _ (((S1.out.alloc _).drew).chg n1 (by simp))).mono ?_); rintro e2 w2 ⟨a1, rfl, t1, m1, f1, n2⟩; have k2 := n2.rule))
      | (go_at_call 114; ((with_reducible refine (clone1_any ln L _ ((((SL.out.alloc _).drew).chg n1 (by simp)).chg n2 (by simp))).mono ?_); rintro e3 w3 ⟨a3, rfl, t3, m3, f3, n3⟩; have k3 := n3.rule))
      | (go_at_call 114; ((with_reducible refine (clone1_any nx N _ (((((SN.out.alloc _).drew).chg n1 (by simp)).chg n2 (by simp)).chg n3 (by simp))).mono ?_); rintro e4 w4 ⟨a4, rfl, t4, m4, f4, n4⟩; have k4 := n4.rule; have HBK := n4.keeps (n3.keeps (n2.keeps (n1.keeps (block_drew (block_new w _)) (by simp)) (by simp)) (by simp)) (by simp); have r0 := cell_of_block (off := 0) HBK rfl; have r1 := cell_of_block (off := 1) HBK rfl; have r2 := cell_of_block (off := 2) HBK rfl; have r3 := cell_of_block (off := 3) HBK rfl; have r4 := cell_of_block (off := 4) HBK rfl; have z0 := free_of_block (off := 0) HBK; have z1 := free_of_block (off := 1) HBK; have z2 := free_of_block (off := 2) HBK; have z3 := free_of_block (off := 3) HBK; have z4 := free_of_block (off := 4) HBK; clear HBK)))
  rename_i hH
  clear hH k1 k2 k3 k4
  have hs1 := n1.size; have hs2 := n2.size; have hs3 := n3.size; have hs4 := n4.size
  simp only [World.size_alloc, World.size_drew] at hs1 f0
  have hnew : New w w4 := ((((Chg.alloc w _ _).then (Chg.drew _ _)).then n1).then n2 |>.then n3).then n4
  have hb0 : ∀ x, a0 = some x → x < w1.heap.size := fun x e => by subst e; exact t0.lt
  have hb1 : ∀ x, a1 = some x → x < w2.heap.size := fun x e => by subst e; exact t1.lt
  have hb3 : ∀ x, a3 = some x → x < w3.heap.size := fun x e => by subst e; exact t3.lt
  have hfresh : ∀ x ∈ blocksOf [a0, a1, a3, a4], w.heap.size ≤ x := by
    intro x hx
    simp only [blocksOf, List.mem_filterMap, List.mem_cons, List.not_mem_nil, or_false, id] at hx
    obtain ⟨a, ha, rfl⟩ := hx
    rcases ha with h | h | h | h
    · have := f0 x h.symm; omega
    · have := f1 x h.symm; omega
    · have := f3 x h.symm; omega
    · have := f4 x h.symm; omega
  have hapart : (blocksOf [a0, a1, a3, a4]).Nodup := by
    cases a0 <;> cases a1 <;> cases a3 <;> cases a4 <;> simp [blocksOf] at * <;> omega
  have hfin : Cloned w v0 v1 ln nx V0 V1 L N a0 a1 a3 a4 (((((w4.setCell ⟨w.heap.size, 0, none⟩ (.map a0)).setCell ⟨w.heap.size, 1, none⟩ (.map a1)).setCell ⟨w.heap.size, 2, none⟩ (.bool false)).setCell ⟨w.heap.size, 3, none⟩ (.map a3)).setCell ⟨w.heap.size, 4, none⟩ (.map a4)) := by
    have q0 : SetV w4 a0 V0 := ((t0.chg n2 (by simp)).chg n3 (by simp)).chg n4 (by simp)
    have q1 : SetV w4 a1 V1 := (t1.chg n3 (by simp)).chg n4 (by simp)
    have q3 : SetV w4 a3 L := t3.chg n4 (by simp)
    refine ⟨?_, ?_, ?_, ?_, m0, m1, m3, m4, hfresh, hapart, ?_⟩
    · exact ((((q0.setCell _ _).setCell _ _).setCell _ _).setCell _ _).setCell _ _
    · exact ((((q1.setCell _ _).setCell _ _).setCell _ _).setCell _ _).setCell _ _
    · exact ((((q3.setCell _ _).setCell _ _).setCell _ _).setCell _ _).setCell _ _
    · exact ((((t4.setCell _ _).setCell _ _).setCell _ _).setCell _ _).setCell _ _
    · have hc : ∀ (W : World) (j : Nat) (v : Value), New w W → New w (W.setCell ⟨w.heap.size, j, none⟩ v) := fun W j v h => h.trans (Chg.setCell W _ v (fun i => i = w.heap.size) (fun _ => rfl)) (fun _ _ h => h) (fun i hi e => by omega)
      exact hc _ _ _ (hc _ _ _ (hc _ _ _ (hc _ _ _ (hc _ _ _ hnew))))
  clear n1 n2 n3 n4 t0 t1 t3 t4 f0 f1 f3 f4 hb0 hb1 hb3 m0 m1 m3 m4 hs1 hs2 hs3 hs4 hfresh hapart hnew
  have HF := Lib.hid hfin; clear hfin
  go_wp2
  refine bodyPost_ret (v := .agg #[.map a0, .map a1, .bool false, .map a3, .map a4]) (by simp [results, Try.results100, go_sem, r0, r1, r2, r3, r4]) rfl ⟨a0, a1, a3, a4, rfl, HF.out⟩
end Go.Proofs.Ytcgccoigjcdjeaa
