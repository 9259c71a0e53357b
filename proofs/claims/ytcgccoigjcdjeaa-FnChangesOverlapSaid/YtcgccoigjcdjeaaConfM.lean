/- confchange.Changer.Simple over a sound configuration. Condition: the kinds 0, 1, 3; fewer than a million members and changes. -/
import Derived.Test.YtcgccoigjcdjeaaConfL
namespace Go.Proofs.Ytcgccoigjcdjeaa
open Go.RowKit

abbrev noCfg : Value := .agg #[.map none, .map none, .bool false, .map none, .map none]
def ErrR (e : Ending) : Prop := ∃ s, e = .returned (.tuple #[noCfg, .map none, .iface 130 (.string s)])
/-- a configuration and its progress map, handed back -/
def Good (w : World) (al : Bool) (V0 V1 L N : List Int) (e : Ending) : Prop :=
  ∃ v0 v1 ln nx tk T, e = .returned (.tuple #[.agg #[.map v0, .map v1, .bool al, .map ln, .map nx], .map (some tk), .nilIface]) ∧ CfgV w v0 v1 ln nx V0 V1 L N ∧ v0 ≠ none ∧ TrkV w (some tk) T ∧ Inv V0 V1 L N T

theorem incoming_any (a b : Option Nat) (w : World) : Calls Try.prog 81 #[.agg #[.map a, .map b]] w fun e w' => e = .returned (.map a) ∧ New w w' := by
  go_enter Try.func81, Try.ntmps81
  go_wp2
  go_ret
  exact ⟨rfl, Chg.alloc _ _ _⟩
theorem err_any (v0 v1 ln nx tk vt : Option Nat) (al : Bool) (s : ByteArray) (w : World) : Calls Try.prog 77 #[chgOf v0 v1 al ln nx tk vt, .iface 130 (.string s)] w fun e w' => e = .returned (.tuple #[noCfg, .map none, .iface 130 (.string s)]) ∧ New w w' := by
  unfold chgOf
  go_enter Try.func77, Try.ntmps77
  go_wp2
  refine bodyPost_ret (v := .tuple #[noCfg, .map none, .iface 130 (.string s)]) (by simp [results, Try.results77, go_sem]) rfl ⟨rfl, (Chg.alloc _ _ _).then (Chg.alloc _ _ _)⟩
/-- a struct of five cells is stored -/
abbrev set5 (w : World) (r : Nat) (a b c d e : Value) : World := ((((w.setCell ⟨r, 0, none⟩ a).setCell ⟨r, 1, none⟩ b).setCell ⟨r, 2, none⟩ c).setCell ⟨r, 3, none⟩ d).setCell ⟨r, 4, none⟩ e
theorem set5_block {w : World} {r : Nat} {x0 x1 x2 x3 x4 : Value} (h : w.heap[r]? = some (.cells #[x0, x1, x2, x3, x4] 85 (0, 0))) (a b c d e : Value) : (set5 w r a b c d e).heap[r]? = some (.cells #[a, b, c, d, e] 85 (0, 0)) := by
  have := block_setCell (off := 4) (block_setCell (off := 3) (block_setCell (off := 2) (block_setCell (off := 1) (block_setCell (off := 0) h a) b) c) d) e
  simpa using this
theorem set5_chg (w : World) (r : Nat) (a b c d e : Value) : Chg w (set5 w r a b c d e) (fun x => x = r) := by
  have h : ∀ (W : World) (j : Nat) (v : Value), Chg W (W.setCell ⟨r, j, none⟩ v) (fun x => x = r) := fun W j v => Chg.setCell W _ v _ (fun _ => rfl)
  exact ((((h w 0 a).then (h _ 1 b)).then (h _ 2 c)).then (h _ 3 d)).then (h _ 4 e)
theorem set5_new {w0 w : World} {r : Nat} (h : New w0 w) (hr : w0.heap.size ≤ r) (a b c d e : Value) : New w0 (set5 w r a b c d e) :=
  h.trans (set5_chg w r a b c d e) (fun _ _ h => h) (fun i hi e => by omega)
theorem SetV.set5 {w : World} {o : Option Nat} {s : List Int} (h : SetV w o s) (r : Nat) (a b c d e : Value) : SetV (set5 w r a b c d e) o s :=
  ((((h.setCell _ _).setCell _ _).setCell _ _).setCell _ _).setCell _ _
theorem Good.set5 {w : World} {v0 v1 ln nx : Option Nat} {tk : Nat} {V0 V1 L N : List Int} {T : List (Int × Nat × Bool)} (hc : CfgV w v0 v1 ln nx V0 V1 L N) (h0 : v0 ≠ none) (ht : TrkV w (some tk) T) (hi : Inv V0 V1 L N T) (al : Bool) {r : Nat} {cs : Array Value} (hr : w.heap[r]? = some (.cells cs 85 (0, 0))) (a b c d e : Value) :
    Good (set5 w r a b c d e) al V0 V1 L N (.returned (.tuple #[.agg #[.map v0, .map v1, .bool al, .map ln, .map nx], .map (some tk), .nilIface])) :=
  ⟨v0, v1, ln, nx, tk, T, rfl, ⟨hc.s0.set5 _ _ _ _ _ _, ⟨hc.s1.1.set5 _ _ _ _ _ _, hc.s1.2⟩, ⟨hc.sl.1.set5 _ _ _ _ _ _, hc.sl.2⟩, ⟨hc.sn.1.set5 _ _ _ _ _ _, hc.sn.2⟩⟩, h0,
    ht.chg (set5_chg w r a b c d e) (fun i e1 e2 => by cases e1; subst e2; exact MapB.ne_cells ht.map hr rfl) (fun t ht' e1 => by obtain ⟨q, hq⟩ := ht.prog t ht'; rw [e1, hr] at hq; cases hq), hi⟩
theorem Sound.parts {w : World} {F : Nat → Prop} {cb b0 : Nat} {al : Bool} {v1 : Option Nat} {tk : Nat} {V1 V0 L N : List Int} (h : Sound w F cb b0 al v1 tk V1 V0 L N) :
    ∃ ln nx T, w.heap[cb]? = some (.cells #[.map (some b0), .map v1, .bool al, .map ln, .map nx] 85 (0, 0)) ∧ CfgV w (some b0) v1 ln nx V0 V1 L N ∧ TrkV w (some tk) T ∧ Inv V0 V1 L N T := by
  obtain ⟨ln, nx, T, hr, hi⟩ := h
  exact ⟨ln, nx, T, hr.blk, ⟨hr.s0, hr.s1, hr.sl, hr.sn⟩, hr.trk, hi⟩
/-- a copy, laid into a block of its own -/
theorem St.sound {w : World} {B : Nat} {v0 v1 ln nx : Option Nat} {tk : Nat} {V0 V1 L N : List Int} {T : List (Int × Nat × Bool)} (h : St w B v0 v1 ln nx tk V0 V1 L N T) (hB : B ≤ w.heap.size) (al : Bool) :
    ∃ b0, v0 = some b0 ∧ Sound (w.alloc (.cells #[.map v0, .map v1, .bool al, .map ln, .map nx] 85)) (fun i => B ≤ i) w.heap.size b0 al v1 tk V1 V0 L N := by
  cases v0 with
  | none => exact absurd rfl h.some0
  | some b0 =>
    have h' := h.new (Chg.alloc w (.cells #[.map (some b0), .map v1, .bool al, .map ln, .map nx] 85) _)
    exact ⟨b0, rfl, ln, nx, T, ⟨block_new w _, h'.cfg.s0, h'.cfg.s1, h'.cfg.sl, h'.cfg.sn, h'.trk, fun b hb => h.fresh b (mem_blocks.2 hb), h.apart, h.pfresh, hB, fun i hi => by simp at hi; omega⟩, h.inv⟩

def Simpled (w : World) (V0 V1 L N : List Int) (l : List (Int × Int)) (e : Ending) (w' : World) : Prop :=
  New w w' ∧ ((V1 = [] ∧ (foldC [] (V0, L, N) l).1 ≠ [] ∧ cnt V0 (foldC [] (V0, L, N) l).1 + cnt (foldC [] (V0, L, N) l).1 V0 ≤ 1 ∧ Good w' false (foldC [] (V0, L, N) l).1 [] (foldC [] (V0, L, N) l).2.1 (foldC [] (V0, L, N) l).2.2 e) ∨
    (¬ (V1 = [] ∧ (foldC [] (V0, L, N) l).1 ≠ [] ∧ cnt V0 (foldC [] (V0, L, N) l).1 + cnt (foldC [] (V0, L, N) l).1 V0 ≤ 1) ∧ ErrR e))

set_option maxRecDepth 100000 in
set_option maxHeartbeats 1600000 in
theorem simple_joint (v0 v1 ln nx tk vt : Option Nat) (al : Bool) (V0 V1 L N : List Int) (T : List (Int × Nat × Bool)) (sv : Value) (l : List (Int × Int)) (w : World)
    (hc : CfgV w v0 v1 ln nx V0 V1 L N) (h0 : v0 ≠ none) (ht : TrkV w tk T) (hi : Inv V0 V1 L N T) (hV : V1 ≠ []) :
    Calls Try.prog 53 #[chgOf v0 v1 al ln nx tk vt, sv] w (Simpled w V0 V1 L N l) := by
  have hcf : ∀ o1 o2, CfgV ((w.alloc o1).alloc o2) v0 v1 ln nx V0 V1 L N := fun o1 o2 => ⟨(hc.s0.alloc _).alloc _, ⟨(hc.s1.1.alloc _).alloc _, hc.s1.2⟩, ⟨(hc.sl.1.alloc _).alloc _, hc.sl.2⟩, ⟨(hc.sn.1.alloc _).alloc _, hc.sn.2⟩⟩
  have HC := Lib.hid hcf; have HT := Lib.hid ht; have HI := Lib.hid hi; have H0 := Lib.hid h0; have HV := Lib.hid hV; clear hc hcf ht hi h0 hV
  unfold chgOf
  go_enter Try.func53, Try.ntmps53
  go_wp2_with fail
  refine (copy_any v0 v1 ln nx tk vt al V0 V1 L N T _ (HC.out _ _) H0.out ((HT.out.alloc _).alloc _) HI.out).mono ?_
  rintro e w1 ⟨a0, a1, a3, a4, tk1, T1, rfl, hst, hn1⟩
  have hs2 : SetV (w1.alloc (.cells #[.map a0, .map a1, .bool false, .map a3, .map a4] 85)) a1 V1 := hst.cfg.s1.1.alloc _
  have hbox := hn1.keeps (block_alloc (block_new w _) _) (by simp)
  have hres := hn1.keeps (block_new1 w _ _) (by simp)
  have hn2 : New w w1 := ((Chg.alloc w _ _).then (Chg.alloc _ _ _)).then hn1
  have HS2 := Lib.hid hs2; have HBOX := Lib.hid hbox; have HRES := Lib.hid hres; have HN2 := Lib.hid hn2
  clear hst hn1 hs2 hbox hres hn2
  have b0' : w1.cell? ⟨w.heap.size, 0, none⟩ = some (.map v0) := cell_of_block HBOX.out rfl
  have b1' : w1.cell? ⟨w.heap.size, 1, none⟩ = some (.map v1) := cell_of_block HBOX.out rfl
  have b2' : w1.cell? ⟨w.heap.size, 2, none⟩ = some (.bool al) := cell_of_block HBOX.out rfl
  have b3' : w1.cell? ⟨w.heap.size, 3, none⟩ = some (.map ln) := cell_of_block HBOX.out rfl
  have b4' : w1.cell? ⟨w.heap.size, 4, none⟩ = some (.map nx) := cell_of_block HBOX.out rfl
  have b5' : w1.cell? ⟨w.heap.size, 5, none⟩ = some (.map tk) := cell_of_block HBOX.out rfl
  have b6' : w1.cell? ⟨w.heap.size, 6, none⟩ = some (.map vt) := cell_of_block HBOX.out rfl
  have b7' : w1.cell? ⟨w.heap.size, 7, none⟩ = some (.int .i64 10) := cell_of_block HBOX.out rfl
  have b8' : w1.cell? ⟨w.heap.size, 8, none⟩ = some (.int .u64 0) := cell_of_block HBOX.out rfl
  have b9' : w1.cell? ⟨w.heap.size, 9, none⟩ = some (.int .u64 1) := cell_of_block HBOX.out rfl
  go_wp2_with (first
    | (go_at_call 78; refine (joint_any a0 a1 a3 a4 false V1 true _ HS2.out (by simpa using HV.out)).mono ?_; rintro e w2 ⟨rfl, n2⟩; have k2 := n2.rule)
    | (go_at_call 77; refine (err_any v0 v1 ln nx tk vt al _ _).mono ?_; rintro e w3 ⟨rfl, n3⟩; have HBK := n3.keeps (n2.keeps (block_alloc HRES.out _) (by simp)) (by simp); have r0 := cell_of_block (off := 0) HBK rfl; have r1 := cell_of_block (off := 1) HBK rfl; have r2 := cell_of_block (off := 2) HBK rfl; have r3 := cell_of_block (off := 3) HBK rfl; have r4 := cell_of_block (off := 4) HBK rfl; have z0 := free_of_block (off := 0) HBK; have z1 := free_of_block (off := 1) HBK; have z2 := free_of_block (off := 2) HBK; have z3 := free_of_block (off := 3) HBK; have z4 := free_of_block (off := 4) HBK; clear HBK))
  have hn3 : New w w3 := ((HN2.out.then (Chg.alloc _ _ _)).then n2).then n3
  clear n2 n3 k2
  refine bodyPost_ret (v := ?v) ?h1 rfl ?h2
  case h1 =>
    simp [results, Try.results53, go_sem, r0, r1, r2, r3, r4]
    rfl
  case h2 => exact ⟨set5_new hn3 (by omega) _ _ _ _ _, .inr ⟨fun h => HV.out h.1, _, rfl⟩⟩
end Go.Proofs.Ytcgccoigjcdjeaa
