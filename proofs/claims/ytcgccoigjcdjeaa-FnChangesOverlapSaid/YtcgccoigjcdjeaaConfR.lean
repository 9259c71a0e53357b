/- The three closures of confchange.Restore, ConfState.GetAutoLeave. Condition: fewer than 300000 members and changes. -/
import Derived.Test.YtcgccoigjcdjeaaConfQ
namespace Go.Proofs.Ytcgccoigjcdjeaa
open Go.RowKit

theorem simple_any (v0 v1 ln nx tk vt : Option Nat) (al : Bool) (V0 V1 L N : List Int) (T : List (Int × Nat × Bool)) (sv : Value) (l : List (Int × Int)) (w : World)
    (hc : CfgV w v0 v1 ln nx V0 V1 L N) (h0 : v0 ≠ none) (ht : TrkV w tk T) (hi : Inv V0 V1 L N T) (hl : Ccs w (fun i => w.heap.size ≤ i) sv l) (hk : ∀ x ∈ l, x.1 = 0 ∨ x.1 = 1 ∨ x.1 = 3) (hn : V0.length + l.length ≤ 400000) :
    Calls Try.prog 53 #[chgOf v0 v1 al ln nx tk vt, sv] w (Simpled w V0 V1 L N l) := by
  by_cases hV : V1 = []
  · subst hV; exact simple_plain v0 v1 ln nx tk vt al V0 L N T sv l w hc h0 ht hi hl hk hn
  · exact simple_joint v0 v1 ln nx tk vt al V0 V1 L N T sv l w hc h0 ht hi hV
theorem Entered.good {w : World} {auto : Bool} {V0 V1 L N : List Int} {l : List (Int × Int)} {e : Ending} {w' : World} (h : Entered w auto V0 V1 L N l e w') (hp : V1 = [] ∧ V0 ≠ [] ∧ (foldC V0 (V0, L, N) l).1 ≠ []) : Good w' auto (foldC V0 (V0, L, N) l).1 V0 (foldC V0 (V0, L, N) l).2.1 (foldC V0 (V0, L, N) l).2.2 e ∧ New w w' := by
  obtain ⟨hn, h | h⟩ := h
  · exact ⟨h.2.2.2, hn⟩
  · exact absurd hp h.1
theorem Entered.bad {w : World} {auto : Bool} {V0 V1 L N : List Int} {l : List (Int × Int)} {e : Ending} {w' : World} (h : Entered w auto V0 V1 L N l e w') (hp : ¬ (V1 = [] ∧ V0 ≠ [] ∧ (foldC V0 (V0, L, N) l).1 ≠ [])) : ErrR e ∧ New w w' := by
  obtain ⟨hn, h | h⟩ := h
  · exact absurd ⟨h.1, h.2.1, h.2.2.1⟩ hp
  · exact ⟨h.2, hn⟩
theorem getauto_any (cb : Nat) (al : Bool) (w : World) (h : w.cell? ⟨cb, 4, none⟩ = some (.bool al)) : Calls Try.prog 74 #[.pointer (some ⟨cb, 0, none⟩)] w fun e w' => e = .returned (.bool al) ∧ w = w' := by
  go_enter Try.func74, Try.ntmps74
  go_wp2
  go_ret
  exact ⟨rfl, rfl⟩

set_option maxRecDepth 100000 in
set_option maxHeartbeats 1600000 in
theorem one71_any (v0 v1 ln nx tk vt : Option Nat) (al : Bool) (V0 V1 L N : List Int) (T : List (Int × Nat × Bool)) (pb p : Nat) (x : Int × Int) (w : World)
    (hc : CfgV w v0 v1 ln nx V0 V1 L N) (h0 : v0 ≠ none) (ht : TrkV w tk T) (hi : Inv V0 V1 L N T) (hp : w.cell? ⟨pb, 0, none⟩ = some (.pointer (some ⟨p, 0, none⟩))) (hx0 : w.cell? ⟨p, 0, none⟩ = some (.int .i32 x.1)) (hx1 : w.cell? ⟨p, 1, none⟩ = some (.int .u64 x.2)) (hk : x.1 = 0 ∨ x.1 = 1 ∨ x.1 = 3) (hn : V0.length ≤ 300000) :
    Calls Try.prog 71 #[chgOf v0 v1 al ln nx tk vt, .pointer (some ⟨pb, 0, none⟩)] w (Simpled w V0 V1 L N [x]) := by
  have hlp : p < w.heap.size := World.block_lt_of_cell? w _ hx0
  have n3 : ∀ o1 o2 o3, New w (((w.alloc o1).alloc o2).alloc o3) := fun o1 o2 o3 => ((Chg.alloc w _ _).then (Chg.alloc _ _ _)).then (Chg.alloc _ _ _)
  have hccs : ∀ o1 o2, Ccs (((w.alloc o1).alloc o2).alloc (.cells #[.pointer (some ⟨p, 0, none⟩)] 101)) (fun i => (((w.alloc o1).alloc o2).alloc (.cells #[.pointer (some ⟨p, 0, none⟩)] 101)).heap.size ≤ i) (.slice (some ⟨w.heap.size + 1 + 1, 0, none⟩) 1 1) [x] := fun o1 o2 => by
    refine ⟨_, 1, rfl, fun i hi => ?_⟩
    have : i = 0 := by simp at hi; exact hi
    subst this
    refine ⟨w.heap.size + 1 + 1, 0, p, rfl, by simp, by simp; omega, by simp, by simp; omega, cell_of_block (block_new2 w _ _ _) rfl, ((n3 _ _ _).cell (p := ⟨p, 0, none⟩) hlp (by simp)).trans hx0, ((n3 _ _ _).cell (p := ⟨p, 1, none⟩) hlp (by simp)).trans hx1⟩
  have HC := Lib.hid hc; have HT := Lib.hid ht; have HI := Lib.hid hi; have H0 := Lib.hid h0; have HCC := Lib.hid hccs; have HK := Lib.hid hk; have HN := Lib.hid hn; have HN3 := Lib.hid n3
  clear hc ht hi h0 hccs hk hn n3 hx0 hx1 hlp
  unfold chgOf
  go_enter Try.func71, Try.ntmps71
  go_wp2_with fail
  refine (simple_any v0 v1 ln nx tk vt al V0 V1 L N T _ [x] _ ⟨HC.out.s0.chg (HN3.out _ _ _) (by simp), ⟨HC.out.s1.1.chg (HN3.out _ _ _) (by simp), HC.out.s1.2⟩, ⟨HC.out.sl.1.chg (HN3.out _ _ _) (by simp), HC.out.sl.2⟩, ⟨HC.out.sn.1.chg (HN3.out _ _ _) (by simp), HC.out.sn.2⟩⟩ H0.out (HT.out.new (HN3.out _ _ _)) HI.out (HCC.out _ _) (by intro y hy; simp at hy; subst hy; exact HK.out) (by have h1 := HN.out; simp; omega)).mono ?_
  rintro e w1 ⟨hn1, hres⟩
  have hbk := hn1.keeps (block_alloc (block_new1 w _ _) _) (by simp)
  have hnw : New w w1 := (HN3.out _ _ _).then hn1
  have HBK := Lib.hid hbk; have HNW := Lib.hid hnw; have HRES := Lib.hid hres
  clear hbk hnw hn1 hres
  have r0 := cell_of_block (off := 0) HBK.out rfl; have r1 := cell_of_block (off := 1) HBK.out rfl; have r2 := cell_of_block (off := 2) HBK.out rfl; have r3 := cell_of_block (off := 3) HBK.out rfl; have r4 := cell_of_block (off := 4) HBK.out rfl
  have z0 := free_of_block (off := 0) HBK.out; have z1 := free_of_block (off := 1) HBK.out; have z2 := free_of_block (off := 2) HBK.out; have z3 := free_of_block (off := 3) HBK.out; have z4 := free_of_block (off := 4) HBK.out
  rcases HRES.out with ⟨c1, c2, c3, b0, b1, bl, bn, bt, BT, rfl, g1, g2, g3, g4⟩ | ⟨hc, s, rfl⟩
  · have G1 := Lib.hid g1; have G2 := Lib.hid g2; have G3 := Lib.hid g3; have G4 := Lib.hid g4; have C := Lib.hid (And.intro c1 (And.intro c2 c3))
    clear g1 g2 g3 g4 c1 c2 c3 HRES
    go_wp2_with fail
    refine bodyPost_ret (v := ?_) ?_ rfl ?_
    rotate_left 1
    · simp [results, Try.results71, go_sem, r0, r1, r2, r3, r4]
      rfl
    exact ⟨set5_new HNW.out (by omega) _ _ _ _ _, .inl ⟨C.out.1, C.out.2.1, C.out.2.2, Good.set5 G1.out G2.out G3.out G4.out _ HBK.out _ _ _ _ _⟩⟩
  · have C := Lib.hid hc
    clear hc HRES
    go_wp2_with fail
    refine bodyPost_ret (v := ?_) ?_ rfl ?_
    rotate_left 1
    · simp [results, Try.results71, go_sem, r0, r1, r2, r3, r4]
      rfl
    exact ⟨set5_new HNW.out (by omega) _ _ _ _ _, .inr ⟨C.out, _, rfl⟩⟩

set_option maxRecDepth 100000 in
set_option maxHeartbeats 1600000 in
theorem one72_any (v0 v1 ln nx tk vt : Option Nat) (al : Bool) (V0 V1 L N : List Int) (T : List (Int × Nat × Bool)) (pb p : Nat) (x : Int × Int) (w : World)
    (hc : CfgV w v0 v1 ln nx V0 V1 L N) (h0 : v0 ≠ none) (ht : TrkV w tk T) (hi : Inv V0 V1 L N T) (hp : w.cell? ⟨pb, 0, none⟩ = some (.pointer (some ⟨p, 0, none⟩))) (hx0 : w.cell? ⟨p, 0, none⟩ = some (.int .i32 x.1)) (hx1 : w.cell? ⟨p, 1, none⟩ = some (.int .u64 x.2)) (hk : x.1 = 0 ∨ x.1 = 1 ∨ x.1 = 3) (hn : V0.length ≤ 300000) :
    Calls Try.prog 72 #[chgOf v0 v1 al ln nx tk vt, .pointer (some ⟨pb, 0, none⟩)] w (Simpled w V0 V1 L N [x]) := by
  have hlp : p < w.heap.size := World.block_lt_of_cell? w _ hx0
  have n3 : ∀ o1 o2 o3, New w (((w.alloc o1).alloc o2).alloc o3) := fun o1 o2 o3 => ((Chg.alloc w _ _).then (Chg.alloc _ _ _)).then (Chg.alloc _ _ _)
  have hccs : ∀ o1 o2, Ccs (((w.alloc o1).alloc o2).alloc (.cells #[.pointer (some ⟨p, 0, none⟩)] 101)) (fun i => (((w.alloc o1).alloc o2).alloc (.cells #[.pointer (some ⟨p, 0, none⟩)] 101)).heap.size ≤ i) (.slice (some ⟨w.heap.size + 1 + 1, 0, none⟩) 1 1) [x] := fun o1 o2 => by
    refine ⟨_, 1, rfl, fun i hi => ?_⟩
    have : i = 0 := by simp at hi; exact hi
    subst this
    refine ⟨w.heap.size + 1 + 1, 0, p, rfl, by simp, by simp; omega, by simp, by simp; omega, cell_of_block (block_new2 w _ _ _) rfl, ((n3 _ _ _).cell (p := ⟨p, 0, none⟩) hlp (by simp)).trans hx0, ((n3 _ _ _).cell (p := ⟨p, 1, none⟩) hlp (by simp)).trans hx1⟩
  have HC := Lib.hid hc; have HT := Lib.hid ht; have HI := Lib.hid hi; have H0 := Lib.hid h0; have HCC := Lib.hid hccs; have HK := Lib.hid hk; have HN := Lib.hid hn; have HN3 := Lib.hid n3
  clear hc ht hi h0 hccs hk hn n3 hx0 hx1 hlp
  unfold chgOf
  go_enter Try.func72, Try.ntmps72
  go_wp2_with fail
  refine (simple_any v0 v1 ln nx tk vt al V0 V1 L N T _ [x] _ ⟨HC.out.s0.chg (HN3.out _ _ _) (by simp), ⟨HC.out.s1.1.chg (HN3.out _ _ _) (by simp), HC.out.s1.2⟩, ⟨HC.out.sl.1.chg (HN3.out _ _ _) (by simp), HC.out.sl.2⟩, ⟨HC.out.sn.1.chg (HN3.out _ _ _) (by simp), HC.out.sn.2⟩⟩ H0.out (HT.out.new (HN3.out _ _ _)) HI.out (HCC.out _ _) (by intro y hy; simp at hy; subst hy; exact HK.out) (by have h1 := HN.out; simp; omega)).mono ?_
  rintro e w1 ⟨hn1, hres⟩
  have hbk := hn1.keeps (block_alloc (block_new1 w _ _) _) (by simp)
  have hnw : New w w1 := (HN3.out _ _ _).then hn1
  have HBK := Lib.hid hbk; have HNW := Lib.hid hnw; have HRES := Lib.hid hres
  clear hbk hnw hn1 hres
  have r0 := cell_of_block (off := 0) HBK.out rfl; have r1 := cell_of_block (off := 1) HBK.out rfl; have r2 := cell_of_block (off := 2) HBK.out rfl; have r3 := cell_of_block (off := 3) HBK.out rfl; have r4 := cell_of_block (off := 4) HBK.out rfl
  have z0 := free_of_block (off := 0) HBK.out; have z1 := free_of_block (off := 1) HBK.out; have z2 := free_of_block (off := 2) HBK.out; have z3 := free_of_block (off := 3) HBK.out; have z4 := free_of_block (off := 4) HBK.out
  rcases HRES.out with ⟨c1, c2, c3, b0, b1, bl, bn, bt, BT, rfl, g1, g2, g3, g4⟩ | ⟨hc, s, rfl⟩
  · have G1 := Lib.hid g1; have G2 := Lib.hid g2; have G3 := Lib.hid g3; have G4 := Lib.hid g4; have C := Lib.hid (And.intro c1 (And.intro c2 c3))
    clear g1 g2 g3 g4 c1 c2 c3 HRES
    go_wp2_with fail
    refine bodyPost_ret (v := ?_) ?_ rfl ?_
    rotate_left 1
    · simp [results, Try.results72, go_sem, r0, r1, r2, r3, r4]
      rfl
    exact ⟨set5_new HNW.out (by omega) _ _ _ _ _, .inl ⟨C.out.1, C.out.2.1, C.out.2.2, Good.set5 G1.out G2.out G3.out G4.out _ HBK.out _ _ _ _ _⟩⟩
  · have C := Lib.hid hc
    clear hc HRES
    go_wp2_with fail
    refine bodyPost_ret (v := ?_) ?_ rfl ?_
    rotate_left 1
    · simp [results, Try.results72, go_sem, r0, r1, r2, r3, r4]
      rfl
    exact ⟨set5_new HNW.out (by omega) _ _ _ _ _, .inr ⟨C.out, _, rfl⟩⟩

set_option maxRecDepth 100000 in
set_option maxHeartbeats 1600000 in
theorem enter73_any (v0 v1 ln nx tk vt : Option Nat) (al : Bool) (V0 V1 L N : List Int) (T : List (Int × Nat × Bool)) (pb qb cb : Nat) (auto : Bool) (sv : Value) (l : List (Int × Int)) (w : World)
    (hc : CfgV w v0 v1 ln nx V0 V1 L N) (h0 : v0 ≠ none) (ht : TrkV w tk T) (hi : Inv V0 V1 L N T) (hp : w.cell? ⟨pb, 0, none⟩ = some (.pointer (some ⟨cb, 0, none⟩))) (hq : w.cell? ⟨qb, 0, none⟩ = some sv) (ha : w.cell? ⟨cb, 4, none⟩ = some (.bool auto))
    (hl : Ccs w (fun i => w.heap.size ≤ i) sv l) (hk : ∀ x ∈ l, x.1 = 0 ∨ x.1 = 1 ∨ x.1 = 3) (hn : l.length ≤ 400000) :
    Calls Try.prog 73 #[chgOf v0 v1 al ln nx tk vt, .pointer (some ⟨pb, 0, none⟩), .pointer (some ⟨qb, 0, none⟩)] w (Entered w auto V0 V1 L N l) := by
  have n2 : ∀ o1 o2, New w ((w.alloc o1).alloc o2).drew := fun o1 o2 => ((Chg.alloc w _ _).then (Chg.alloc _ _ _)).then (Chg.drew _ _)
  have hccs : ∀ o1 o2, Ccs ((w.alloc o1).alloc o2).drew (fun i => ((w.alloc o1).alloc o2).drew.heap.size ≤ i) sv l := fun o1 o2 => hl.new (n2 _ _) (fun i h1 h2 => by have := (n2 o1 o2).size; omega)
  have hau : ∀ o1 o2, ((w.alloc o1).alloc o2).drew.cell? ⟨cb, 4, none⟩ = some (.bool auto) := fun o1 o2 => ((n2 o1 o2).cell (p := ⟨cb, 4, none⟩) (World.block_lt_of_cell? w _ ha) (by simp)).trans ha
  have HAU := Lib.hid hau; clear hau
  have ltp : pb < w.heap.size := World.block_lt_of_cell? w _ hp
  have ltq : qb < w.heap.size := World.block_lt_of_cell? w _ hq
  have ltc : cb < w.heap.size := World.block_lt_of_cell? w _ ha
  have hlp := World.new_ne w _ hp; have hlq := World.new_ne w _ hq; have hlc := World.new_ne w _ ha
  have ep1 : pb ≠ w.heap.size + 1 := by omega
  have ep2 : w.heap.size + 1 ≠ pb := by omega
  have eq1 : qb ≠ w.heap.size + 1 := by omega
  have eq2 : w.heap.size + 1 ≠ qb := by omega
  have ec1 : cb ≠ w.heap.size + 1 := by omega
  have ec2 : w.heap.size + 1 ≠ cb := by omega
  clear ltp ltq ltc
  have HC := Lib.hid hc; have HT := Lib.hid ht; have HI := Lib.hid hi; have H0 := Lib.hid h0; have HCC := Lib.hid hccs; have HK := Lib.hid hk; have HN := Lib.hid hn; have HN2 := Lib.hid n2
  clear hc ht hi h0 hccs hk hn n2 hl
  by_cases hP : V1 = [] ∧ V0 ≠ [] ∧ (foldC V0 (V0, L, N) l).1 ≠ []
  · have HP := Lib.hid hP; clear hP
    unfold chgOf
    go_enter Try.func73, Try.ntmps73
    go_wp2_with fail
    go_region_held3 (fun w' => w'.cell? ⟨w.heap.size, 0, none⟩ = some (.map v0) ∧ w'.cell? ⟨w.heap.size, 1, none⟩ = some (.map v1) ∧ w'.cell? ⟨w.heap.size, 2, none⟩ = some (.bool al) ∧ w'.cell? ⟨w.heap.size, 3, none⟩ = some (.map ln) ∧ w'.cell? ⟨w.heap.size, 4, none⟩ = some (.map nx) ∧ w'.cell? ⟨w.heap.size, 5, none⟩ = some (.map tk) ∧ w'.cell? ⟨w.heap.size, 6, none⟩ = some (.map vt) ∧ w'.cell? ⟨w.heap.size, 7, none⟩ = some (.int .i64 10) ∧ w'.cell? ⟨w.heap.size, 8, none⟩ = some (.int .u64 0) ∧ w'.cell? ⟨w.heap.size, 9, none⟩ = some (.int .u64 1) ∧ w'.cell? ⟨pb, 0, none⟩ = some (.pointer (some ⟨cb, 0, none⟩)) ∧ w'.cell? ⟨qb, 0, none⟩ = some sv ∧ w'.cell? ⟨cb, 4, none⟩ = some (.bool auto)) (go_keep)
      (first
        | (go_at_call 74; refine (getauto_any cb auto _ (HAU.out _ _)).mono ?_; rintro e w3 ⟨rfl, rfl⟩)
        | (go_at_call 54; refine (enter_any auto v0 v1 ln nx tk vt al V0 V1 L N T _ l _ ⟨HC.out.s0.chg (HN2.out _ _) (by simp), ⟨HC.out.s1.1.chg (HN2.out _ _) (by simp), HC.out.s1.2⟩, ⟨HC.out.sl.1.chg (HN2.out _ _) (by simp), HC.out.sl.2⟩, ⟨HC.out.sn.1.chg (HN2.out _ _) (by simp), HC.out.sn.2⟩⟩ H0.out (HT.out.new (HN2.out _ _)) HI.out (HCC.out _ _) HK.out HN.out).mono ?_; intro e w1 hE; obtain ⟨⟨b0, b1, bl, bn, bt, BT, rfl, g1, g2, g3, g4⟩, hn1⟩ := hE.good HP.out; clear hE; have HBK := hn1.keeps (block_drew (block_new1 w _ _)) (by simp); have r0 := cell_of_block (off := 0) HBK rfl; have r1 := cell_of_block (off := 1) HBK rfl; have r2 := cell_of_block (off := 2) HBK rfl; have r3 := cell_of_block (off := 3) HBK rfl; have r4 := cell_of_block (off := 4) HBK rfl; have z0 := free_of_block (off := 0) HBK; have z1 := free_of_block (off := 1) HBK; have z2 := free_of_block (off := 2) HBK; have z3 := free_of_block (off := 3) HBK; have z4 := free_of_block (off := 4) HBK; have k1 := hn1.rule))
    rename_i hH
    clear hH k1
    have hnw : New w w1 := (HN2.out _ _).then hn1
    have G1 := Lib.hid g1; have G2 := Lib.hid g2; have G3 := Lib.hid g3; have G4 := Lib.hid g4; have HNW := Lib.hid hnw; have HBKK := Lib.hid HBK
    clear g1 g2 g3 g4 hnw hn1 HBK
    go_wp2_with fail
    refine bodyPost_ret (v := ?_) ?_ rfl ?_
    rotate_left 1
    · simp [results, Try.results73, go_sem, r0, r1, r2, r3, r4]
      rfl
    exact ⟨set5_new HNW.out (by omega) _ _ _ _ _, .inl ⟨HP.out.1, HP.out.2.1, HP.out.2.2, Good.set5 G1.out G2.out G3.out G4.out _ HBKK.out _ _ _ _ _⟩⟩
  · have HP := Lib.hid hP; clear hP
    unfold chgOf
    go_enter Try.func73, Try.ntmps73
    go_wp2_with fail
    go_region_held3 (fun w' => w'.cell? ⟨w.heap.size, 0, none⟩ = some (.map v0) ∧ w'.cell? ⟨w.heap.size, 1, none⟩ = some (.map v1) ∧ w'.cell? ⟨w.heap.size, 2, none⟩ = some (.bool al) ∧ w'.cell? ⟨w.heap.size, 3, none⟩ = some (.map ln) ∧ w'.cell? ⟨w.heap.size, 4, none⟩ = some (.map nx) ∧ w'.cell? ⟨w.heap.size, 5, none⟩ = some (.map tk) ∧ w'.cell? ⟨w.heap.size, 6, none⟩ = some (.map vt) ∧ w'.cell? ⟨w.heap.size, 7, none⟩ = some (.int .i64 10) ∧ w'.cell? ⟨w.heap.size, 8, none⟩ = some (.int .u64 0) ∧ w'.cell? ⟨w.heap.size, 9, none⟩ = some (.int .u64 1) ∧ w'.cell? ⟨pb, 0, none⟩ = some (.pointer (some ⟨cb, 0, none⟩)) ∧ w'.cell? ⟨qb, 0, none⟩ = some sv ∧ w'.cell? ⟨cb, 4, none⟩ = some (.bool auto)) (go_keep)
      (first
        | (go_at_call 74; refine (getauto_any cb auto _ (HAU.out _ _)).mono ?_; rintro e w3 ⟨rfl, rfl⟩)
        | (go_at_call 54; refine (enter_any auto v0 v1 ln nx tk vt al V0 V1 L N T _ l _ ⟨HC.out.s0.chg (HN2.out _ _) (by simp), ⟨HC.out.s1.1.chg (HN2.out _ _) (by simp), HC.out.s1.2⟩, ⟨HC.out.sl.1.chg (HN2.out _ _) (by simp), HC.out.sl.2⟩, ⟨HC.out.sn.1.chg (HN2.out _ _) (by simp), HC.out.sn.2⟩⟩ H0.out (HT.out.new (HN2.out _ _)) HI.out (HCC.out _ _) HK.out HN.out).mono ?_; intro e w1 hE; obtain ⟨⟨se, rfl⟩, hn1⟩ := hE.bad HP.out; clear hE; have HBK := hn1.keeps (block_drew (block_new1 w _ _)) (by simp); have r0 := cell_of_block (off := 0) HBK rfl; have r1 := cell_of_block (off := 1) HBK rfl; have r2 := cell_of_block (off := 2) HBK rfl; have r3 := cell_of_block (off := 3) HBK rfl; have r4 := cell_of_block (off := 4) HBK rfl; have z0 := free_of_block (off := 0) HBK; have z1 := free_of_block (off := 1) HBK; have z2 := free_of_block (off := 2) HBK; have z3 := free_of_block (off := 3) HBK; have z4 := free_of_block (off := 4) HBK; have k1 := hn1.rule))
    rename_i hH
    clear hH k1
    have hnw : New w w1 := (HN2.out _ _).then hn1
    have HNW := Lib.hid hnw
    clear hnw hn1 HBK
    go_wp2_with fail
    refine bodyPost_ret (v := ?_) ?_ rfl ?_
    rotate_left 1
    · simp [results, Try.results73, go_sem, r0, r1, r2, r3, r4]
      rfl
    exact ⟨set5_new HNW.out (by omega) _ _ _ _ _, .inr ⟨HP.out, _, rfl⟩⟩
end Go.Proofs.Ytcgccoigjcdjeaa
