/- checkAndReturn, checkAndCopy: a sound configuration is handed back, copied. No condition. -/
import Derived.Test.YtcgccoigjcdjeaaConfE
namespace Go.Proofs.Ytcgccoigjcdjeaa
open Go.RowKit

theorem block_new1 (w : World) (o1 o2 : Obj) : ((w.alloc o1).alloc o2).heap[w.heap.size + 1]? = some o2 := by
  have := block_new (w.alloc o1) o2
  rwa [World.size_alloc] at this
theorem block_new2 (w : World) (o1 o2 o3 : Obj) : (((w.alloc o1).alloc o2).alloc o3).heap[w.heap.size + 2]? = some o3 := by
  have := block_new1 (w.alloc o1) o2 o3
  rwa [World.size_alloc] at this

def cfgOf (v0 v1 : Option Nat) (al : Bool) (ln nx : Option Nat) : Value := .agg #[.map v0, .map v1, .bool al, .map ln, .map nx]

set_option maxRecDepth 100000 in
set_option maxHeartbeats 800000 in
theorem ret_any (v0 v1 ln nx tk : Option Nat) (al : Bool) (V0 V1 L N : List Int) (T : List (Int × Nat × Bool)) (w : World) (hc : CfgV w v0 v1 ln nx V0 V1 L N) (ht : TrkV w tk T) (hi : Inv V0 V1 L N T) (ha : V1 = [] → al = false) :
    Calls Try.prog 82 #[.agg #[.map v0, .map v1, .bool al, .map ln, .map nx], .map tk] w fun e w' => e = .returned (.tuple #[.agg #[.map v0, .map v1, .bool al, .map ln, .map nx], .map tk, .nilIface]) ∧ New w w' := by
  have hcf : ∀ o1 o2, CfgV ((w.alloc o1).alloc o2) v0 v1 ln nx V0 V1 L N := fun o1 o2 => ⟨(hc.s0.alloc _).alloc _, ⟨(hc.s1.1.alloc _).alloc _, hc.s1.2⟩, ⟨(hc.sl.1.alloc _).alloc _, hc.sl.2⟩, ⟨(hc.sn.1.alloc _).alloc _, hc.sn.2⟩⟩
  have HC := Lib.hid hcf; have HT := Lib.hid ht; have HI := Lib.hid hi; have HA := Lib.hid ha; clear hc hcf ht hi ha
  go_enter Try.func82, Try.ntmps82
  go_wp2_with (first
    | (go_at_call 106; refine (inv_any v0 v1 ln nx tk al V0 V1 L N T _ (HC.out _ _) ((HT.out.alloc _).alloc _) HI.out HA.out).mono ?_; rintro e w1 ⟨rfl, n1⟩; have k1 := n1.rule; have HBK := n1.keeps (block_new1 w _ _) (by simp); have r0 := cell_of_block (off := 0) HBK rfl; have r1 := cell_of_block (off := 1) HBK rfl; have r2 := cell_of_block (off := 2) HBK rfl; have r3 := cell_of_block (off := 3) HBK rfl; have r4 := cell_of_block (off := 4) HBK rfl; have z0 := free_of_block (off := 0) HBK; have z1 := free_of_block (off := 1) HBK; have z2 := free_of_block (off := 2) HBK; have z3 := free_of_block (off := 3) HBK; have z4 := free_of_block (off := 4) HBK)
    | go_in)
  have hn : New w w1 := ((Chg.alloc w _ _).then (Chg.alloc _ _ _)).then n1
  clear n1 k1
  refine bodyPost_ret (v := .tuple #[.agg #[.map v0, .map v1, .bool al, .map ln, .map nx], .map tk, .nilIface]) (by simp [results, Try.results82, go_sem, r0, r1, r2, r3, r4]) rfl ⟨rfl, ?_⟩
  have hc : ∀ (W : World) (j : Nat) (v : Value), New w W → New w (W.setCell ⟨w.heap.size + 1, j, none⟩ v) := fun W j v h => h.trans (Chg.setCell W _ v (fun i => i = w.heap.size + 1) (fun _ => rfl)) (fun _ _ h => h) (fun i hi e => by omega)
  exact hc _ _ _ (hc _ _ _ (hc _ _ _ (hc _ _ _ (hc _ _ _ hn))))

/-- A Changer by value. -/
abbrev chgOf (v0 v1 : Option Nat) (al : Bool) (ln nx tk vt : Option Nat) : Value :=
  .agg #[.map v0, .map v1, .bool al, .map ln, .map nx, .map tk, .map vt, .int .i64 10, .int .u64 0, .int .u64 1]
/-- A configuration whose maps and progress blocks lie in blocks from B on, each another. -/
structure St (w : World) (B : Nat) (v0 v1 ln nx : Option Nat) (tk : Nat) (V0 V1 L N : List Int) (T : List (Int × Nat × Bool)) : Prop where
  cfg : CfgV w v0 v1 ln nx V0 V1 L N
  some0 : v0 ≠ none
  trk : TrkV w (some tk) T
  inv : Inv V0 V1 L N T
  fresh : ∀ b ∈ blocksOf [v0, v1, ln, nx, some tk], B ≤ b
  apart : (blocksOf [v0, v1, ln, nx, some tk]).Nodup
  pfresh : ∀ t ∈ T, B ≤ t.2.1
theorem mem_blocks {b : Nat} {l : List (Option Nat)} : b ∈ blocksOf l ↔ some b ∈ l := by
  simp [blocksOf]
theorem St.chg {w w' : World} {S : Nat → Prop} {B : Nat} {v0 v1 ln nx : Option Nat} {tk : Nat} {V0 V1 L N : List Int} {T : List (Int × Nat × Bool)} (h : St w B v0 v1 ln nx tk V0 V1 L N T) (c : Chg w w' S)
    (hS : ∀ b ∈ blocksOf [v0, v1, ln, nx, some tk], ¬ S b) (hT : ∀ t ∈ T, ¬ S t.2.1) : St w' B v0 v1 ln nx tk V0 V1 L N T :=
  ⟨⟨h.cfg.s0.chg c (fun i e => hS i (mem_blocks.2 (by simp [e]))), ⟨h.cfg.s1.1.chg c (fun i e => hS i (mem_blocks.2 (by simp [e]))), h.cfg.s1.2⟩, ⟨h.cfg.sl.1.chg c (fun i e => hS i (mem_blocks.2 (by simp [e]))), h.cfg.sl.2⟩, ⟨h.cfg.sn.1.chg c (fun i e => hS i (mem_blocks.2 (by simp [e]))), h.cfg.sn.2⟩⟩,
    h.some0, h.trk.chg c (fun i e => hS i (mem_blocks.2 (by simp [e]))) hT, h.inv, h.fresh, h.apart, h.pfresh⟩
theorem St.new {w w' : World} {B : Nat} {v0 v1 ln nx : Option Nat} {tk : Nat} {V0 V1 L N : List Int} {T : List (Int × Nat × Bool)} (h : St w B v0 v1 ln nx tk V0 V1 L N T) (c : New w w') : St w' B v0 v1 ln nx tk V0 V1 L N T := h.chg c (by simp) (by simp)
/-- a store into a row of cells that is no Progress -/
theorem St.setCell {w : World} {B : Nat} {v0 v1 ln nx : Option Nat} {tk : Nat} {V0 V1 L N : List Int} {T : List (Int × Nat × Bool)} (h : St w B v0 v1 ln nx tk V0 V1 L N T) {b j : Nat} {cs : Array Value} (hb : w.heap[b]? = some (.cells cs 85 (0, 0))) (v : Value) : St (w.setCell ⟨b, j, none⟩ v) B v0 v1 ln nx tk V0 V1 L N T := by
  refine h.chg (Chg.setCell w _ v (fun i => i = b) (fun _ => rfl)) (fun x hx e => ?_) (fun t ht e => ?_)
  · subst e
    rw [mem_blocks] at hx
    simp only [List.mem_cons, List.not_mem_nil, or_false] at hx
    rcases hx with e | e | e | e | e
    · have := h.cfg.s0; rw [← e] at this; exact this.ne_cells hb rfl
    · have := h.cfg.s1.1; rw [← e] at this; exact this.ne_cells hb rfl
    · have := h.cfg.sl.1; rw [← e] at this; exact this.ne_cells hb rfl
    · have := h.cfg.sn.1; rw [← e] at this; exact this.ne_cells hb rfl
    · cases e; exact MapB.ne_cells h.trk.map hb rfl
  · obtain ⟨q, hq⟩ := h.trk.prog t ht
    rw [e, hb] at hq; cases hq
def StTo (w : World) (B : Nat) (al : Bool) (V0 V1 L N : List Int) (e : Ending) (w' : World) : Prop :=
  ∃ v0 v1 ln nx tk T, e = .returned (.tuple #[.agg #[.map v0, .map v1, .bool al, .map ln, .map nx], .map (some tk), .nilIface]) ∧ St w' B v0 v1 ln nx tk V0 V1 L N T ∧ New w w'

theorem upd_tents {T : List (Int × Nat × Bool)} {k : Int} (h : ∀ t ∈ T, t.1 ≠ k) (n : Nat) (fl : Bool) : upd (tents T) k (.pointer (some ⟨n, 0, none⟩)) = tents (T ++ [(k, n, fl)]) := by
  unfold upd
  rw [any_false (l := tents T) (k := k)]
  · simp [tents]
  · intro p hp
    obtain ⟨t, ht, rfl⟩ := List.mem_map.1 hp
    exact h t ht
theorem mem_tents {T : List (Int × Nat × Bool)} {k : Int} {v : Value} (h : (k, v) ∈ tents T) : ∃ p fl, (k, p, fl) ∈ T ∧ v = .pointer (some ⟨p, 0, none⟩) := by
  obtain ⟨t, ht, e⟩ := List.mem_map.1 h
  simp only [Prod.mk.injEq] at e
  obtain ⟨rfl, rfl⟩ := e
  exact ⟨t.2.1, t.2.2, ht, rfl⟩

set_option maxRecDepth 100000 in
set_option maxHeartbeats 1600000 in
theorem copy_any (v0 v1 ln nx tk vt : Option Nat) (al : Bool) (V0 V1 L N : List Int) (T : List (Int × Nat × Bool)) (w : World) (hc : CfgV w v0 v1 ln nx V0 V1 L N) (h0 : v0 ≠ none) (ht : TrkV w tk T) (hi : Inv V0 V1 L N T) :
    Calls Try.prog 76 #[chgOf v0 v1 al ln nx tk vt] w (StTo w w.heap.size false V0 V1 L N) := by
  have HC := Lib.hid hc; have HT := Lib.hid ht; have HI := Lib.hid hi; have H0 := Lib.hid h0; clear hc ht hi h0
  unfold chgOf
  go_enter Try.func76, Try.ntmps76
  go_wp2_with fail
  refine (cfgclone_any w.heap.size v0 v1 ln nx V0 V1 L N _ (by simp [go_sem]) (by simp [go_sem]) (by simp [go_sem]) (by simp [go_sem]) ((HC.out.s0.alloc _).alloc _) ((HC.out.s1.1.alloc _).alloc _) ((HC.out.sl.1.alloc _).alloc _) ((HC.out.sn.1.alloc _).alloc _)).mono ?_
  rintro e w1 ⟨a0, a1, a3, a4, rfl, hcl⟩
  have hbox := hcl.new.keeps (block_alloc (block_new w _) _) (by simp)
  have hres := hcl.new.keeps (block_new1 w _ _) (by simp)
  have hn1 : New w w1 := ((Chg.alloc w _ _).then (Chg.alloc _ _ _)).then hcl.new
  have hfr := hcl.fresh
  have hap := hcl.apart
  have ht1 := HT.out.new hn1
  have hs0 := hcl.s0; have hs1 := hcl.s1; have hs3 := hcl.sl; have hs4 := hcl.sn
  have hm0 := hcl.n0; have hm1 := hcl.n1; have hm3 := hcl.nl; have hm4 := hcl.nn
  simp only [World.size_alloc] at hfr
  have c5 := cell_of_block (off := 5) hbox rfl
  have HBOX := Lib.hid hbox; have HRES := Lib.hid hres; have HN1 := Lib.hid hn1; have HFR := Lib.hid hfr; have HAP := Lib.hid hap; have HT1 := Lib.hid ht1
  have HS0 := Lib.hid hs0; have HS1 := Lib.hid hs1; have HS3 := Lib.hid hs3; have HS4 := Lib.hid hs4
  have HM0 := Lib.hid hm0; have HM1 := Lib.hid hm1; have HM3 := Lib.hid hm3; have HM4 := Lib.hid hm4
  clear hcl hbox hres hn1 hfr hap ht1 hs0 hs1 hs3 hs4 hm0 hm1 hm3 hm4
  go_wp2_with (first
    | (at_range; refine op_range rfl _ _ rfl mt87 rfl ((HT1.out.map.alloc _).alloc _) ?_; intro w2 r2 s2 z2)
    | go_in)
  go_frame
  simp only [World.size_alloc] at r2 z2 ⊢
  go_loopg [7, 8] T.length (fun n _ _ wr => ∃ (done : List Int) (T' : List (Int × Nat × Bool)), T.length ≤ done.length + n ∧ RangV wr (w1.heap.size + 2) tk (tents T) done ∧ TrkV wr (some (w1.heap.size + 1)) T' ∧ T'.map (·.1) = done ∧
    (∀ t ∈ T', ∃ p, (t.1, p, t.2.2) ∈ T) ∧ (∀ t ∈ T', w1.heap.size + 3 ≤ t.2.1) ∧ New w1 wr ∧ wr.heap[w1.heap.size]? = some (.cells #[.map a0, .map a1, .bool false, .map a3, .map a4] 85 (0, 0)))
  case atStart =>
    refine ⟨[], [], by simp, r2, ⟨?_, by simp, by simp⟩, rfl, by simp, by simp, ((Chg.alloc w1 _ _).then (Chg.alloc _ _ _)).then s2.chg, s2.chg.keeps (block_alloc (block_new w1 _) _) (by simp)⟩
    have := (MapB.made (w1.alloc (.cells #[.map a0, .map a1, .bool false, .map a3, .map a4] 85))).chg s2.chg (by simp)
    rw [World.size_alloc] at this
    exact this
  case round =>
    obtain ⟨done, T', hn, hr, htr, hd, hin, hp3, hnew, hblk⟩ := hrel
    have HL := Lib.hid hn; have HR := Lib.hid hr; have HTR := Lib.hid htr; have HD := Lib.hid hd; have HIN := Lib.hid hin; have HP3 := Lib.hid hp3; have HNW := Lib.hid hnew; have HBLK := Lib.hid hblk
    clear hn hr htr hd hin hp3 hnew hblk r2 s2 z2
    go_wp2_with (first
      | (at_next; refine op_next rfl _ rfl rfl HR.out ?_ ?_)
      | go_in)
    · intro hp
      have hks : done.Perm (T.map (·.1)) := by
        have : (tents T).map (·.1) = T.map (·.1) := by simp [tents, Function.comp_def]
        rw [this] at hp; exact hp
      have hinv : Inv V0 V1 L N T' := by
        have hi := HI.out
        refine ⟨?_, ?_, ?_, hi.next, hi.learn⟩
        · intro x hx
          obtain ⟨t, ht, rfl⟩ := hi.sub x hx
          have : t.1 ∈ done := hks.mem_iff.2 (List.mem_map.2 ⟨t, ht, rfl⟩)
          rw [← HD.out] at this
          obtain ⟨t', ht', e⟩ := List.mem_map.1 this
          exact ⟨t', ht', e⟩
        · intro t ht
          obtain ⟨p, hm⟩ := HIN.out t ht
          have := hi.sup _ hm
          exact this
        · intro t ht
          obtain ⟨p, hm⟩ := HIN.out t ht
          have := hi.flag _ hm
          exact this
      have hst : St wr w.heap.size a0 a1 a3 a4 (w1.heap.size + 1) V0 V1 L N T' := by
        have hw := HN1.out.size
        have hc := HC.out
        refine ⟨⟨HS0.out.chg HNW.out (by simp), ⟨HS1.out.chg HNW.out (by simp), by rw [← HM1.out]; exact hc.s1.2⟩, ⟨HS3.out.chg HNW.out (by simp), by rw [← HM3.out]; exact hc.sl.2⟩, ⟨HS4.out.chg HNW.out (by simp), by rw [← HM4.out]; exact hc.sn.2⟩⟩, fun h => H0.out (HM0.out.2 h), HTR.out, hinv, ?_, ?_, fun t ht => by have := HP3.out t ht; omega⟩
        · intro b hb
          have : b ∈ blocksOf [a0, a1, a3, a4] ∨ b = w1.heap.size + 1 := by
            simp only [blocksOf, List.filterMap_cons, List.filterMap_nil, id] at hb ⊢
            cases a0 <;> cases a1 <;> cases a3 <;> cases a4 <;> simp_all <;> omega
          rcases this with h | h
          · have := HFR.out b h; omega
          · omega
        · have e : blocksOf [a0, a1, a3, a4, some (w1.heap.size + 1)] = blocksOf [a0, a1, a3, a4] ++ [w1.heap.size + 1] := by
            simp only [blocksOf]
            cases a0 <;> cases a1 <;> cases a3 <;> cases a4 <;> simp
          rw [e, List.nodup_append]
          refine ⟨HAP.out, by simp, fun x hx y hy e => ?_⟩
          simp at hy; subst hy; subst e
          simp only [blocksOf, List.mem_filterMap, List.mem_cons, List.not_mem_nil, or_false, id] at hx
          obtain ⟨a, ha, rfl⟩ := hx
          rcases ha with h | h | h | h
          · have := HS0.out; rw [← h] at this; have := this.lt; omega
          · have := HS1.out; rw [← h] at this; have := this.lt; omega
          · have := HS3.out; rw [← h] at this; have := this.lt; omega
          · have := HS4.out; rw [← h] at this; have := this.lt; omega
      have HST := Lib.hid hst; clear hst hinv hks
      have b0 := cell_of_block (off := 0) HBLK.out rfl
      have b1 := cell_of_block (off := 1) HBLK.out rfl
      have b2 := cell_of_block (off := 2) HBLK.out rfl
      have b3 := cell_of_block (off := 3) HBLK.out rfl
      have b4 := cell_of_block (off := 4) HBLK.out rfl
      go_wp2_with (first
        | (go_at_call 82; refine (ret_any a0 a1 a3 a4 (some (w1.heap.size + 1)) false V0 V1 L N T' _ HST.out.cfg HST.out.trk HST.out.inv (fun _ => rfl)).mono ?_; rintro e w3 ⟨rfl, n3⟩; have HBK := n3.keeps (HNW.out.keeps HRES.out (by simp)) (by simp); have r0 := cell_of_block (off := 0) HBK rfl; have r1 := cell_of_block (off := 1) HBK rfl; have r2 := cell_of_block (off := 2) HBK rfl; have r3 := cell_of_block (off := 3) HBK rfl; have r4 := cell_of_block (off := 4) HBK rfl; have z0 := free_of_block (off := 0) HBK; have z1 := free_of_block (off := 1) HBK; have z2 := free_of_block (off := 2) HBK; have z3 := free_of_block (off := 3) HBK; have z4 := free_of_block (off := 4) HBK)
        | go_in)
      have hst3 : St w3 w.heap.size a0 a1 a3 a4 (w1.heap.size + 1) V0 V1 L N T' := HST.out.new n3
      have hst4 : ∀ (W : World) (j : Nat) (v : Value), (∃ cs, W.heap[w.heap.size + 1]? = some (.cells cs 85 (0, 0))) ∧ St W w.heap.size a0 a1 a3 a4 (w1.heap.size + 1) V0 V1 L N T' ∧ New w W →
          (∃ cs, (W.setCell ⟨w.heap.size + 1, j, none⟩ v).heap[w.heap.size + 1]? = some (.cells cs 85 (0, 0))) ∧ St (W.setCell ⟨w.heap.size + 1, j, none⟩ v) w.heap.size a0 a1 a3 a4 (w1.heap.size + 1) V0 V1 L N T' ∧ New w (W.setCell ⟨w.heap.size + 1, j, none⟩ v) := by
        rintro W j v ⟨⟨cs, hcs⟩, h1, h2⟩
        exact ⟨⟨_, block_setCell hcs v⟩, h1.setCell hcs v, h2.trans (Chg.setCell W _ v (fun i => i = w.heap.size + 1) (fun _ => rfl)) (fun _ _ h => h) (fun i hi e => by omega)⟩
      have hfin := hst4 _ 4 (.map a4) (hst4 _ 3 (.map a3) (hst4 _ 2 (.bool false) (hst4 _ 1 (.map a1) (hst4 _ 0 (.map a0) ⟨⟨_, HBK⟩, hst3, (HN1.out.then HNW.out).then n3⟩))))
      clear hst3 hst4 HBK n3
      have HF := Lib.hid hfin; clear hfin
      refine bodyPost_ret (v := .tuple #[.agg #[.map a0, .map a1, .bool false, .map a3, .map a4], .map (some (w1.heap.size + 1)), .nilIface]) (by simp [results, Try.results76, go_sem, r0, r1, r2, r3, r4]) rfl ⟨a0, a1, a3, a4, _, T', rfl, HF.out.2⟩
    · intro k v w2 hk hnk r2 s2 z2 hen
      obtain ⟨p, fl, hmem, rfl⟩ := mem_tents hk
      obtain ⟨q, hq⟩ := HT1.out.prog _ hmem
      have hlt := lt_of_block hq
      have hsz := HNW.out.size
      have hq2 := s2.chg.keeps (HNW.out.keeps hq (by simp)) (by show ¬ p = _; have := hlt; simp at this; omega)
      simp only at hq2
      have p0 : w2.cell? ⟨p, 0, none⟩ = some (.int .u64 0) := cell_of_block hq2 rfl
      have p1 : w2.cell? ⟨p, 1, none⟩ = some (.int .u64 1) := cell_of_block hq2 rfl
      have p2 : w2.cell? ⟨p, 2, none⟩ = some (.int .u64 0) := cell_of_block hq2 rfl
      have p3 : w2.cell? ⟨p, 3, none⟩ = some (.int .u64 0) := cell_of_block hq2 rfl
      have p4 : w2.cell? ⟨p, 4, none⟩ = some (.int .u64 0) := cell_of_block hq2 rfl
      have p5 : w2.cell? ⟨p, 5, none⟩ = some (.bool true) := cell_of_block hq2 rfl
      have p6 : w2.cell? ⟨p, 6, none⟩ = some (.bool false) := cell_of_block hq2 rfl
      have p7 : w2.cell? ⟨p, 7, none⟩ = some (.pointer (some q)) := cell_of_block hq2 rfl
      have p8 : w2.cell? ⟨p, 8, none⟩ = some (.bool fl) := cell_of_block hq2 rfl
      have hl : (done ++ [k]).length ≤ T.length := by
        have h1 := r2.nodup; have h2 := r2.sub
        have := len_le_of_sub h1 h2
        simpa [tents] using this
      simp only [List.length_append, List.length_cons, List.length_nil] at hl
      have hmb : MapB w2 (w1.heap.size + 1) (tents T') := MapB.chg HTR.out.map s2.chg (by omega)
      have HMB := Lib.hid hmb; have HQ2 := Lib.hid hq2; have HZ2 := Lib.hid z2; clear hmb hq2 hq z2
      go_wp2_with (first
        | (at_mapUpdate; refine op_update rfl _ _ _ _ rfl mt87 rfl (HMB.out.alloc _) rfl (val := .pointer (some ⟨w2.heap.size, 0, none⟩)) rfl ?_; intro w3 t3)
        | go_in)
      go_roundg (gk - 1)
      case measure => have := HL.out; omega
      case rel =>
        have hz2 : w2.heap.size = wr.heap.size := HZ2.out
        have hne : ∀ t ∈ T', t.1 ≠ k := fun t ht e => hnk (by rw [← HD.out]; exact List.mem_map.2 ⟨t, ht, e⟩)
        have hmap := t3.map
        rw [upd_tents hne w2.heap.size fl] at hmap
        have htold : ∀ t ∈ T', t.2.1 < w2.heap.size := fun t ht => by obtain ⟨q', hq'⟩ := HTR.out.prog t ht; have := lt_of_block hq'; omega
        refine ⟨done ++ [k], T' ++ [(k, w2.heap.size, fl)], by have := HL.out; simp; omega, (r2.alloc _).chg t3.chg (by omega) (fun b hb => ?_), ⟨hmap, ?_, ?_⟩, by simp [HD.out], ?_, ?_, ?_, ?_⟩
        · have h1 := HT1.out.map
          subst hb
          have := MapB.lt h1; omega
        · intro t ht
          rcases List.mem_append.1 ht with ht | ht
          · obtain ⟨q', hq'⟩ := HTR.out.prog t ht
            have h3 := HP3.out t ht
            exact ⟨q', t3.chg.keeps (block_alloc (s2.chg.keeps hq' (by omega)) _) (by omega)⟩
          · simp at ht; subst ht
            exact ⟨q, t3.chg.keeps (block_new w2 _) (by have := HR.out.lt; show ¬ w2.heap.size = _; omega)⟩
        · simp only [List.map_append, List.map_cons, List.map_nil]
          rw [List.nodup_append]
          refine ⟨HTR.out.apart, by simp, fun x hx y hy e => ?_⟩
          simp at hy; subst hy; subst e
          obtain ⟨t, ht, e⟩ := List.mem_map.1 hx
          have := htold t ht; omega
        · intro t ht
          rcases List.mem_append.1 ht with ht | ht
          · exact HIN.out t ht
          · simp at ht; subst ht; exact ⟨p, hmem⟩
        · intro t ht
          rcases List.mem_append.1 ht with ht | ht
          · exact HP3.out t ht
          · simp at ht; subst ht
            have := HR.out.lt
            show _ ≤ w2.heap.size
            omega
        · exact ((HNW.out.trans s2.chg (fun _ _ h => h) (fun i hi e => by omega)).then (Chg.alloc _ _ _)).trans t3.chg (fun _ _ h => h) (fun i hi e => by omega)
        · exact t3.chg.keeps (block_alloc (s2.chg.keeps HBLK.out (by omega)) _) (by omega)
end Go.Proofs.Ytcgccoigjcdjeaa
