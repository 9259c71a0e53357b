/- confchange.Changer.LeaveJoint. No condition. -/
import Derived.Test.YtcgccoigjcdjeaaConfO
namespace Go.Proofs.Ytcgccoigjcdjeaa
open Go.RowKit

theorem RangS.ne_cells {w : World} {r c : Nat} {o : Option Nat} {s done : List Int} (h : RangS w r o s done) {cs : Array Value} {e : TypeId} {f : Nat × Nat} (hc : w.heap[c]? = some (.cells cs e f)) : c ≠ r := by
  obtain ⟨l, h1, _⟩ := h; exact h1.ne_cells hc
theorem NSet.ne_iter {w : World} {r : Nat} {o o' : Option Nat} {s s' done : List Int} (h : RangS w r o s done) (hn : NSet w o' s') : o' ≠ some r := fun e => by
  have := hn.1; rw [e] at this; exact h.ne_set this rfl
theorem Raw.iter {w w' : World} {F : Nat → Prop} {cb b0 : Nat} {al : Bool} {v1 ln nx : Option Nat} {tk : Nat} {V0 V1 L N : List Int} {T : List (Int × Nat × Bool)} {r : Nat} {o : Option Nat} {s done : List Int} (h : Raw w F cb b0 al v1 ln nx tk V0 V1 L N T) (hr : RangS w r o s done) (c : Chg w w' (· = r)) : Raw w' F cb b0 al v1 ln nx tk V0 V1 L N T := by
  refine ⟨c.keeps h.blk (hr.ne_cells h.blk), h.s0.chg c (fun i e e' => hr.ne_set h.s0 (by cases e; exact e')), ⟨h.s1.1.chg c (fun i e e' => NSet.ne_iter hr h.s1 (by rw [e, e'])), h.s1.2⟩, ⟨h.sl.1.chg c (fun i e e' => NSet.ne_iter hr h.sl (by rw [e, e'])), h.sl.2⟩, ⟨h.sn.1.chg c (fun i e e' => NSet.ne_iter hr h.sn (by rw [e, e'])), h.sn.2⟩,
    h.trk.chg c (fun i e e' => hr.ne_map h.trk.map (by cases e; exact e')) (fun t ht e => ?_), h.fresh, h.apart, h.pfresh, h.cbB, fun i hi => h.up i (Nat.le_trans c.size hi)⟩
  obtain ⟨q, hq⟩ := h.trk.prog t ht
  exact hr.ne_cells hq e

/-- the progress map while the staged learners are marked -/
structure K1 (T T' : List (Int × Nat × Bool)) (L' : List Int) : Prop where
  keys : ∀ x, (∃ t ∈ T', t.1 = x) ↔ (∃ t ∈ T, t.1 = x)
  flag : ∀ t ∈ T', t.2.2 = decide (t.1 ∈ L')
theorem K1.mark {T T' : List (Int × Nat × Bool)} {L' : List Int} (h : K1 T T' L') (k : Int) : K1 T (mark T' k true) (ins L' k) := by
  refine ⟨fun x => ?_, fun t ht => ?_⟩
  · rw [← h.keys x]
    constructor
    · rintro ⟨t, ht, rfl⟩
      obtain ⟨t', ht', e1, e2, e3⟩ := mem_mark ht
      exact ⟨t', ht', e1.symm⟩
    · rintro ⟨t, ht, rfl⟩
      refine ⟨_, List.mem_map.2 ⟨t, ht, rfl⟩, ?_⟩
      split <;> rfl
  · obtain ⟨t', ht', e1, e2, e3⟩ := mem_mark ht
    rw [e3, e1]
    by_cases hk : t'.1 = k
    · rw [if_pos hk]; symm; simp [mem_ins, hk]
    · rw [if_neg hk, h.flag t' ht']
      exact decide_eq_decide.2 ⟨fun h => mem_ins.2 (.inl h), fun h => by rcases mem_ins.1 h with h | h; exact h; exact absurd h hk⟩
/-- the progress map while those that are no more are struck -/
def K2 (T1 T' : List (Int × Nat × Bool)) (V0 L' done : List Int) : Prop := ∀ t, t ∈ T' ↔ t ∈ T1 ∧ (t.1 ∈ V0 ∨ t.1 ∈ L' ∨ t.1 ∉ done)
theorem K2.keep {T1 T' : List (Int × Nat × Bool)} {V0 L' done : List Int} (h : K2 T1 T' V0 L' done) {k : Int} (hk : k ∈ V0 ∨ k ∈ L') : K2 T1 T' V0 L' (done ++ [k]) := by
  intro t
  rw [h t]
  constructor
  · rintro ⟨h1, h2⟩
    refine ⟨h1, ?_⟩
    by_cases e : t.1 = k
    · rcases hk with hk | hk
      · exact .inl (e ▸ hk)
      · exact .inr (.inl (e ▸ hk))
    · rcases h2 with h2 | h2 | h2
      · exact .inl h2
      · exact .inr (.inl h2)
      · exact .inr (.inr (by simp [h2, e]))
  · rintro ⟨h1, h2⟩
    refine ⟨h1, ?_⟩
    rcases h2 with h2 | h2 | h2
    · exact .inl h2
    · exact .inr (.inl h2)
    · exact .inr (.inr (fun h => h2 (by simp [h])))
theorem K2.strike {T1 T' : List (Int × Nat × Bool)} {V0 L' done : List Int} (h : K2 T1 T' V0 L' done) {k : Int} (h0 : k ∉ V0) (hl : k ∉ L') : K2 T1 (rmT T' k) V0 L' (done ++ [k]) := by
  intro t
  rw [mem_rmT, h t]
  constructor
  · rintro ⟨⟨h1, h2⟩, e⟩
    refine ⟨h1, ?_⟩
    rcases h2 with h2 | h2 | h2
    · exact .inl h2
    · exact .inr (.inl h2)
    · exact .inr (.inr (by simp [h2, e]))
  · rintro ⟨h1, h2⟩
    rcases h2 with h2 | h2 | h2
    · exact ⟨⟨h1, .inl h2⟩, fun e => h0 (e ▸ h2)⟩
    · exact ⟨⟨h1, .inr (.inl h2)⟩, fun e => hl (e ▸ h2)⟩
    · exact ⟨⟨h1, .inr (.inr (fun h => h2 (by simp [h])))⟩, fun e => h2 (by simp [e])⟩
theorem left_inv {V0 V1 L N L' : List Int} {T T1 T2 : List (Int × Nat × Bool)} {done : List Int} (hi : Inv V0 V1 L N T) (h1 : K1 T T1 L') (hL : ∀ x, x ∈ L' ↔ x ∈ L ∨ x ∈ N) (h2 : K2 T1 T2 V0 L' done) (hd : ∀ x, x ∈ done ↔ x ∈ V1) : Inv V0 [] L' [] T2 := by
  refine ⟨fun x hx => ?_, fun t ht => ?_, fun t ht => h1.flag t ((h2 t).1 ht).1, fun x hx => absurd hx (by simp), fun x hx => ⟨fun h => ?_, by simp⟩⟩
  · have hk : ∃ t ∈ T, t.1 = x := by
      rcases hx with h | h | h
      · exact hi.sub x (.inl h)
      · cases h
      · rcases (hL x).1 h with h | h
        · exact hi.sub x (.inr (.inr h))
        · exact hi.sub x (.inr (.inl (hi.next x h).1))
    obtain ⟨t, ht, rfl⟩ := (h1.keys x).2 hk
    refine ⟨t, (h2 t).2 ⟨ht, ?_⟩, rfl⟩
    rcases hx with h | h | h
    · exact .inl h
    · cases h
    · exact .inr (.inl h)
  · obtain ⟨ht1, h⟩ := (h2 t).1 ht
    rcases h with h | h | h
    · exact .inl h
    · exact .inr (.inr h)
    · obtain ⟨t0, ht0, e⟩ := (h1.keys t.1).1 ⟨t, ht1, rfl⟩
      rcases hi.sup t0 ht0 with g | g | g
      · exact .inl (e ▸ g)
      · exact absurd ((hd _).2 (e ▸ g)) h
      · exact .inr (.inr ((hL _).2 (.inl (e ▸ g))))
  · rcases (hL x).1 hx with g | g
    · exact (hi.learn x g).1 h
    · exact (hi.next x g).2 h

def Left (w : World) (V0 V1 L N : List Int) (e : Ending) (w' : World) : Prop :=
  New w w' ∧ ((V1 ≠ [] ∧ ∃ L', L'.Nodup ∧ (∀ x, x ∈ L' ↔ x ∈ L ∨ x ∈ N) ∧ Good w' false V0 [] L' [] e) ∨ (V1 = [] ∧ ErrR e))

set_option maxRecDepth 100000 in
set_option maxHeartbeats 1600000 in
theorem leave_any (v0 v1 ln nx tk vt : Option Nat) (al : Bool) (V0 V1 L N : List Int) (T : List (Int × Nat × Bool)) (w : World)
    (hc : CfgV w v0 v1 ln nx V0 V1 L N) (h0 : v0 ≠ none) (ht : TrkV w tk T) (hi : Inv V0 V1 L N T) :
    Calls Try.prog 55 #[chgOf v0 v1 al ln nx tk vt] w (Left w V0 V1 L N) := by
  have hcf : ∀ o1 o2, CfgV ((w.alloc o1).alloc o2) v0 v1 ln nx V0 V1 L N := fun o1 o2 => ⟨(hc.s0.alloc _).alloc _, ⟨(hc.s1.1.alloc _).alloc _, hc.s1.2⟩, ⟨(hc.sl.1.alloc _).alloc _, hc.sl.2⟩, ⟨(hc.sn.1.alloc _).alloc _, hc.sn.2⟩⟩
  have HC := Lib.hid hcf; have HT := Lib.hid ht; have HI := Lib.hid hi; have H0 := Lib.hid h0; clear hc hcf ht hi h0
  unfold chgOf
  go_enter Try.func55, Try.ntmps55
  go_wp2_with fail
  refine (copy_any v0 v1 ln nx tk vt al V0 V1 L N T _ (HC.out _ _) H0.out ((HT.out.alloc _).alloc _) HI.out).mono ?_
  rintro e w1 ⟨a0, a1, a3, a4, tk1, T1, rfl, hst, hn1⟩
  have hs2 : SetV (w1.alloc (.cells #[.map a0, .map a1, .bool false, .map a3, .map a4] 85)) a1 V1 := hst.cfg.s1.1.alloc _
  have hbox := hn1.keeps (block_alloc (block_new w _) _) (by simp)
  have hres := hn1.keeps (block_new1 w _ _) (by simp)
  have hn2 : New w w1 := ((Chg.alloc w _ _).then (Chg.alloc _ _ _)).then hn1
  simp only [World.size_alloc] at hst
  have hsz1 : w.heap.size + 2 ≤ w1.heap.size := by have := hn1.size; simpa using this
  obtain ⟨b0, rfl, hso⟩ := hst.sound hsz1 false
  have HS2 := Lib.hid hs2; have HBOX := Lib.hid hbox; have HRES := Lib.hid hres; have HN2 := Lib.hid hn2; have HSO := Lib.hid hso; have HZ1 := Lib.hid hsz1
  clear hst hn1 hs2 hbox hres hn2 hso hsz1
  have b0' : w1.cell? ⟨w.heap.size, 0, none⟩ = some (.map v0) := cell_of_block HBOX.out rfl
  have b1' : w1.cell? ⟨w.heap.size, 1, none⟩ = some (.map v1) := cell_of_block HBOX.out rfl
  have b2' : w1.cell? ⟨w.heap.size, 2, none⟩ = some (.bool al) := cell_of_block HBOX.out rfl
  have b3' : w1.cell? ⟨w.heap.size, 3, none⟩ = some (.map ln) := cell_of_block HBOX.out rfl
  have b4' : w1.cell? ⟨w.heap.size, 4, none⟩ = some (.map nx) := cell_of_block HBOX.out rfl
  have b5' : w1.cell? ⟨w.heap.size, 5, none⟩ = some (.map tk) := cell_of_block HBOX.out rfl
  have b6' : w1.cell? ⟨w.heap.size, 6, none⟩ = some (.map vt) := cell_of_block HBOX.out rfl
  have b7' : w1.cell? ⟨w.heap.size, 7, none⟩ = some (.int .i64 10) := cell_of_block HBOX.out rfl
  have b8' : w1.cell? ⟨w.heap.size, 8, none⟩ = some (.int .u64 0) := cell_of_block HBOX.out rfl
  have b9' : w1.cell? ⟨w.heap.size, 9, none⟩ = some (.int .u64 1) := cell_of_block HBOX.out rfl
  by_cases hV1 : V1 = []
  · subst hV1
    go_wp2_with (first
      | (go_at_call 78; refine (joint_any (some b0) a1 a3 a4 false [] false _ HS2.out (by simp)).mono ?_; rintro e w2 ⟨rfl, n2⟩; have k2 := n2.rule)
      | (go_at_call 77; refine (err_any v0 v1 ln nx tk vt al _ _).mono ?_; rintro e w3 ⟨rfl, n3⟩; have HBK := n3.keeps (n2.keeps (block_alloc HRES.out _) (by simp)) (by simp); have r0 := cell_of_block (off := 0) HBK rfl; have r1 := cell_of_block (off := 1) HBK rfl; have r2 := cell_of_block (off := 2) HBK rfl; have r3 := cell_of_block (off := 3) HBK rfl; have r4 := cell_of_block (off := 4) HBK rfl; have z0 := free_of_block (off := 0) HBK; have z1 := free_of_block (off := 1) HBK; have z2 := free_of_block (off := 2) HBK; have z3 := free_of_block (off := 3) HBK; have z4 := free_of_block (off := 4) HBK; clear HBK))
    have hn3 : New w w3 := ((HN2.out.then (Chg.alloc _ _ _)).then n2).then n3
    clear n2 n3 k2
    refine bodyPost_ret (v := ?_) ?_ rfl ?_
    rotate_left 1
    · simp [results, Try.results55, go_sem, r0, r1, r2, r3, r4]
      rfl
    exact ⟨set5_new hn3 (by omega) _ _ _ _ _, .inr ⟨rfl, _, rfl⟩⟩
  · have HV := Lib.hid hV1; clear hV1
    go_wp2_with (first
      | (go_at_call 78; refine (joint_any (some b0) a1 a3 a4 false V1 true _ HS2.out (by simpa using HV.out)).mono ?_; rintro e w2 ⟨rfl, n2⟩; obtain ⟨ln2, nx2, T2, hr2, hi2⟩ := HSO.out.new n2; have q4 := cell_of_block (off := 4) hr2.blk rfl; have HR2 := Lib.hid hr2; have HI2 := Lib.hid hi2; clear hr2 hi2)
      | (at_range; refine set_range rfl _ _ rfl mt69 rfl HR2.out.sn.1 ?_; intro w3 r3 s3 z3)
      | fail)
    have hn2 : New w w2 := (HN2.out.then (Chg.alloc _ _ _)).then n2
    have hbox2 := n2.keeps (block_alloc HBOX.out _) (by simp)
    have hres2 := n2.keeps (block_alloc HRES.out _) (by simp)
    have HNW2 := Lib.hid hn2; have HBOX2 := Lib.hid hbox2; have HRES2 := Lib.hid hres2
    clear hn2 hbox2 hres2 n2 b0' b1' b2' b3' b4' b5' b6' b7' b8' b9' q4
    clear HSO HS2 HBOX HRES
    go_frame
    go_loopg [9] N.length (fun n _ wr => ∃ (done L' : List Int) (ln' : Option Nat) (T' : List (Int × Nat × Bool)), N.length ≤ done.length + n ∧ RangS wr w2.heap.size nx2 N done ∧ Raw wr (fun i => w.heap.size + 2 ≤ i) w1.heap.size b0 false a1 ln' nx2 tk1 V0 V1 L' N T' ∧ (∀ x, x ∈ L' ↔ x ∈ L ∨ x ∈ done) ∧ K1 T2 T' L' ∧ Chg w2 wr (fun i => w.heap.size + 2 ≤ i))
    case atStart =>
      exact ⟨[], L, ln2, T2, by simp, r3, HR2.out.new s3.chg, by simp, ⟨fun x => Iff.rfl, HI2.out.flag⟩, s3.chg.mono (fun _ _ h => absurd h (by simp))⟩
    case round =>
      obtain ⟨done, L', ln', T', hn, hr, hraw, hLL, hk1, hch⟩ := hrel
      have HL := Lib.hid hn; have HR := Lib.hid hr; have HRW := Lib.hid hraw; have HLL := Lib.hid hLL; have HK1 := Lib.hid hk1; have HCH := Lib.hid hch
      clear hn hr hraw hLL hk1 hch r3 s3 z3
      go_wp2_with (first
        | (at_next; refine set_next rfl _ rfl rfl HR.out ?_ ?_)
        | fail)
      · intro hp
        have q4 := cell_of_block (off := 4) HRW.out.blk rfl; have q0 := cell_of_block (off := 0) HRW.out.blk rfl; have q1 := cell_of_block (off := 1) HRW.out.blk rfl
        have y4 := free_of_block (off := 4) HRW.out.blk
        have hcs : CellSet wr w1.heap.size 4 #[.map (some b0), .map a1, .bool false, .map ln', .map nx2] 85 nx2 [] none (wr.setCell ⟨w1.heap.size, 4, none⟩ (.map none)) :=
          ⟨block_setCell HRW.out.blk _, ⟨SetV.nil _, by simp⟩, .inr (.inl rfl), Chg.setCell _ _ _ _ (fun _ => .inl rfl)⟩
        have hrw2 := HRW.out.setN hcs
        have hch2 : Chg w2 (wr.setCell ⟨w1.heap.size, 4, none⟩ (.map none)) (fun i => w.heap.size + 2 ≤ i) := HCH.out.trans (cellset_chg hcs (F := fun i => w.heap.size + 2 ≤ i) HRW.out.cbB (fun i e => HRW.out.fresh i (by rw [e]; simp))) (fun _ _ h => h) (fun _ _ h => h)
        have hLN : ∀ x, x ∈ L' ↔ x ∈ L ∨ x ∈ N := fun x => by rw [HLL.out x, hp.mem_iff]
        have HRW2 := Lib.hid hrw2; have HCH2 := Lib.hid hch2; have HLN := Lib.hid hLN
        clear hrw2 hch2 hLN hcs HR HL HCH HLL hp
        go_wp2_with (first
          | (go_at_call 84; refine (outgoing_any (some b0) a1 _).mono ?_; rintro e w4 ⟨rfl, n4⟩)
          | (at_range; refine set_range rfl _ _ rfl mt70 rfl (HRW2.out.s1.1.chg n4 (by simp)) ?_; intro w5 r5 s5 z5)
          | fail)
        have hrw5 := (HRW2.out.new n4).new s5.chg
        have hch5 : Chg w2 w5 (fun i => w.heap.size + 2 ≤ i) := (HCH2.out.trans n4 (fun _ _ h => h) (fun _ _ h => absurd h (by simp))).trans s5.chg (fun _ _ h => h) (fun _ _ h => absurd h (by simp))
        have hz24 : w2.heap.size ≤ w4.heap.size := Nat.le_trans HCH2.out.size n4.size
        have HRW5 := Lib.hid hrw5; have HCH5 := Lib.hid hch5; have HZ24 := Lib.hid hz24; clear hz24
        clear hrw5 hch5 n4 s5 z5 q0 q1 q4 y4 HRW HRW2 HCH2
        go_frame
        go_loopg [10, 11, 12, 13, 14] V1.length (fun n _ _ _ _ _ wr => ∃ (done : List Int) (T3 : List (Int × Nat × Bool)), V1.length ≤ done.length + n ∧ RangS wr w4.heap.size a1 V1 done ∧ Raw wr (fun i => w.heap.size + 2 ≤ i) w1.heap.size b0 false a1 ln' none tk1 V0 V1 L' [] T3 ∧ K2 T' T3 V0 L' done ∧ Chg w2 wr (fun i => w.heap.size + 2 ≤ i))
        case atStart => exact ⟨[], T', by simp, r5, HRW5.out, fun t => by simp, HCH5.out⟩
        case round =>
          obtain ⟨done, T3, hn, hr, hraw, hk2, hch⟩ := hrel
          have HL := Lib.hid hn; have HR := Lib.hid hr; have HRW := Lib.hid hraw; have HK2 := Lib.hid hk2; have HCH := Lib.hid hch
          clear hn hr hraw hk2 hch r5
          go_wp2_with (first
            | (at_next; refine set_next rfl _ rfl rfl HR.out ?_ ?_)
            | fail)
          · intro hp
            have q0 := cell_of_block (off := 0) HRW.out.blk rfl; have q1 := cell_of_block (off := 1) HRW.out.blk rfl; have q2 := cell_of_block (off := 2) HRW.out.blk rfl; have q3 := cell_of_block (off := 3) HRW.out.blk rfl; have q4 := cell_of_block (off := 4) HRW.out.blk rfl
            have y1 := free_of_block (off := 1) HRW.out.blk; have y2 := free_of_block (off := 2) HRW.out.blk
            have c5 : Chg wr (wr.setCell ⟨w1.heap.size, 1, none⟩ (.map none)) (fun i => i = w1.heap.size) := Chg.setCell _ _ _ _ (fun _ => rfl)
            have hb5 : (wr.setCell ⟨w1.heap.size, 1, none⟩ (.map none)).heap[w1.heap.size]? = some (.cells #[.map (some b0), .map none, .bool false, .map ln', .map none] 85 (0, 0)) := by rw [block_setCell HRW.out.blk]; rfl
            have hr5 : Raw (wr.setCell ⟨w1.heap.size, 1, none⟩ (.map none)) (fun i => w.heap.size + 2 ≤ i) w1.heap.size b0 false none ln' none tk1 V0 [] L' [] T3 := HRW.out.set1 c5 hb5 ⟨SetV.nil _, by simp⟩ (fun b e => by cases e)
            have c6 : Chg (wr.setCell ⟨w1.heap.size, 1, none⟩ (.map none)) ((wr.setCell ⟨w1.heap.size, 1, none⟩ (.map none)).setCell ⟨w1.heap.size, 2, none⟩ (.bool false)) (fun i => i = w1.heap.size) := Chg.setCell _ _ _ _ (fun _ => rfl)
            have hb6 : ((wr.setCell ⟨w1.heap.size, 1, none⟩ (.map none)).setCell ⟨w1.heap.size, 2, none⟩ (.bool false)).heap[w1.heap.size]? = some (.cells #[.map (some b0), .map none, .bool false, .map ln', .map none] 85 (0, 0)) := by rw [block_setCell hb5]; rfl
            have hr6 := hr5.auto c6 hb6
            have hch6 : Chg w2 ((wr.setCell ⟨w1.heap.size, 1, none⟩ (.map none)).setCell ⟨w1.heap.size, 2, none⟩ (.bool false)) (fun i => w.heap.size + 2 ≤ i) := (HCH.out.trans c5 (fun _ _ h => h) (fun i hi e => by subst e; exact HZ1.out)).trans c6 (fun _ _ h => h) (fun i hi e => by subst e; exact HZ1.out)
            have hres6 := hch6.keeps HRES2.out (by omega)
            have hnw6 := HNW2.out.trans hch6 (fun _ _ h => h) (fun i hi e => by omega)
            have hinv := left_inv HI2.out HK1.out HLN.out HK2.out (fun x => hp.mem_iff)
            have HR6 := Lib.hid hr6; have HRES6 := Lib.hid hres6; have HNW6 := Lib.hid hnw6; have HINV := Lib.hid hinv
            clear c5 hb5 hr5 c6 hb6 hr6 hch6 hres6 hnw6 hinv hp HR HL HCH
            go_wp2_with (first
              | (go_at_call 83; refine (outptr_any w1.heap.size _).mono ?_; rintro e w7 ⟨rfl, rfl⟩)
              | (go_at_call 82; refine (ret_any (some b0) none ln' none (some tk1) false V0 [] L' [] T3 _ ⟨HR6.out.s0, HR6.out.s1, HR6.out.sl, HR6.out.sn⟩ HR6.out.trk HINV.out (fun _ => rfl)).mono ?_; rintro e w6 ⟨rfl, n6⟩; have HBK := n6.keeps HRES6.out (by simp); have r0 := cell_of_block (off := 0) HBK rfl; have r1 := cell_of_block (off := 1) HBK rfl; have r2 := cell_of_block (off := 2) HBK rfl; have r3 := cell_of_block (off := 3) HBK rfl; have r4 := cell_of_block (off := 4) HBK rfl; have z0 := free_of_block (off := 0) HBK; have z1 := free_of_block (off := 1) HBK; have z2 := free_of_block (off := 2) HBK; have z3 := free_of_block (off := 3) HBK; have z4 := free_of_block (off := 4) HBK)
              | fail)
            have hn7 : New w w6 := HNW6.out.then n6
            have hgood := fun a b c' d e => Good.set5 (w := w6) (v0 := some b0) (v1 := none) (ln := ln') (nx := none) (tk := tk1) (V0 := V0) (V1 := []) (L := L') (N := []) (T := T3) ⟨HR6.out.s0.chg n6 (by simp), ⟨HR6.out.s1.1.chg n6 (by simp), HR6.out.s1.2⟩, ⟨HR6.out.sl.1.chg n6 (by simp), HR6.out.sl.2⟩, ⟨HR6.out.sn.1.chg n6 (by simp), HR6.out.sn.2⟩⟩ (by simp) (HR6.out.trk.new n6) HINV.out false HBK a b c' d e
            have hnd := HR6.out.sl.1.nodup
            clear n6
            refine bodyPost_ret (v := ?_) ?_ rfl ?_
            rotate_left 1
            · simp [results, Try.results55, go_sem, r0, r1, r2, r3, r4]
              rfl
            exact ⟨set5_new hn7 (by omega) _ _ _ _ _, .inl ⟨HV.out, L', hnd, HLN.out, hgood _ _ _ _ _⟩⟩
          · intro k w6 hk hnk r6 s6 z6 hen
            have hrw6 := HRW.out.iter HR.out s6.chg
            have hw45 : w2.heap.size ≤ w4.heap.size := HZ24.out
            have hc6 : Chg w2 w6 (fun i => w.heap.size + 2 ≤ i) := HCH.out.trans s6.chg (fun _ _ h => h) (fun i hi e => by omega)
            have q0 := cell_of_block (off := 0) hrw6.blk rfl; have q1 := cell_of_block (off := 1) hrw6.blk rfl
            have HRW6 := Lib.hid hrw6; have HC6 := Lib.hid hc6
            have hl6 := r6.len
            simp only [List.length_append, List.length_cons, List.length_nil] at hl6
            clear hrw6 hc6 hw45
            by_cases h0 : k ∈ V0
            · have e0 : decide (k ∈ V0) = true := by simpa using h0
              clear h0
              cases el : decide (k ∈ L')
              · go_wp2_with (first
                  | (go_at_call 81; refine (incoming_any (some b0) a1 _).mono ?_; rintro e w7 ⟨rfl, n7⟩; have q3 := cell_of_block (off := 3) (n7.keeps HRW6.out.blk (by simp)) rfl)
                  | (at_lookup; refine set_lookup rfl _ _ _ rfl mt70 rfl (HRW6.out.s0.chg n7 (by simp)) rfl ?_)
                  | (at_lookup; refine set_lookup rfl _ _ _ rfl mt69 rfl (HRW6.out.sl.1.chg (n7.then (Chg.alloc _ _ _)) (by simp)) rfl ?_)
                  | (at_delete; refine op_delete rfl _ _ _ rfl mt87 rfl ((HRW6.out.trk.new ((n7.then (Chg.alloc _ _ _)).then (Chg.alloc _ _ _))).map) rfl ?_; intro w8 t8)
                  | fail)
                go_roundg (gk - 1)
                case measure => have := HL.out; omega
                case rel =>
                  have nn : New w6 ((w7.alloc (.cells #[] 139)).alloc (.cells #[] 139)) := (n7.then (Chg.alloc _ _ _)).then (Chg.alloc _ _ _)
                  exact ⟨done ++ [k], T3, by have := HL.out; simp; omega, r6.chg nn (by simp) (by simp), HRW6.out.new nn, HK2.out.keep (by first | exact .inl (of_decide_eq_true e0) | exact .inr (of_decide_eq_true el)), HC6.out.trans nn (fun _ _ h => h) (fun _ _ h => absurd h (by simp))⟩
              · go_wp2_with (first
                  | (go_at_call 81; refine (incoming_any (some b0) a1 _).mono ?_; rintro e w7 ⟨rfl, n7⟩; have q3 := cell_of_block (off := 3) (n7.keeps HRW6.out.blk (by simp)) rfl)
                  | (at_lookup; refine set_lookup rfl _ _ _ rfl mt70 rfl (HRW6.out.s0.chg n7 (by simp)) rfl ?_)
                  | (at_lookup; refine set_lookup rfl _ _ _ rfl mt69 rfl (HRW6.out.sl.1.chg (n7.then (Chg.alloc _ _ _)) (by simp)) rfl ?_)
                  | (at_delete; refine op_delete rfl _ _ _ rfl mt87 rfl ((HRW6.out.trk.new ((n7.then (Chg.alloc _ _ _)).then (Chg.alloc _ _ _))).map) rfl ?_; intro w8 t8)
                  | fail)
                go_roundg (gk - 1)
                case measure => have := HL.out; omega
                case rel =>
                  have nn : New w6 ((w7.alloc (.cells #[] 139)).alloc (.cells #[] 139)) := (n7.then (Chg.alloc _ _ _)).then (Chg.alloc _ _ _)
                  exact ⟨done ++ [k], T3, by have := HL.out; simp; omega, r6.chg nn (by simp) (by simp), HRW6.out.new nn, HK2.out.keep (by first | exact .inl (of_decide_eq_true e0) | exact .inr (of_decide_eq_true el)), HC6.out.trans nn (fun _ _ h => h) (fun _ _ h => absurd h (by simp))⟩
            · have e0 : decide (k ∈ V0) = false := by simpa using h0
              clear h0
              cases el : decide (k ∈ L')
              · go_wp2_with (first
                  | (go_at_call 81; refine (incoming_any (some b0) a1 _).mono ?_; rintro e w7 ⟨rfl, n7⟩; have q3 := cell_of_block (off := 3) (n7.keeps HRW6.out.blk (by simp)) rfl)
                  | (at_lookup; refine set_lookup rfl _ _ _ rfl mt70 rfl (HRW6.out.s0.chg n7 (by simp)) rfl ?_)
                  | (at_lookup; refine set_lookup rfl _ _ _ rfl mt69 rfl (HRW6.out.sl.1.chg (n7.then (Chg.alloc _ _ _)) (by simp)) rfl ?_)
                  | (at_delete; refine op_delete rfl _ _ _ rfl mt87 rfl ((HRW6.out.trk.new ((n7.then (Chg.alloc _ _ _)).then (Chg.alloc _ _ _))).map) rfl ?_; intro w8 t8)
                  | fail)
                simp only [Act.put]
                go_roundg (gk - 1)
                case measure => have := HL.out; omega
                case rel =>
                  have nn : New w6 ((w7.alloc (.cells #[] 139)).alloc (.cells #[] 139)) := (n7.then (Chg.alloc _ _ _)).then (Chg.alloc _ _ _)
                  have hrn := HRW6.out.new nn
                  have hmap := t8.map
                  rw [del_tents] at hmap
                  have hs4 := hrn.setT t8.chg hmap (fun t ht => ⟨hrn.trk.prog t (mem_rmT.1 ht).1, hrn.pfresh t (mem_rmT.1 ht).1⟩) ((List.Sublist.map _ List.filter_sublist).nodup hrn.trk.apart)
                  have r8 := r6.chg nn (by simp) (by simp)
                  refine ⟨done ++ [k], rmT T3 k, by have := HL.out; simp; omega, r8.chg t8.chg (fun e => r8.ne_map hrn.trk.map e.symm) (fun b e e' => hrn.ap.a1t (by rw [e, e'])), hs4, HK2.out.strike (of_decide_eq_false e0) (of_decide_eq_false el), ?_⟩
                  exact (HC6.out.trans nn (fun _ _ h => h) (fun _ _ h => absurd h (by simp))).trans t8.chg (fun _ _ h => h) (fun i hi e => by subst e; exact hrn.fresh _ (by simp))
              · go_wp2_with (first
                  | (go_at_call 81; refine (incoming_any (some b0) a1 _).mono ?_; rintro e w7 ⟨rfl, n7⟩; have q3 := cell_of_block (off := 3) (n7.keeps HRW6.out.blk (by simp)) rfl)
                  | (at_lookup; refine set_lookup rfl _ _ _ rfl mt70 rfl (HRW6.out.s0.chg n7 (by simp)) rfl ?_)
                  | (at_lookup; refine set_lookup rfl _ _ _ rfl mt69 rfl (HRW6.out.sl.1.chg (n7.then (Chg.alloc _ _ _)) (by simp)) rfl ?_)
                  | (at_delete; refine op_delete rfl _ _ _ rfl mt87 rfl ((HRW6.out.trk.new ((n7.then (Chg.alloc _ _ _)).then (Chg.alloc _ _ _))).map) rfl ?_; intro w8 t8)
                  | fail)
                go_roundg (gk - 1)
                case measure => have := HL.out; omega
                case rel =>
                  have nn : New w6 ((w7.alloc (.cells #[] 139)).alloc (.cells #[] 139)) := (n7.then (Chg.alloc _ _ _)).then (Chg.alloc _ _ _)
                  exact ⟨done ++ [k], T3, by have := HL.out; simp; omega, r6.chg nn (by simp) (by simp), HRW6.out.new nn, HK2.out.keep (by first | exact .inl (of_decide_eq_true e0) | exact .inr (of_decide_eq_true el)), HC6.out.trans nn (fun _ _ h => h) (fun _ _ h => absurd h (by simp))⟩
      · intro k w4 hk hnk r4 s4 z4 hen
        have hrw4 := HRW.out.iter HR.out s4.chg
        have hmk : ∃ p f, (k, p, f) ∈ T' ∧ look (tents T') k = some (.pointer (some ⟨p, 0, none⟩)) := by
          have h1 := (HI2.out.next k hk).1
          have h2 := (HK1.out.keys k).2 (HI2.out.sub k (.inr (.inl h1)))
          obtain ⟨t, ht, e⟩ := h2
          rcases look_tents T' k with ⟨h1, _⟩ | ⟨t', h1, h2, h3⟩
          · exact absurd e (h1 t ht)
          · exact ⟨t'.2.1, t'.2.2, by rw [← h2]; exact h1, h3⟩
        obtain ⟨p, f, hm, hp⟩ := hmk
        have hc4 : Chg w2 w4 (fun i => w.heap.size + 2 ≤ i) := HCH.out.trans s4.chg (fun _ _ h => h) (fun i hi e => by omega)
        have HRW4 := Lib.hid hrw4; have HM := Lib.hid hm; have HC4 := Lib.hid hc4
        clear hrw4 hm hc4
        go_wp2_with fail
        with_reducible refine (add_any w1.heap.size 3 #[.map (some b0), .map a1, .bool false, .map ln', .map nx2] 85 ln' L' k _ HRW4.out.blk (idx3 _ _ _ _ _) HRW4.out.sl).mono ?_
        rintro e w5 ⟨rfl, ln5, hc5⟩
        have HR5 := Lib.hid (HRW4.out.setL hc5)
        have HC5 := Lib.hid hc5; clear hc5
        obtain ⟨q, hq⟩ := HR5.out.trk.prog _ HM.out
        have p8 : w5.cell? ⟨p, 8, none⟩ = some (.bool f) := cell_of_block hq rfl
        have z8 : w5.frozen? ⟨p, 8, none⟩ = false := free_of_block hq
        have HR6 := Lib.hid (HR5.out.flag HM.out true)
        clear hq
        go_wp2_with (first | (at_lookup; refine op_lookup rfl _ _ _ rfl mt87 rfl HR5.out.trk.map rfl ?_))
        have hl4 := r4.len
        simp only [List.length_append, List.length_cons, List.length_nil] at hl4
        go_roundg (gk - 1)
        case measure => have := HL.out; omega
        case rel =>
          have hap := HRW4.out.ap
          have hcb := HRW4.out.cb_ne
          have hpf := HR5.out.pfresh _ HM.out
          refine ⟨done ++ [k], ins L' k, ln5, mark T' k true, by have := HL.out; simp; omega, (r4.chg HC5.out.chg ?_ ?_).setCell _ _, HR6.out, fun x => ?_, HK1.out.mark k, ?_⟩
          · rintro (h | h)
            · exact r4.ne_cells HRW4.out.blk h.symm
            · exact NSet.ne_iter r4 HRW4.out.sl h
          · rintro b e (h | h)
            · exact hcb.2.2.2.2 (by rw [e, h])
            · exact hap.aln b h e
          · rw [mem_ins, HLL.out x]; simp [or_assoc]
          · exact (HC4.out.then (cellset_chg HC5.out (F := fun i => w.heap.size + 2 ≤ i) HRW4.out.cbB (fun i e => HRW4.out.fresh i (by rw [e]; simp)))).then (Chg.setCell _ _ _ _ (fun _ => hpf))
end Go.Proofs.Ytcgccoigjcdjeaa
