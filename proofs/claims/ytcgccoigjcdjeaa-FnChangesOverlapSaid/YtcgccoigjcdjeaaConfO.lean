/- confchange.Changer.EnterJoint. Condition: the kinds 0, 1, 3; at most a million changes. -/
import Derived.Test.YtcgccoigjcdjeaaConfN
namespace Go.Proofs.Ytcgccoigjcdjeaa
open Go.RowKit

theorem Raw.set1 {w w' : World} {F : Nat → Prop} {cb b0 : Nat} {al al' : Bool} {v1 ln nx v1' : Option Nat} {tk : Nat} {V0 V1 V1' L N : List Int} {T : List (Int × Nat × Bool)} (h : Raw w F cb b0 al v1 ln nx tk V0 V1 L N T) (c : Chg w w' (· = cb))
    (hb : w'.heap[cb]? = some (.cells #[.map (some b0), .map v1', .bool al', .map ln, .map nx] 85 (0, 0))) (hs : NSet w' v1' V1') (hn : ∀ b, v1' = some b → w.heap.size ≤ b) : Raw w' F cb b0 al' v1' ln nx tk V0 V1' L N T := by
  have a := h.ap
  have hc := h.cb_ne
  have l0 := h.s0.lt
  have lt' : tk < w.heap.size := MapB.lt h.trk.map
  have lL : ∀ i, ln = some i → i < w.heap.size := fun i e => by have := h.sl.1; rw [e] at this; exact this.lt
  have lN : ∀ i, nx = some i → i < w.heap.size := fun i e => by have := h.sn.1; rw [e] at this; exact this.lt
  refine ⟨hb, h.s0.chg c (fun i e e' => hc.1 (by cases e; exact e'.symm)), hs, ⟨h.sl.1.chg c (fun i e e' => hc.2.2.2.1 (by rw [e, e'])), h.sl.2⟩, ⟨h.sn.1.chg c (fun i e e' => hc.2.2.2.2 (by rw [e, e'])), h.sn.2⟩,
    h.trk.chg c (fun i e e' => hc.2.1 (by cases e; exact e'.symm)) (fun t ht e => (h.prog_ne ht).1 e), ?_, (apart_iff _ _ _ _ _).2 ⟨?_, a.a0l, a.a0n, a.a0t, ?_, a.alt, a.ant, ?_, ?_, a.aln⟩, h.pfresh, h.cbB, fun i hi => h.up i (Nat.le_trans c.size hi)⟩
  · intro b hb'
    have hf := h.fresh b
    simp only [List.mem_cons, List.not_mem_nil, or_false] at hb' hf
    rcases hb' with hb' | hb' | hb' | hb' | hb'
    · exact hf (.inl hb')
    · exact h.up _ (hn b hb'.symm)
    · exact hf (.inr (.inr (.inl hb')))
    · exact hf (.inr (.inr (.inr (.inl hb'))))
    · exact hf (.inr (.inr (.inr (.inr hb'))))
  · intro e; have := hn _ e; omega
  · intro e; have := hn _ e; omega
  · intro i e e'; have := hn _ e; have := lL _ e'; omega
  · intro i e e'; have := hn _ e; have := lN _ e'; omega
theorem Raw.auto {w w' : World} {F : Nat → Prop} {cb b0 : Nat} {al al' : Bool} {v1 ln nx : Option Nat} {tk : Nat} {V0 V1 L N : List Int} {T : List (Int × Nat × Bool)} (h : Raw w F cb b0 al v1 ln nx tk V0 V1 L N T) (c : Chg w w' (· = cb))
    (hb : w'.heap[cb]? = some (.cells #[.map (some b0), .map v1, .bool al', .map ln, .map nx] 85 (0, 0))) : Raw w' F cb b0 al' v1 ln nx tk V0 V1 L N T := by
  have hc := h.cb_ne
  exact ⟨hb, h.s0.chg c (fun i e e' => hc.1 (by cases e; exact e'.symm)), ⟨h.s1.1.chg c (fun i e e' => hc.2.2.1 (by rw [e, e'])), h.s1.2⟩, ⟨h.sl.1.chg c (fun i e e' => hc.2.2.2.1 (by rw [e, e'])), h.sl.2⟩, ⟨h.sn.1.chg c (fun i e e' => hc.2.2.2.2 (by rw [e, e'])), h.sn.2⟩,
    h.trk.chg c (fun i e e' => hc.2.1 (by cases e; exact e'.symm)) (fun t ht e => (h.prog_ne ht).1 e), h.fresh, h.apart, h.pfresh, h.cbB, fun i hi => h.up i (Nat.le_trans c.size hi)⟩
theorem Inv.enter {V0 L N : List Int} {T : List (Int × Nat × Bool)} (h : Inv V0 [] L N T) : Inv V0 V0 L N T :=
  ⟨fun x hx => h.sub x (by rcases hx with h | h | h; exact .inl h; exact .inl h; exact .inr (.inr h)),
    fun t ht => by rcases h.sup t ht with h | h | h; exact .inl h; exact absurd h (by simp); exact .inr (.inr h),
    h.flag, fun x hx => absurd (h.next x hx).1 (by simp), fun x hx => ⟨(h.learn x hx).1, (h.learn x hx).1⟩⟩

theorem outptr_any (b : Nat) (w : World) : Calls Try.prog 83 #[.pointer (some ⟨b, 0, none⟩)] w fun e w' => e = .returned (.pointer (some ⟨b, 1, none⟩)) ∧ w = w' := by
  go_enter Try.func83, Try.ntmps83
  go_wp2
  go_ret
  exact ⟨rfl, rfl⟩
theorem outgoing_any (a b : Option Nat) (w : World) : Calls Try.prog 84 #[.agg #[.map a, .map b]] w fun e w' => e = .returned (.map b) ∧ New w w' := by
  go_enter Try.func84, Try.ntmps84
  go_wp2
  go_ret
  exact ⟨rfl, Chg.alloc _ _ _⟩

def Entered (w : World) (auto : Bool) (V0 V1 L N : List Int) (l : List (Int × Int)) (e : Ending) (w' : World) : Prop :=
  New w w' ∧ ((V1 = [] ∧ V0 ≠ [] ∧ (foldC V0 (V0, L, N) l).1 ≠ [] ∧ Good w' auto (foldC V0 (V0, L, N) l).1 V0 (foldC V0 (V0, L, N) l).2.1 (foldC V0 (V0, L, N) l).2.2 e) ∨
    (¬ (V1 = [] ∧ V0 ≠ [] ∧ (foldC V0 (V0, L, N) l).1 ≠ []) ∧ ErrR e))

set_option maxRecDepth 100000 in
set_option maxHeartbeats 1600000 in
theorem enter_any (auto : Bool) (v0 v1 ln nx tk vt : Option Nat) (al : Bool) (V0 V1 L N : List Int) (T : List (Int × Nat × Bool)) (sv : Value) (l : List (Int × Int)) (w : World)
    (hc : CfgV w v0 v1 ln nx V0 V1 L N) (h0 : v0 ≠ none) (ht : TrkV w tk T) (hi : Inv V0 V1 L N T) (hl : Ccs w (fun i => w.heap.size ≤ i) sv l) (hk : ∀ x ∈ l, x.1 = 0 ∨ x.1 = 1 ∨ x.1 = 3) (hn : l.length ≤ 400000) :
    Calls Try.prog 54 #[chgOf v0 v1 al ln nx tk vt, .bool auto, sv] w (Entered w auto V0 V1 L N l) := by
  have hcf : ∀ o1 o2, CfgV ((w.alloc o1).alloc o2) v0 v1 ln nx V0 V1 L N := fun o1 o2 => ⟨(hc.s0.alloc _).alloc _, ⟨(hc.s1.1.alloc _).alloc _, hc.s1.2⟩, ⟨(hc.sl.1.alloc _).alloc _, hc.sl.2⟩, ⟨(hc.sn.1.alloc _).alloc _, hc.sn.2⟩⟩
  have HC := Lib.hid hcf; have HT := Lib.hid ht; have HI := Lib.hid hi; have H0 := Lib.hid h0; have HCC := Lib.hid hl; have HK := Lib.hid hk; have HN := Lib.hid hn; clear hc hcf ht hi h0 hl hk hn
  unfold chgOf
  go_enter Try.func54, Try.ntmps54
  go_wp2_with fail
  refine (copy_any v0 v1 ln nx tk vt al V0 V1 L N T _ (HC.out _ _) H0.out ((HT.out.alloc _).alloc _) HI.out).mono ?_
  rintro e w1 ⟨a0, a1, a3, a4, tk1, T1, rfl, hst, hn1⟩
  have hs2 : SetV (w1.alloc (.cells #[.map a0, .map a1, .bool false, .map a3, .map a4] 85)) a1 V1 := hst.cfg.s1.1.alloc _
  have hbox := hn1.keeps (block_alloc (block_new w _) _) (by simp)
  have hres := hn1.keeps (block_new1 w _ _) (by simp)
  have hn2 : New w w1 := ((Chg.alloc w _ _).then (Chg.alloc _ _ _)).then hn1
  simp only [World.size_alloc] at hst
  have hsz1 : w.heap.size + 2 ≤ w1.heap.size := by have := hn1.size; simpa using this
  obtain ⟨b0, rfl, hso⟩ := hst.sound hsz1 false
  have HS2 := Lib.hid hs2; have HBOX := Lib.hid hbox; have HRES := Lib.hid hres; have HN2 := Lib.hid hn2; have HSO := Lib.hid hso; have HZ1 := Lib.hid hsz1
  clear hst hn1 hs2 hbox hres hn2 hso hsz1
  have b0' : w1.cell? ⟨w.heap.size, 0, none⟩ = some (.map v0) := cell_of_block HBOX.out rfl
  have b1' : w1.cell? ⟨w.heap.size, 1, none⟩ = some (.map v1) := cell_of_block HBOX.out rfl
  have b2' : w1.cell? ⟨w.heap.size, 2, none⟩ = some (.bool al) := cell_of_block HBOX.out rfl
  have b3' : w1.cell? ⟨w.heap.size, 3, none⟩ = some (.map ln) := cell_of_block HBOX.out rfl
  have b4' : w1.cell? ⟨w.heap.size, 4, none⟩ = some (.map nx) := cell_of_block HBOX.out rfl
  have b5' : w1.cell? ⟨w.heap.size, 5, none⟩ = some (.map tk) := cell_of_block HBOX.out rfl
  have b6' : w1.cell? ⟨w.heap.size, 6, none⟩ = some (.map vt) := cell_of_block HBOX.out rfl
  have b7' : w1.cell? ⟨w.heap.size, 7, none⟩ = some (.int .i64 10) := cell_of_block HBOX.out rfl
  have b8' : w1.cell? ⟨w.heap.size, 8, none⟩ = some (.int .u64 0) := cell_of_block HBOX.out rfl
  have b9' : w1.cell? ⟨w.heap.size, 9, none⟩ = some (.int .u64 1) := cell_of_block HBOX.out rfl
  by_cases hV1 : V1 = []
  · subst hV1
    go_wp2_with (first
      | (go_at_call 78; refine (joint_any (some b0) a1 a3 a4 false [] false _ HS2.out (by simp)).mono ?_; rintro e w2 ⟨rfl, n2⟩; have k2 := n2.rule)
      | fail)
    refine (incoming_any (some b0) a1 _).mono ?_
    rintro e w3 ⟨rfl, n3⟩
    have hn3 : New w w3 := ((HN2.out.then (Chg.alloc _ _ _)).then n2).then n3
    have hso3 := (HSO.out.new n2).new n3
    have hbox3 := n3.keeps (n2.keeps (block_alloc HBOX.out _) (by simp)) (by simp)
    have hres3 := n3.keeps (n2.keeps (block_alloc HRES.out _) (by simp)) (by simp)
    obtain ⟨ln3, nx3, T3, hr3, hi3⟩ := hso3
    have HN3 := Lib.hid hn3; have HR3 := Lib.hid hr3; have HI3 := Lib.hid hi3; have HBOX3 := Lib.hid hbox3; have HRES3 := Lib.hid hres3
    clear hn3 hbox3 hres3 hr3 hi3 n2 n3 k2 b0' b1' b2' b3' b4' b5' b6' b7' b8' b9'
    clear HSO HS2 HBOX HRES
    by_cases hV0 : V0 = []
    · subst hV0
      have b0' : w3.cell? ⟨w.heap.size, 0, none⟩ = some (.map v0) := cell_of_block HBOX3.out rfl
      have b1' : w3.cell? ⟨w.heap.size, 1, none⟩ = some (.map v1) := cell_of_block HBOX3.out rfl
      have b2' : w3.cell? ⟨w.heap.size, 2, none⟩ = some (.bool al) := cell_of_block HBOX3.out rfl
      have b3' : w3.cell? ⟨w.heap.size, 3, none⟩ = some (.map ln) := cell_of_block HBOX3.out rfl
      have b4' : w3.cell? ⟨w.heap.size, 4, none⟩ = some (.map nx) := cell_of_block HBOX3.out rfl
      have b5' : w3.cell? ⟨w.heap.size, 5, none⟩ = some (.map tk) := cell_of_block HBOX3.out rfl
      have b6' : w3.cell? ⟨w.heap.size, 6, none⟩ = some (.map vt) := cell_of_block HBOX3.out rfl
      have b7' : w3.cell? ⟨w.heap.size, 7, none⟩ = some (.int .i64 10) := cell_of_block HBOX3.out rfl
      have b8' : w3.cell? ⟨w.heap.size, 8, none⟩ = some (.int .u64 0) := cell_of_block HBOX3.out rfl
      have b9' : w3.cell? ⟨w.heap.size, 9, none⟩ = some (.int .u64 1) := cell_of_block HBOX3.out rfl
      go_wp2_with (first
        | (at_len; refine set_len rfl _ _ rfl mt70 rfl HR3.out.s0 ?_)
        | (go_at_call 77; refine (err_any v0 v1 ln nx tk vt al _ _).mono ?_; rintro e w4 ⟨rfl, n4⟩; have HBK := n4.keeps HRES3.out (by simp); have r0 := cell_of_block (off := 0) HBK rfl; have r1 := cell_of_block (off := 1) HBK rfl; have r2 := cell_of_block (off := 2) HBK rfl; have r3 := cell_of_block (off := 3) HBK rfl; have r4 := cell_of_block (off := 4) HBK rfl; have z0 := free_of_block (off := 0) HBK; have z1 := free_of_block (off := 1) HBK; have z2 := free_of_block (off := 2) HBK; have z3 := free_of_block (off := 3) HBK; have z4 := free_of_block (off := 4) HBK; clear HBK))
      have hn5 : New w w4 := HN3.out.then n4
      clear n4
      refine bodyPost_ret (v := ?_) ?_ rfl ?_
      rotate_left 1
      · simp [results, Try.results54, go_sem, r0, r1, r2, r3, r4]
        rfl
      exact ⟨set5_new hn5 (by omega) _ _ _ _ _, .inr ⟨fun h => h.2.1 rfl, _, rfl⟩⟩
    · have hlen : 0 < V0.length := List.length_pos_iff.2 hV0
      have hlb : ((V0.length : Int) == 0) = false := by simpa using hV0
      have HV0 := Lib.hid hV0; clear hV0
      have q0 := cell_of_block (off := 0) HR3.out.blk rfl; have q1 := cell_of_block (off := 1) HR3.out.blk rfl
      have y1 := free_of_block (off := 1) HR3.out.blk
      go_wp2_with (first
        | (at_len; refine set_len rfl _ _ rfl mt70 rfl HR3.out.s0 ?_)
        | (go_at_call 83; refine (outptr_any w1.heap.size _).mono ?_; rintro e w4 ⟨rfl, rfl⟩)
        | fail)
      have hlt := lt_of_block HR3.out.blk
      have hcn := HR3.out.cb_ne
      have hb0l := HR3.out.s0.lt
      obtain ⟨w4, hw4⟩ : ∃ w4, w4 = ((w3.alloc (.map #[] 0)).setCell ⟨w1.heap.size, 1, none⟩ (.map (some w3.heap.size))) := ⟨_, rfl⟩
      have c4 : Chg w3 w4 (fun i => i = w1.heap.size) := by rw [hw4]; exact (Chg.alloc w3 _ _).then (Chg.setCell _ _ _ _ (fun _ => rfl))
      have hb4 : w4.heap[w1.heap.size]? = some (.cells #[.map (some b0), .map (some w3.heap.size), .bool false, .map ln3, .map nx3] 85 (0, 0)) := by rw [hw4, block_setCell (block_alloc HR3.out.blk _)]; rfl
      have s4 : SetV w4 (some w3.heap.size) [] := by rw [hw4]; exact (SetV.made w3).setCell _ _
      have s04 : SetV w4 (some b0) V0 := HR3.out.s0.chg c4 (fun i e e' => hcn.1 (by cases e; exact e'.symm))
      rw [← hw4]
      clear hw4 q0 q1 y1 hlen hlb
      generalize hb1 : w3.heap.size = b1 at *
      have HB1 := Lib.hid hb1; have C4 := Lib.hid c4; have HB4 := Lib.hid hb4; have S4 := Lib.hid s4; have S04 := Lib.hid s04; have HLT := Lib.hid hlt; have HCN := Lib.hid hcn; have HB0 := Lib.hid hb0l
      clear hb1 c4 hb4 s4 s04 hlt hcn hb0l
      refine (incoming_any (some b0) (some b1) _).mono ?_
      rintro e w5 ⟨rfl, n5⟩
      have N5 := Lib.hid n5; clear n5
      go_wp2_with (first | (at_range; refine set_range rfl _ _ rfl mt70 rfl (S04.out.chg N5.out (by simp)) ?_; intro w6 r6 s6 z6) | fail)
      go_frame
      go_loopg [14] V0.length (fun n _ wr => ∃ done : List Int, V0.length ≤ done.length + n ∧ RangS wr w5.heap.size (some b0) V0 done ∧ SetV wr (some b1) done ∧ wr.heap[w1.heap.size]? = some (.cells #[.map (some b0), .map (some b1), .bool false, .map ln3, .map nx3] 85 (0, 0)) ∧ Chg w3 wr (fun i => i = w1.heap.size))
      case atStart =>
        refine ⟨[], by simp, r6, (S4.out.chg N5.out (by simp)).chg s6.chg (by simp), s6.chg.keeps (N5.out.keeps HB4.out (by simp)) (by simp), (C4.out.trans N5.out (fun _ _ h => h) (fun _ _ h => absurd h (by simp))).trans s6.chg (fun _ _ h => h) (fun _ _ h => absurd h (by simp))⟩
      case round =>
        obtain ⟨done, hn, hr, hset, hblk, hch⟩ := hrel
        have HL := Lib.hid hn; have HR := Lib.hid hr; have HSET := Lib.hid hset; have HBLK := Lib.hid hblk; have HCH := Lib.hid hch
        clear hn hr hset hblk hch r6 s6 z6
        have hz5 : b1 ≤ w5.heap.size := by have h1 := C4.out.size; have h2 := N5.out.size; have h3 := HB1.out; omega
        go_wp2_with (first
          | (at_next; refine set_next rfl _ rfl rfl HR.out ?_ ?_)
          | fail)
        · intro hp
          have hraw := HR3.out.set1 HCH.out HBLK.out ⟨HSET.out.perm hp, by simp; exact HV0.out⟩ (fun b e => by cases e; have h1 := HB1.out; omega)
          have hso : Sound wr (fun i => w.heap.size + 2 ≤ i) w1.heap.size b0 false (some b1) tk1 V0 V0 L N := ⟨ln3, nx3, T3, hraw, HI3.out.enter⟩
          have hnw : New w wr := HN3.out.trans HCH.out (fun _ _ h => h) (fun i hi e => by have h1 := HZ1.out; omega)
          have hbox := HCH.out.keeps HBOX3.out (by have h1 := HZ1.out; omega)
          have hres := HCH.out.keeps HRES3.out (by have h1 := HZ1.out; omega)
          have hccs : Ccs wr (fun i => w.heap.size + 2 ≤ i) sv l := HCC.out.new hnw (fun i h1 h2 => by omega)
          have HSO := Lib.hid hso; have HNW := Lib.hid hnw; have HBOX := Lib.hid hbox; have HRES := Lib.hid hres; have HCCS := Lib.hid hccs; have HZZ := Lib.hid hnw.size
          clear hraw hso hnw hbox hres hccs hp HR HSET HBLK HCH HL HR3
          have b0' : wr.cell? ⟨w.heap.size, 0, none⟩ = some (.map v0) := cell_of_block HBOX.out rfl
          have b1' : wr.cell? ⟨w.heap.size, 1, none⟩ = some (.map v1) := cell_of_block HBOX.out rfl
          have b2' : wr.cell? ⟨w.heap.size, 2, none⟩ = some (.bool al) := cell_of_block HBOX.out rfl
          have b3' : wr.cell? ⟨w.heap.size, 3, none⟩ = some (.map ln) := cell_of_block HBOX.out rfl
          have b4' : wr.cell? ⟨w.heap.size, 4, none⟩ = some (.map nx) := cell_of_block HBOX.out rfl
          have b5' : wr.cell? ⟨w.heap.size, 5, none⟩ = some (.map tk) := cell_of_block HBOX.out rfl
          have b6' : wr.cell? ⟨w.heap.size, 6, none⟩ = some (.map vt) := cell_of_block HBOX.out rfl
          have b7' : wr.cell? ⟨w.heap.size, 7, none⟩ = some (.int .i64 10) := cell_of_block HBOX.out rfl
          have b8' : wr.cell? ⟨w.heap.size, 8, none⟩ = some (.int .u64 0) := cell_of_block HBOX.out rfl
          have b9' : wr.cell? ⟨w.heap.size, 9, none⟩ = some (.int .u64 1) := cell_of_block HBOX.out rfl
          go_wp2_with fail
          refine (apply_any v0 v1 ln nx tk vt al wr (fun i => w.heap.size + 2 ≤ i) w1.heap.size b0 false (some b1) tk1 V0 V0 L N sv l HSO.out HCCS.out HK.out (by have h1 := HN.out; omega)).mono ?_
          rintro e wa ⟨hsoa, hcha, hend⟩
          have hboxa := hcha.keeps HBOX.out (by show ¬ (_ ≤ _); omega)
          have hresa := hcha.keeps HRES.out (by show ¬ (_ ≤ _); omega)
          have hna : New w wa := HNW.out.trans hcha (fun _ _ h => h) (fun i hi h => by have : w.heap.size + 2 ≤ i := h; omega)
          have HBOXA := Lib.hid hboxa; have HRESA := Lib.hid hresa; have HNA := Lib.hid hna; have HSOA := Lib.hid hsoa
          clear hsoa hcha hboxa hresa hna b0' b1' b2' b3' b4' b5' b6' b7' b8' b9'
          generalize hcdef : foldC V0 (V0, L, N) l = c at *
          have HCD := Lib.hid hcdef; clear hcdef
          rcases hend with ⟨hne, rfl⟩ | ⟨hnil, se, rfl⟩
          · have HNE := Lib.hid hne; clear hne
            obtain ⟨ln5, nx5, T5, hr5, hi5⟩ := HSOA.out
            have y2 := free_of_block (off := 2) hr5.blk
            have q0 := cell_of_block (off := 0) hr5.blk rfl; have q1 := cell_of_block (off := 1) hr5.blk rfl; have q2 := cell_of_block (off := 2) hr5.blk rfl; have q3 := cell_of_block (off := 3) hr5.blk rfl; have q4 := cell_of_block (off := 4) hr5.blk rfl
            have c5 : Chg wa (wa.setCell ⟨w1.heap.size, 2, none⟩ (.bool auto)) (fun i => i = w1.heap.size) := Chg.setCell _ _ _ _ (fun _ => rfl)
            have hb5 : (wa.setCell ⟨w1.heap.size, 2, none⟩ (.bool auto)).heap[w1.heap.size]? = some (.cells #[.map (some b0), .map (some b1), .bool auto, .map ln5, .map nx5] 85 (0, 0)) := by rw [block_setCell hr5.blk]; rfl
            have hr6 := hr5.auto c5 hb5
            have hresb := c5.keeps HRESA.out (by have h1 := HZ1.out; omega)
            have hnb : New w (wa.setCell ⟨w1.heap.size, 2, none⟩ (.bool auto)) := HNA.out.trans c5 (fun _ _ h => h) (fun i hi e => by have h1 := HZ1.out; omega)
            have hcfg : CfgV (wa.setCell ⟨w1.heap.size, 2, none⟩ (.bool auto)) (some b0) (some b1) ln5 nx5 c.1 V0 c.2.1 c.2.2 := ⟨hr6.s0, hr6.s1, hr6.sl, hr6.sn⟩
            have htrk := hr6.trk
            have HC5 := Lib.hid hcfg; have HT5 := Lib.hid htrk; have HI5 := Lib.hid hi5; have HRB := Lib.hid hresb; have HNB := Lib.hid hnb
            clear c5 hb5 hr6 hr5 hresb hnb hcfg htrk hi5
            go_wp2_with (first
              | (go_at_call 82; refine (ret_any (some b0) (some b1) ln5 nx5 (some tk1) auto c.1 V0 c.2.1 c.2.2 T5 _ HC5.out HT5.out HI5.out (fun h => absurd h HV0.out)).mono ?_; rintro e w6 ⟨rfl, n6⟩; have HBK := n6.keeps HRB.out (by simp); have r0 := cell_of_block (off := 0) HBK rfl; have r1 := cell_of_block (off := 1) HBK rfl; have r2 := cell_of_block (off := 2) HBK rfl; have r3 := cell_of_block (off := 3) HBK rfl; have r4 := cell_of_block (off := 4) HBK rfl; have z0 := free_of_block (off := 0) HBK; have z1 := free_of_block (off := 1) HBK; have z2 := free_of_block (off := 2) HBK; have z3 := free_of_block (off := 3) HBK; have z4 := free_of_block (off := 4) HBK))
            have hn7 : New w w6 := HNB.out.then n6
            have hgood := fun a b c' d e => Good.set5 (w := w6) (v0 := some b0) (v1 := some b1) (ln := ln5) (nx := nx5) (tk := tk1) (V0 := c.1) (V1 := V0) (L := c.2.1) (N := c.2.2) (T := T5) ⟨HC5.out.s0.chg n6 (by simp), ⟨HC5.out.s1.1.chg n6 (by simp), HC5.out.s1.2⟩, ⟨HC5.out.sl.1.chg n6 (by simp), HC5.out.sl.2⟩, ⟨HC5.out.sn.1.chg n6 (by simp), HC5.out.sn.2⟩⟩ (by simp) (HT5.out.new n6) HI5.out auto HBK a b c' d e
            clear n6
            refine bodyPost_ret (v := ?_) ?_ rfl ?_
            rotate_left 1
            · simp [results, Try.results54, go_sem, r0, r1, r2, r3, r4]
              rfl
            exact ⟨set5_new hn7 (by omega) _ _ _ _ _, .inl ⟨rfl, HV0.out, by rw [HCD.out]; exact HNE.out, by rw [HCD.out]; exact hgood _ _ _ _ _⟩⟩
          · have HNIL := Lib.hid hnil; clear hnil
            have b0' : wa.cell? ⟨w.heap.size, 0, none⟩ = some (.map v0) := cell_of_block HBOXA.out rfl
            have b1' : wa.cell? ⟨w.heap.size, 1, none⟩ = some (.map v1) := cell_of_block HBOXA.out rfl
            have b2' : wa.cell? ⟨w.heap.size, 2, none⟩ = some (.bool al) := cell_of_block HBOXA.out rfl
            have b3' : wa.cell? ⟨w.heap.size, 3, none⟩ = some (.map ln) := cell_of_block HBOXA.out rfl
            have b4' : wa.cell? ⟨w.heap.size, 4, none⟩ = some (.map nx) := cell_of_block HBOXA.out rfl
            have b5' : wa.cell? ⟨w.heap.size, 5, none⟩ = some (.map tk) := cell_of_block HBOXA.out rfl
            have b6' : wa.cell? ⟨w.heap.size, 6, none⟩ = some (.map vt) := cell_of_block HBOXA.out rfl
            have b7' : wa.cell? ⟨w.heap.size, 7, none⟩ = some (.int .i64 10) := cell_of_block HBOXA.out rfl
            have b8' : wa.cell? ⟨w.heap.size, 8, none⟩ = some (.int .u64 0) := cell_of_block HBOXA.out rfl
            have b9' : wa.cell? ⟨w.heap.size, 9, none⟩ = some (.int .u64 1) := cell_of_block HBOXA.out rfl
            go_wp2_with (first
              | (go_at_call 77; refine (err_any v0 v1 ln nx tk vt al _ _).mono ?_; rintro e w8 ⟨rfl, n8⟩; have HBK := n8.keeps HRESA.out (by simp); have r0 := cell_of_block (off := 0) HBK rfl; have r1 := cell_of_block (off := 1) HBK rfl; have r2 := cell_of_block (off := 2) HBK rfl; have r3 := cell_of_block (off := 3) HBK rfl; have r4 := cell_of_block (off := 4) HBK rfl; have z0 := free_of_block (off := 0) HBK; have z1 := free_of_block (off := 1) HBK; have z2 := free_of_block (off := 2) HBK; have z3 := free_of_block (off := 3) HBK; have z4 := free_of_block (off := 4) HBK; clear HBK))
            have hn9 : New w w8 := HNA.out.then n8
            clear n8
            refine bodyPost_ret (v := ?_) ?_ rfl ?_
            rotate_left 1
            · simp [results, Try.results54, go_sem, r0, r1, r2, r3, r4]
              rfl
            exact ⟨set5_new hn9 (by omega) _ _ _ _ _, .inr ⟨fun h => h.2.2 (by rw [HCD.out]; exact HNIL.out), _, rfl⟩⟩
        · intro k w7 hk hnk r7 s7 z7 hen
          have hne : w1.heap.size ≠ w5.heap.size := by have h1 := HLT.out; omega
          have hne1 : b1 ≠ w5.heap.size := HR.out.ne_set HSET.out
          have hblk7 := s7.chg.keeps HBLK.out hne
          have hs7 := HSET.out.chg s7.chg (fun i e e' => hne1 (by cases e; exact e'))
          have q0 := cell_of_block (off := 0) hblk7 rfl; have q1 := cell_of_block (off := 1) hblk7 rfl
          have HS7 := Lib.hid hs7; have HBLK7 := Lib.hid hblk7
          clear hs7 hblk7
          go_wp2_with (first
            | (go_at_call 84; refine (outgoing_any (some b0) (some b1) _).mono ?_; rintro e w8 ⟨rfl, n8⟩)
            | (at_mapUpdate; refine set_update rfl _ _ _ _ rfl mt70 rfl (HS7.out.chg n8 (by simp)) rfl rfl ?_; intro w9 h9 s9 z9)
            | fail)
          have hl7 := r7.len
          simp only [List.length_append, List.length_cons, List.length_nil] at hl7
          simp only [Act.put]
          go_roundg (gk - 1)
          case measure => have := HL.out; omega
          case rel =>
            have hcb1 : w1.heap.size ≠ b1 := by have h1 := HLT.out; omega
            have hb01 : b0 ≠ b1 := by have h1 := HB0.out; omega
            refine ⟨done ++ [k], by have := HL.out; simp; omega, (r7.chg n8 (by simp) (by simp)).chg s9.chg (fun e => hne1 e.symm) (fun b e e' => hb01 (by cases e; exact e')), by rw [← ins_new hnk]; exact h9, s9.chg.keeps (n8.keeps HBLK7.out (by simp)) hcb1, ?_⟩
            exact ((HCH.out.trans s7.chg (fun _ _ h => h) (fun i hi e => by have h1 := HB1.out; omega)).trans n8 (fun _ _ h => h) (fun _ _ h => absurd h (by simp))).trans s9.chg (fun _ _ h => h) (fun i hi e => by have h1 := HB1.out; omega)
  · have HV := Lib.hid hV1; clear hV1
    go_wp2_with (first
      | (go_at_call 78; refine (joint_any (some b0) a1 a3 a4 false V1 true _ HS2.out (by simpa using HV.out)).mono ?_; rintro e w2 ⟨rfl, n2⟩; have k2 := n2.rule)
      | (go_at_call 77; refine (err_any v0 v1 ln nx tk vt al _ _).mono ?_; rintro e w3 ⟨rfl, n3⟩; have HBK := n3.keeps (n2.keeps (block_alloc HRES.out _) (by simp)) (by simp); have r0 := cell_of_block (off := 0) HBK rfl; have r1 := cell_of_block (off := 1) HBK rfl; have r2 := cell_of_block (off := 2) HBK rfl; have r3 := cell_of_block (off := 3) HBK rfl; have r4 := cell_of_block (off := 4) HBK rfl; have z0 := free_of_block (off := 0) HBK; have z1 := free_of_block (off := 1) HBK; have z2 := free_of_block (off := 2) HBK; have z3 := free_of_block (off := 3) HBK; have z4 := free_of_block (off := 4) HBK; clear HBK))
    have hn3 : New w w3 := ((HN2.out.then (Chg.alloc _ _ _)).then n2).then n3
    clear n2 n3 k2
    refine bodyPost_ret (v := ?_) ?_ rfl ?_
    rotate_left 1
    · simp [results, Try.results54, go_sem, r0, r1, r2, r3, r4]
      rfl
    exact ⟨set5_new hn3 (by omega) _ _ _ _ _, .inr ⟨fun h => HV.out h.1, _, rfl⟩⟩
end Go.Proofs.Ytcgccoigjcdjeaa
