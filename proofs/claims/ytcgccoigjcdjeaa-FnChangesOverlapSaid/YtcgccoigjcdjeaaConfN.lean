/- confchange.Changer.Simple ahead of a state that is not joint. Condition: the kinds 0, 1, 3; fewer than 400000 members and changes. -/
import Derived.Test.YtcgccoigjcdjeaaConfM
namespace Go.Proofs.Ytcgccoigjcdjeaa
open Go.RowKit

theorem ins_len (s : List Int) (k : Int) : (ins s k).length ≤ s.length + 1 := by unfold ins; split <;> simp
theorem out_len (s : List Int) (k : Int) : (out s k).length ≤ s.length := List.length_filter_le _ _
theorem step_len (V1 : List Int) (c : Cf) (x : Int × Int) : (stepC V1 c x).1.length ≤ c.1.length + 1 := by
  have h1 := ins_len c.1 x.2
  have h2 := out_len c.1 x.2
  unfold stepC
  split
  · omega
  split
  · exact h1
  split
  · split
    · show (out c.1 x.2).length ≤ _; omega
    · show (out c.1 x.2).length ≤ _; omega
  split
  · show (out c.1 x.2).length ≤ _; omega
  · omega
theorem fold_len (V1 : List Int) (l : List (Int × Int)) : ∀ c : Cf, (foldC V1 c l).1.length ≤ c.1.length + l.length := by
  induction l with
  | nil => intro c; exact Nat.le_refl _
  | cons x l ih =>
    intro c
    have h1 := ih (stepC V1 c x)
    have h2 := step_len V1 c x
    show (foldC V1 (stepC V1 c x) l).1.length ≤ _
    simp only [List.length_cons]; omega
theorem Ccs.new {w w' : World} {F G : Nat → Prop} {sv : Value} {l : List (Int × Int)} (h : Ccs w F sv l) (c : New w w') (hG : ∀ i, i < w.heap.size → G i → F i) : Ccs w' G sv l := by
  obtain ⟨ao, cap, rfl, h⟩ := h
  refine ⟨ao, cap, rfl, fun i hi => ?_⟩
  obtain ⟨sb, so, pb, e, f1, f2, l1, l2, c0, c1, c2⟩ := h i hi
  have := c.size
  exact ⟨sb, so, pb, e, fun g => f1 (hG _ l1 g), fun g => f2 (hG _ l2 g), by omega, by omega, (c.cell l1 (by simp)).trans c0, (c.cell l2 (by simp)).trans c1, (c.cell l2 (by simp)).trans c2⟩

set_option maxRecDepth 100000 in
set_option maxHeartbeats 1600000 in
theorem simple_plain (v0 v1 ln nx tk vt : Option Nat) (al : Bool) (V0 L N : List Int) (T : List (Int × Nat × Bool)) (sv : Value) (l : List (Int × Int)) (w : World)
    (hc : CfgV w v0 v1 ln nx V0 [] L N) (h0 : v0 ≠ none) (ht : TrkV w tk T) (hi : Inv V0 [] L N T) (hl : Ccs w (fun i => w.heap.size ≤ i) sv l) (hk : ∀ x ∈ l, x.1 = 0 ∨ x.1 = 1 ∨ x.1 = 3) (hn : V0.length + l.length ≤ 400000) :
    Calls Try.prog 53 #[chgOf v0 v1 al ln nx tk vt, sv] w (Simpled w V0 [] L N l) := by
  have hcf : ∀ o1 o2, CfgV ((w.alloc o1).alloc o2) v0 v1 ln nx V0 [] L N := fun o1 o2 => ⟨(hc.s0.alloc _).alloc _, ⟨(hc.s1.1.alloc _).alloc _, hc.s1.2⟩, ⟨(hc.sl.1.alloc _).alloc _, hc.sl.2⟩, ⟨(hc.sn.1.alloc _).alloc _, hc.sn.2⟩⟩
  have hfl := fold_len [] l (V0, L, N)
  have hs00 := hc.s0
  have HC := Lib.hid hcf; have HT := Lib.hid ht; have HI := Lib.hid hi; have H0 := Lib.hid h0; have HCC := Lib.hid hl; have HK := Lib.hid hk; have HN := Lib.hid hn; have HFL := Lib.hid hfl; have HS00 := Lib.hid hs00; clear hc hcf ht hi h0 hl hk hn hfl hs00
  unfold chgOf
  go_enter Try.func53, Try.ntmps53
  go_wp2_with fail
  refine (copy_any v0 v1 ln nx tk vt al V0 [] L N T _ (HC.out _ _) H0.out ((HT.out.alloc _).alloc _) HI.out).mono ?_
  rintro e w1 ⟨a0, a1, a3, a4, tk1, T1, rfl, hst, hn1⟩
  have hs2 : SetV (w1.alloc (.cells #[.map a0, .map a1, .bool false, .map a3, .map a4] 85)) a1 [] := hst.cfg.s1.1.alloc _
  have hbox := hn1.keeps (block_alloc (block_new w _) _) (by simp)
  have hres := hn1.keeps (block_new1 w _ _) (by simp)
  have hn2 : New w w1 := ((Chg.alloc w _ _).then (Chg.alloc _ _ _)).then hn1
  simp only [World.size_alloc] at hst
  have hsz1 : w.heap.size + 2 ≤ w1.heap.size := by have := hn1.size; simpa using this
  obtain ⟨b0, rfl, hso⟩ := hst.sound hsz1 false
  have HS2 := Lib.hid hs2; have HBOX := Lib.hid hbox; have HRES := Lib.hid hres; have HN2 := Lib.hid hn2; have HSO := Lib.hid hso; have HZ1 := Lib.hid hsz1
  clear hst hn1 hs2 hbox hres hn2 hso hsz1
  have b0' : w1.cell? ⟨w.heap.size, 0, none⟩ = some (.map v0) := cell_of_block HBOX.out rfl
  have b1' : w1.cell? ⟨w.heap.size, 1, none⟩ = some (.map v1) := cell_of_block HBOX.out rfl
  have b2' : w1.cell? ⟨w.heap.size, 2, none⟩ = some (.bool al) := cell_of_block HBOX.out rfl
  have b3' : w1.cell? ⟨w.heap.size, 3, none⟩ = some (.map ln) := cell_of_block HBOX.out rfl
  have b4' : w1.cell? ⟨w.heap.size, 4, none⟩ = some (.map nx) := cell_of_block HBOX.out rfl
  have b5' : w1.cell? ⟨w.heap.size, 5, none⟩ = some (.map tk) := cell_of_block HBOX.out rfl
  have b6' : w1.cell? ⟨w.heap.size, 6, none⟩ = some (.map vt) := cell_of_block HBOX.out rfl
  have b7' : w1.cell? ⟨w.heap.size, 7, none⟩ = some (.int .i64 10) := cell_of_block HBOX.out rfl
  have b8' : w1.cell? ⟨w.heap.size, 8, none⟩ = some (.int .u64 0) := cell_of_block HBOX.out rfl
  have b9' : w1.cell? ⟨w.heap.size, 9, none⟩ = some (.int .u64 1) := cell_of_block HBOX.out rfl
  go_wp2_with (first
    | (go_at_call 78; refine (joint_any (some b0) a1 a3 a4 false [] false _ HS2.out (by simp)).mono ?_; rintro e w2 ⟨rfl, n2⟩; have k2 := n2.rule)
    | fail)
  have hbox2 := n2.keeps (block_alloc HBOX.out _) (by simp)
  have hres2 := n2.keeps (block_alloc HRES.out _) (by simp)
  have hn3 : New w w2 := (HN2.out.then (Chg.alloc _ _ _)).then n2
  have hso2 := HSO.out.new n2
  have hcc2 : Ccs w2 (fun i => w.heap.size + 2 ≤ i) sv l := HCC.out.new hn3 (fun i h1 h2 => by omega)
  have HBOX2 := Lib.hid hbox2; have HRES2 := Lib.hid hres2; have HN3 := Lib.hid hn3; have HSO2 := Lib.hid hso2; have HCC2 := Lib.hid hcc2
  clear hbox2 hres2 hn3 hso2 hcc2 n2 k2 b0' b1' b2' b3' b4' b5' b6' b7' b8' b9'
  refine (apply_any v0 v1 ln nx tk vt al w2 (fun i => w.heap.size + 2 ≤ i) w1.heap.size b0 false a1 tk1 V0 [] L N sv l HSO2.out HCC2.out HK.out (by have := HN.out; omega)).mono ?_
  rintro e w3 ⟨hso3, hch3, hend⟩
  have hbox3 := hch3.keeps HBOX2.out (by show ¬ (_ ≤ _); omega)
  have hres3 := hch3.keeps HRES2.out (by show ¬ (_ ≤ _); omega)
  have hn4 : New w w3 := HN3.out.trans hch3 (fun _ _ h => h) (fun i hi h => by have : w.heap.size + 2 ≤ i := h; omega)
  have HBOX3 := Lib.hid hbox3; have HRES3 := Lib.hid hres3; have HN4 := Lib.hid hn4; have HSO3 := Lib.hid hso3; have HZ3 := Lib.hid hch3.size
  clear hso3 hch3 hbox3 hres3 hn4
  generalize hcdef : foldC [] (V0, L, N) l = c at *
  have HCD := Lib.hid hcdef; clear hcdef
  have b0' : w3.cell? ⟨w.heap.size, 0, none⟩ = some (.map v0) := cell_of_block HBOX3.out rfl
  have b1' : w3.cell? ⟨w.heap.size, 1, none⟩ = some (.map v1) := cell_of_block HBOX3.out rfl
  rcases hend with ⟨hne, rfl⟩ | ⟨hnil, se, rfl⟩
  · have HNE := Lib.hid hne; clear hne
    obtain ⟨c0', c1', -, -⟩ := HSO3.out.voters
    have sA : SetV w3.drew v0 V0 := HS00.out.chg (HN4.out.then (Chg.drew w3 _)) (by simp)
    have sB : SetV w3.drew (some b0) c.1 := HSO3.out.voters.2.2.1.chg (Chg.drew w3 (fun _ => False)) (by simp)
    have nn : New w3 w3.drew := Chg.drew w3 _
    have hle : V0.length + c.1.length ≤ 1000000 := by have h1 := HFL.out; have h2 := HN.out; omega
    have HLE := Lib.hid hle; have NN := Lib.hid nn; have SA := Lib.hid sA; have SB := Lib.hid sB
    clear hle nn sA sB
    go_wp2_with fail
    go_region_held3 (fun w' => w'.cell? ⟨w.heap.size, 0, none⟩ = some (.map v0) ∧ w'.cell? ⟨w.heap.size, 1, none⟩ = some (.map v1) ∧ w'.cell? ⟨w1.heap.size, 0, none⟩ = some (.map (some b0)) ∧ w'.cell? ⟨w1.heap.size, 1, none⟩ = some (.map a1)) (go_keep)
      (first
        | (go_at_call 81; refine (incoming_any _ _ _).mono ?_; rintro e w4 ⟨rfl, n4⟩; have k4 := n4.rule; replace NN := Lib.hid (NN.out.then n4); replace SA := Lib.hid (SA.out.chg n4 (fun _ _ h => h)); replace SB := Lib.hid (SB.out.chg n4 (fun _ _ h => h)); clear n4)
        | (go_at_call 80; refine (symdiff_any v0 (some b0) V0 c.1 _ SA.out SB.out HLE.out).mono ?_; rintro e w4 ⟨rfl, n4⟩; have k4 := n4.rule; replace NN := Lib.hid (NN.out.then n4); replace SA := Lib.hid (SA.out.chg n4 (fun _ _ h => h)); replace SB := Lib.hid (SB.out.chg n4 (fun _ _ h => h)); clear n4))
    all_goals
      rename_i hH
      clear hH k4 SA SB
      try clear b0' b1' c0' c1'
      have hso5 := HSO3.out.new NN.out
      have hbox5 := NN.out.keeps HBOX3.out (by simp)
      have hres5 := NN.out.keeps HRES3.out (by simp)
      have hn5 : New w w4 := HN4.out.then NN.out
      have HSO5 := Lib.hid hso5; have HRES5 := Lib.hid hres5; have HN5 := Lib.hid hn5
      clear hso5 hbox5 hres5 hn5
      have r0 := cell_of_block (off := 0) HRES5.out rfl; have r1 := cell_of_block (off := 1) HRES5.out rfl; have r2 := cell_of_block (off := 2) HRES5.out rfl; have r3 := cell_of_block (off := 3) HRES5.out rfl; have r4 := cell_of_block (off := 4) HRES5.out rfl
      have z0 := free_of_block (off := 0) HRES5.out; have z1 := free_of_block (off := 1) HRES5.out; have z2 := free_of_block (off := 2) HRES5.out; have z3 := free_of_block (off := 3) HRES5.out; have z4 := free_of_block (off := 4) HRES5.out
      by_cases hcn : cnt V0 c.1 + cnt c.1 V0 ≤ 1
      · have hd : decide (1 < (cnt V0 c.1 : Int) + (cnt c.1 V0 : Int)) = false := by simp; omega
        have HCN := Lib.hid hcn; clear hcn
        obtain ⟨ln5, nx5, T5, hb5, hc5, ht5, hi5⟩ := HSO5.out.parts
        have q0 := cell_of_block (off := 0) hb5 rfl; have q1 := cell_of_block (off := 1) hb5 rfl; have q2 := cell_of_block (off := 2) hb5 rfl; have q3 := cell_of_block (off := 3) hb5 rfl; have q4 := cell_of_block (off := 4) hb5 rfl
        have HC5 := Lib.hid hc5; have HT5 := Lib.hid ht5; have HI5 := Lib.hid hi5
        clear hb5 hc5 ht5 hi5
        go_wp2_with (first
          | (go_at_call 82; refine (ret_any (some b0) a1 ln5 nx5 (some tk1) false c.1 [] c.2.1 c.2.2 T5 _ HC5.out HT5.out HI5.out (fun _ => rfl)).mono ?_; rintro e w6 ⟨rfl, n6⟩; have HBK := n6.keeps HRES5.out (by simp); clear r0 r1 r2 r3 r4 z0 z1 z2 z3 z4; have r0 := cell_of_block (off := 0) HBK rfl; have r1 := cell_of_block (off := 1) HBK rfl; have r2 := cell_of_block (off := 2) HBK rfl; have r3 := cell_of_block (off := 3) HBK rfl; have r4 := cell_of_block (off := 4) HBK rfl; have z0 := free_of_block (off := 0) HBK; have z1 := free_of_block (off := 1) HBK; have z2 := free_of_block (off := 2) HBK; have z3 := free_of_block (off := 3) HBK; have z4 := free_of_block (off := 4) HBK))
        have hn7 : New w w6 := HN5.out.then n6
        have hgood := fun a b c' d e => Good.set5 (w := w6) (v0 := some b0) (v1 := a1) (ln := ln5) (nx := nx5) (tk := tk1) (V0 := c.1) (V1 := []) (L := c.2.1) (N := c.2.2) (T := T5) ⟨HC5.out.s0.chg n6 (by simp), ⟨HC5.out.s1.1.chg n6 (by simp), HC5.out.s1.2⟩, ⟨HC5.out.sl.1.chg n6 (by simp), HC5.out.sl.2⟩, ⟨HC5.out.sn.1.chg n6 (by simp), HC5.out.sn.2⟩⟩ (by simp) (HT5.out.new n6) HI5.out false HBK a b c' d e
        clear n6
        refine bodyPost_ret (v := ?_) ?_ rfl ?_
        rotate_left 1
        · simp [results, Try.results53, go_sem, r0, r1, r2, r3, r4]
          rfl
        exact ⟨set5_new hn7 (by omega) _ _ _ _ _, .inl ⟨rfl, by rw [HCD.out]; exact HNE.out, by rw [HCD.out]; exact HCN.out, by rw [HCD.out]; exact hgood _ _ _ _ _⟩⟩
      · have hd : decide (1 < (cnt V0 c.1 : Int) + (cnt c.1 V0 : Int)) = true := by simp; omega
        have HCN := Lib.hid hcn; clear hcn
        go_wp2
        refine bodyPost_ret (v := ?_) ?_ rfl ?_
        rotate_left 1
        · simp [results, Try.results53, go_sem, r0, r1, r2, r3, r4]
          rfl
        exact ⟨set5_new HN5.out (by omega) _ _ _ _ _, .inr ⟨fun h => HCN.out (by have := h.2.2; rw [HCD.out] at this; exact this), _, rfl⟩⟩
  · have HNIL := Lib.hid hnil; clear hnil
    have b2' : w3.cell? ⟨w.heap.size, 2, none⟩ = some (.bool al) := cell_of_block HBOX3.out rfl
    have b3' : w3.cell? ⟨w.heap.size, 3, none⟩ = some (.map ln) := cell_of_block HBOX3.out rfl
    have b4' : w3.cell? ⟨w.heap.size, 4, none⟩ = some (.map nx) := cell_of_block HBOX3.out rfl
    have b5' : w3.cell? ⟨w.heap.size, 5, none⟩ = some (.map tk) := cell_of_block HBOX3.out rfl
    have b6' : w3.cell? ⟨w.heap.size, 6, none⟩ = some (.map vt) := cell_of_block HBOX3.out rfl
    have b7' : w3.cell? ⟨w.heap.size, 7, none⟩ = some (.int .i64 10) := cell_of_block HBOX3.out rfl
    have b8' : w3.cell? ⟨w.heap.size, 8, none⟩ = some (.int .u64 0) := cell_of_block HBOX3.out rfl
    have b9' : w3.cell? ⟨w.heap.size, 9, none⟩ = some (.int .u64 1) := cell_of_block HBOX3.out rfl
    go_wp2_with (first
      | (go_at_call 77; refine (err_any v0 v1 ln nx tk vt al _ _).mono ?_; rintro e w4 ⟨rfl, n4⟩; have HBK := n4.keeps HRES3.out (by simp); have r0 := cell_of_block (off := 0) HBK rfl; have r1 := cell_of_block (off := 1) HBK rfl; have r2 := cell_of_block (off := 2) HBK rfl; have r3 := cell_of_block (off := 3) HBK rfl; have r4 := cell_of_block (off := 4) HBK rfl; have z0 := free_of_block (off := 0) HBK; have z1 := free_of_block (off := 1) HBK; have z2 := free_of_block (off := 2) HBK; have z3 := free_of_block (off := 3) HBK; have z4 := free_of_block (off := 4) HBK; clear HBK))
    have hn5 : New w w4 := HN4.out.then n4
    clear n4
    refine bodyPost_ret (v := ?v) ?h1 rfl ?h2
    case h1 =>
      simp [results, Try.results53, go_sem, r0, r1, r2, r3, r4]
      rfl
    case h2 => exact ⟨set5_new hn5 (by omega) _ _ _ _ _, .inr ⟨fun h => h.2.1 (by rw [HCD.out]; exact HNIL.out), _, rfl⟩⟩
end Go.Proofs.Ytcgccoigjcdjeaa
