/- laws.piVoters with its lists' owners, laws.piConf. Condition: fewer than a million numbers. -/
import Derived.Test.YtcgccoigjcdjeaaChZa
namespace Go.Proofs.Ytcgccoigjcdjeaa
open Go.RowKit Go.Sort

theorem Ow.chgAt {w w' : World} {base : Nat} {v : Value} {l : List Int} {S : Nat → Prop} (h : Ow w base v l) (c : Chg w w' S) (hS : ∀ i, base ≤ i → ¬ S i) : Ow w' base v l :=
  ownsRow_chg h c (fun i hi => hS i (h.lt i hi).1)
set_option maxRecDepth 100000 in
set_option maxHeartbeats 1600000 in
theorem pivoters_own (a b : Value) (l0 l1 : List Int) (w : World) (h0 : Us w a l0) (h1 : Us w b l1) (m0 : NilOk a) (m1 : NilOk b) (n0 : l0.length ≤ 1000000) (n1 : l1.length ≤ 1000000) :
    Calls Try.prog 13 #[.agg #[a, b]] w fun e w' => ∃ oa ca ob cb, e = .returned (.agg #[.slice oa l0.length ca, .slice ob l1.length cb]) ∧ Ow w' w.heap.size (.slice oa l0.length ca) l0 ∧ Ow w' w.heap.size (.slice ob l1.length cb) l1 ∧ New w w' := by
  have n2 : ∀ o1 o2, New w ((w.alloc o1).alloc o2).drew := fun o1 o2 => ((Chg.alloc w _ _).then (Chg.alloc _ _ _)).then (Chg.drew _ _)
  have hsz : ∀ o1 o2, (((w.alloc o1).alloc o2).drew).heap.size = w.heap.size + 2 := fun o1 o2 => by simp
  have H0 := Lib.hid h0; have H1 := Lib.hid h1; have M0 := Lib.hid m0; have M1 := Lib.hid m1; have N0 := Lib.hid n0; have N1 := Lib.hid n1; have HN2 := Lib.hid n2; have HSZ := Lib.hid hsz
  obtain ⟨oa, ca, rfl, _⟩ := h0
  obtain ⟨ob, cb, rfl, _⟩ := h1
  clear m0 m1 n0 n1 n2 hsz
  go_enter Try.func13, Try.ntmps13
  go_wp2_with fail
  go_region_held3 (fun w' => w'.cell? ⟨w.heap.size, 0, none⟩ = some (.slice oa l0.length ca) ∧ w'.cell? ⟨w.heap.size, 1, none⟩ = some (.slice ob l1.length cb)) (go_keep)
    (first
      | (go_at_call 42; ((with_reducible refine (clone42_own (.slice oa l0.length ca) l0 _ (H0.out.new (HN2.out _ _)) N0.out M0.out).mono ?_); rintro e w1 ⟨x0, rfl, s0, p1⟩; have S0 := Lib.hid s0; obtain ⟨xa, ya, rfl, -⟩ := id s0.us; clear s0; have k1 := p1.rule))
      | (go_at_call 42; ((with_reducible refine (clone42_own (.slice ob l1.length cb) l1 _ (H1.out.new ((HN2.out _ _).then p1)) N1.out M1.out).mono ?_); rintro e w2 ⟨x1, rfl, s1, p2⟩; have S1 := Lib.hid s1; obtain ⟨xb, yb, rfl, -⟩ := id s1.us; clear s1; have k2 := p2.rule; have HBK := Lib.hid (p2.keeps (p1.keeps (block_drew (block_new1 w _ _)) (by simp)) (by simp)); have r0 := cell_of_block (off := 0) HBK.out rfl; have r1 := cell_of_block (off := 1) HBK.out rfl; have z0 := free_of_block (off := 0) HBK.out; have z1 := free_of_block (off := 1) HBK.out))
      | fail)
  rename_i hH
  clear hH k1 k2
  have hz1 := p1.size
  have hs0 := (S0.out.new p2).base (base' := w.heap.size + 2) (by rw [HSZ.out]; exact Nat.le_refl _)
  have hs1 := S1.out.base (base' := w.heap.size + 2) (by rw [HSZ.out] at hz1; omega)
  have hnw := ((HN2.out _ _).then p1).then p2
  have T0 := Lib.hid hs0; have T1 := Lib.hid hs1; have HNW := Lib.hid hnw
  clear hs0 hs1 p1 p2 hnw S0 S1 hz1
  go_wp2_with fail
  refine bodyPost_ret (v := ?_) ?_ rfl ?_
  rotate_left 1
  · simp [results, Try.results13, go_sem, r0, r1]
    rfl
  have c1 : ∀ (w' : World) i x, Chg w' (w'.setCell ⟨w.heap.size + 1, i, none⟩ x) (fun i => i = w.heap.size + 1) := fun w' i x => Chg.setCell _ _ _ _ (fun _ => rfl)
  exact ⟨_, _, _, _, rfl, ((T0.out.chgAt (c1 _ _ _) (fun i hi => by omega)).chgAt (c1 _ _ _) (fun i hi => by omega)).base (by omega), ((T1.out.chgAt (c1 _ _ _) (fun i hi => by omega)).chgAt (c1 _ _ _) (fun i hi => by omega)).base (by omega), (HNW.out.trans (c1 _ _ _) (fun _ _ h => h) (fun i hi e => by omega)).trans (c1 _ _ _) (fun _ _ h => h) (fun i hi e => by omega)⟩
/-- a configuration as data whose lists lie behind base -/
def Cow (w : World) (base : Nat) (cv : Value) (V VO L N : List Int) (al : Bool) : Prop :=
  ∃ a b c d, cv = .agg #[a, b, c, d, .bool al] ∧ Ow w base a V ∧ Ow w base b VO ∧ Ow w base c L ∧ Ow w base d N
theorem Cow.cfv {w : World} {base : Nat} {cv : Value} {V VO L N : List Int} {al : Bool} (h : Cow w base cv V VO L N al) : Cfv w cv V VO L N al := by
  obtain ⟨a, b, c, d, rfl, h0, h1, h2, h3⟩ := h
  exact ⟨a, b, c, d, rfl, ⟨h0.us, h0.nilok⟩, ⟨h1.us, h1.nilok⟩, ⟨h2.us, h2.nilok⟩, ⟨h3.us, h3.nilok⟩⟩
set_option maxRecDepth 100000 in
set_option maxHeartbeats 3200000 in
theorem piconf_any (cv : Value) (V VO L N : List Int) (al : Bool) (w : World) (h : Cfv w cv V VO L N al) (hn0 : V.length ≤ 1000000) (hn1 : VO.length ≤ 1000000) (hn2 : L.length ≤ 1000000) (hn3 : N.length ≤ 1000000) :
    Calls Try.prog 23 #[cv] w fun e w' => ∃ cv', e = .returned cv' ∧ Cow w' w.heap.size cv' V VO L N al ∧ New w w' := by
  obtain ⟨a, b, c, d, rfl, ⟨h0, m0⟩, ⟨h1, m1⟩, ⟨h2, m2⟩, ⟨h3, m3⟩⟩ := h
  have n2 : ∀ o1 o2, New w ((w.alloc o1).alloc o2).drew := fun o1 o2 => ((Chg.alloc w _ _).then (Chg.alloc _ _ _)).then (Chg.drew _ _)
  have hsz : ∀ o1 o2, (((w.alloc o1).alloc o2).drew).heap.size = w.heap.size + 2 := fun o1 o2 => by simp
  have H0 := Lib.hid h0; have H1 := Lib.hid h1; have H2 := Lib.hid h2; have H3 := Lib.hid h3; have M0 := Lib.hid m0; have M1 := Lib.hid m1; have M2 := Lib.hid m2; have M3 := Lib.hid m3; have N0 := Lib.hid hn0; have N1 := Lib.hid hn1; have N2 := Lib.hid hn2; have N3 := Lib.hid hn3; have HN2 := Lib.hid n2; have HSZ := Lib.hid hsz
  obtain ⟨oa, ca, rfl, _⟩ := h0
  obtain ⟨ob, cb, rfl, _⟩ := h1
  obtain ⟨oc, cc, rfl, _⟩ := h2
  obtain ⟨od, cd, rfl, _⟩ := h3
  clear m0 m1 m2 m3 hn0 hn1 hn2 hn3 n2 hsz
  go_enter Try.func23, Try.ntmps23
  go_wp2_with fail
  go_region_held3 (fun w' => w'.cell? ⟨w.heap.size, 0, none⟩ = some (.slice oa V.length ca) ∧ w'.cell? ⟨w.heap.size, 1, none⟩ = some (.slice ob VO.length cb) ∧ w'.cell? ⟨w.heap.size, 2, none⟩ = some (.slice oc L.length cc) ∧ w'.cell? ⟨w.heap.size, 3, none⟩ = some (.slice od N.length cd) ∧ w'.cell? ⟨w.heap.size, 4, none⟩ = some (.bool al)) (go_keep)
    (first
      | (go_at_call 13; ((with_reducible refine (pivoters_own (.slice oa V.length ca) (.slice ob VO.length cb) V VO _ (H0.out.new (HN2.out _ _)) (H1.out.new (HN2.out _ _)) M0.out M1.out N0.out N1.out).mono ?_); rintro e w1 ⟨xa, ya, xb, yb, rfl, s0, s1, p1⟩; have S0 := Lib.hid s0; have S1 := Lib.hid s1; clear s0 s1; have k1 := p1.rule))
      | (go_at_call 42; ((with_reducible refine (clone42_own (.slice oc L.length cc) L _ (H2.out.new ((HN2.out _ _).then p1)) N2.out M2.out).mono ?_); rintro e w2 ⟨x2, rfl, s2, p2⟩; have S2 := Lib.hid s2; obtain ⟨xc, yc, rfl, -⟩ := id s2.us; clear s2; have k2 := p2.rule))
      | (go_at_call 42; ((with_reducible refine (clone42_own (.slice od N.length cd) N _ (H3.out.new (((HN2.out _ _).then p1).then p2)) N3.out M3.out).mono ?_); rintro e w3 ⟨x3, rfl, s3, p3⟩; have S3 := Lib.hid s3; obtain ⟨xd, yd, rfl, -⟩ := id s3.us; clear s3; have k3 := p3.rule; have HBK := Lib.hid (p3.keeps (p2.keeps (p1.keeps (block_drew (block_new1 w _ _)) (by simp)) (by simp)) (by simp)); have r0 := cell_of_block (off := 0) HBK.out rfl; have r1 := cell_of_block (off := 1) HBK.out rfl; have r2 := cell_of_block (off := 2) HBK.out rfl; have r3 := cell_of_block (off := 3) HBK.out rfl; have r4 := cell_of_block (off := 4) HBK.out rfl; have z0 := free_of_block (off := 0) HBK.out; have z1 := free_of_block (off := 1) HBK.out; have z2 := free_of_block (off := 2) HBK.out; have z3 := free_of_block (off := 3) HBK.out; have z4 := free_of_block (off := 4) HBK.out))
      | fail)
  rename_i hH
  clear hH k1 k2 k3
  have hz1 := p1.size
  have hz2 := p2.size
  have hs0 := ((S0.out.new p2).new p3).base (base' := w.heap.size + 2) (by rw [HSZ.out]; exact Nat.le_refl _)
  have hs1 := ((S1.out.new p2).new p3).base (base' := w.heap.size + 2) (by rw [HSZ.out]; exact Nat.le_refl _)
  have hs2 := (S2.out.new p3).base (base' := w.heap.size + 2) (by rw [HSZ.out] at hz1; omega)
  have hs3 := S3.out.base (base' := w.heap.size + 2) (by rw [HSZ.out] at hz1; omega)
  have hnw := (((HN2.out _ _).then p1).then p2).then p3
  have T0 := Lib.hid hs0; have T1 := Lib.hid hs1; have T2 := Lib.hid hs2; have T3 := Lib.hid hs3; have HNW := Lib.hid hnw
  clear hs0 hs1 hs2 hs3 p1 p2 p3 hnw S0 S1 S2 S3 hz1 hz2
  go_wp2_with fail
  refine bodyPost_ret (v := ?_) ?_ rfl ?_
  rotate_left 1
  · simp [results, Try.results23, go_sem, r0, r1, r2, r3, r4]
    rfl
  have c1 : ∀ (w' : World) i x, Chg w' (w'.setCell ⟨w.heap.size + 1, i, none⟩ x) (fun i => i = w.heap.size + 1) := fun w' i x => Chg.setCell _ _ _ _ (fun _ => rfl)
  have hx : Chg w3 (((((w3.setCell ⟨w.heap.size + 1, 0, none⟩ (.slice xa V.length ya)).setCell ⟨w.heap.size + 1, 1, none⟩ (.slice xb VO.length yb)).setCell ⟨w.heap.size + 1, 2, none⟩ (.slice xc L.length yc)).setCell ⟨w.heap.size + 1, 3, none⟩ (.slice xd N.length yd)).setCell ⟨w.heap.size + 1, 4, none⟩ (.bool al)) (fun i => i = w.heap.size + 1) := ((((c1 _ _ _).then (c1 _ _ _)).then (c1 _ _ _)).then (c1 _ _ _)).then (c1 _ _ _)
  exact ⟨_, rfl, ⟨_, _, _, _, rfl, (T0.out.chgAt hx (fun i hi => by omega)).base (by omega), (T1.out.chgAt hx (fun i hi => by omega)).base (by omega), (T2.out.chgAt hx (fun i hi => by omega)).base (by omega), (T3.out.chgAt hx (fun i hi => by omega)).base (by omega)⟩, HNW.out.trans hx (fun _ _ h => h) (fun i hi e => by omega)⟩
end Go.Proofs.Ytcgccoigjcdjeaa
