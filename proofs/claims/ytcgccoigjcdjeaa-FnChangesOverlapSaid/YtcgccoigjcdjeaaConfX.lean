/- impl.Changed. Condition: at most 100000 members, 100000 changes; the sort as a hypothesis. -/
import Derived.Test.YtcgccoigjcdjeaaConfW
import Derived.Deep.CutBlock
namespace Go.Proofs.Ytcgccoigjcdjeaa
open Go.RowKit Go.Sort

/-- a slice of changes that is read: kind, member -/
def Chs (w : World) (v : Value) (l : List (Int × Int)) : Prop :=
  ∃ ao cap, v = .slice ao l.length cap ∧ ∀ i (hi : i < l.length), ∃ b off, ao = some ⟨b, off, none⟩ ∧ w.cell? ⟨b, off + i * 2, none⟩ = some (.int .i64 (l[i]'hi).1) ∧ w.cell? ⟨b, off + i * 2 + 1, none⟩ = some (.int .u64 (l[i]'hi).2)
/-- a configuration that came in -/
def Cfv (w : World) (cv : Value) (V VO L N : List Int) (al : Bool) : Prop :=
  ∃ a b c d, cv = .agg #[a, b, c, d, .bool al] ∧ (Us w a V ∧ NilOk a) ∧ (Us w b VO ∧ NilOk b) ∧ (Us w c L ∧ NilOk c) ∧ (Us w d N ∧ NilOk d)
abbrev s00 : Cs := ⟨false, [], [], [], []⟩

def kd (x : Int × Int) : Int × Int := (if x.1 = 0 then 0 else if x.1 = 1 then 1 else 3, x.2)
theorem Chained.good {w : World} {s0 : Cs} {ops : List COp} {e : Ending} {w' : World} {s : Cs} (h : Chained w s0 ops e w') (hr : runOps s0 ops = some s) : Good w' s.al s.V0 s.V1 s.L s.N e ∧ New w w' := by
  obtain ⟨hn, ⟨s', h1, h2⟩ | ⟨h1, _⟩⟩ := h
  · rw [h1] at hr; cases hr; exact ⟨h2, hn⟩
  · rw [h1] at hr; cases hr
theorem Chained.bad {w : World} {s0 : Cs} {ops : List COp} {e : Ending} {w' : World} (h : Chained w s0 ops e w') (hr : runOps s0 ops = none) : ErrR e ∧ New w w' := by
  obtain ⟨hn, ⟨s', h1, h2⟩ | ⟨_, h2⟩⟩ := h
  · rw [h1] at hr; cases hr
  · exact ⟨h2, hn⟩
def UniR (w' : World) (r : Option Cs) (c0 c1 : Option Nat) (ab : Bool) (cl cn ct : Option Nat) (ev : Value) : Prop :=
  (∃ s tk CT, r = some s ∧ ct = some tk ∧ ab = s.al ∧ ev = .nilIface ∧ CfgV w' c0 c1 cl cn s.V0 s.V1 s.L s.N ∧ c0 ≠ none ∧ TrkV w' (some tk) CT ∧ Inv s.V0 s.V1 s.L s.N CT) ∨ (r = none ∧ ∃ se, ev = .iface 130 (.string se))
theorem UniR.new {w w' : World} {r : Option Cs} {c0 c1 : Option Nat} {ab : Bool} {cl cn ct : Option Nat} {ev : Value} (h : UniR w r c0 c1 ab cl cn ct ev) (c : New w w') : UniR w' r c0 c1 ab cl cn ct ev := by
  rcases h with ⟨s, tk, CT, h1, h2, h3, h4, h5, h6, h7, h8⟩ | h
  · exact .inl ⟨s, tk, CT, h1, h2, h3, h4, h5.new c, h6, h7.new c, h8⟩
  · exact .inr h
theorem UniR.cells {w w' : World} {r : Option Cs} {c0 c1 : Option Nat} {ab : Bool} {cl cn ct : Option Nat} {ev : Value} (h : UniR w r c0 c1 ab cl cn ct ev) {b : Nat} {cs : Array Value} {t : TypeId} {f : Nat × Nat} (c : Chg w w' (· = b)) (hb : w.heap[b]? = some (.cells cs t f)) (ht : t ≠ 145) : UniR w' r c0 c1 ab cl cn ct ev := by
  rcases h with ⟨s, tk, CT, h1, h2, h3, h4, h5, h6, h7, h8⟩ | h
  · exact .inl ⟨s, tk, CT, h1, h2, h3, h4, h5.cells c hb, h6, h7.cells c hb ht, h8⟩
  · exact .inr h
theorem Chained.uni {w : World} {s0 : Cs} {ops : List COp} {e : Ending} {w' : World} (h : Chained w s0 ops e w') : ∃ c0 c1 ab cl cn ct ev, e = .returned (.tuple #[.agg #[.map c0, .map c1, .bool ab, .map cl, .map cn], .map ct, ev]) ∧ New w w' ∧ UniR w' (runOps s0 ops) c0 c1 ab cl cn ct ev := by
  obtain ⟨hn, ⟨s, h1, c0, c1, cl, cn, ct, CT, rfl, g1, g2, g3, g4⟩ | ⟨h1, se, rfl⟩⟩ := h
  · exact ⟨_, _, _, _, _, _, _, rfl, hn, .inl ⟨s, ct, CT, h1, rfl, rfl, rfl, g1, g2, g3, g4⟩⟩
  · exact ⟨_, _, _, _, _, _, _, rfl, hn, .inr ⟨h1, se, rfl⟩⟩
theorem set6_block9 {w : World} {r : Nat} {x0 x1 x2 x3 x4 x5 x6 x7 x8 : Value} (h : w.heap[r]? = some (.cells #[x0, x1, x2, x3, x4, x5, x6, x7, x8] 89 (0, 0))) (a b c d e f : Value) : (set6 w r a b c d e f).heap[r]? = some (.cells #[a, b, c, d, e, f, x6, x7, x8] 89 (0, 0)) := by
  have := block_setCell (off := 5) (block_setCell (off := 4) (block_setCell (off := 3) (block_setCell (off := 2) (block_setCell (off := 1) (block_setCell (off := 0) h a) b) c) d) e) f
  simpa using this
theorem set6_size (w : World) (r : Nat) (a b c d e f : Value) : (set6 w r a b c d e f).heap.size = w.heap.size := by simp [World.setCell]
theorem kd_take (l : List (Int × Int)) (i : Nat) (h : i < l.length) : (l.take (i + 1)).map kd = (l.take i).map kd ++ [kd l[i]] := by
  rw [List.take_succ_eq_append_getElem h, List.map_append]; rfl
theorem cfg00 {w : World} {v0 : Nat} (h : SetV w (some v0) []) : CfgV w (some v0) none none none [] [] [] [] := ⟨h, ⟨SetV.nil _, by simp⟩, ⟨SetV.nil _, by simp⟩, ⟨SetV.nil _, by simp⟩⟩
theorem inv00 : Inv [] [] [] [] [] := ⟨by simp, by simp, by simp, by simp, by simp⟩
/-- what a way of changing makes -/
def wayC (s : Cs) (way : Int) (l : List (Int × Int)) : Option Cs :=
  if way = 1 then (if s.V1 = [] ∧ (foldC [] (s.V0, s.L, s.N) l).1 ≠ [] ∧ cnt s.V0 (foldC [] (s.V0, s.L, s.N) l).1 + cnt (foldC [] (s.V0, s.L, s.N) l).1 s.V0 ≤ 1 then some ⟨false, (foldC [] (s.V0, s.L, s.N) l).1, [], (foldC [] (s.V0, s.L, s.N) l).2.1, (foldC [] (s.V0, s.L, s.N) l).2.2⟩ else none)
  else if way = 4 then (if s.V1 ≠ [] then some ⟨false, s.V0, [], s.L ++ s.N, []⟩ else none)
  else stepOp s (.enter (way == 3) l)
def changedC (V VO L N : List Int) (al : Bool) (way : Int) (l : List (Int × Int)) : Option Cs := (runOps s00 (restOps V VO L N al)).bind fun s => wayC s way (l.map kd)
abbrev noConf : Value := .agg #[.slice none 0 0, .slice none 0 0, .slice none 0 0, .slice none 0 0, .bool false]
def Chgd (w : World) (r : Option Cs) (e : Ending) (w' : World) : Prop :=
  New w w' ∧ ((∃ s cv, r = some s ∧ e = .returned (.tuple #[cv, .bool true]) ∧ Outv w' w.heap.size s.al s.V0 s.V1 s.L s.N cv) ∨ (r = none ∧ e = .returned (.tuple #[noConf, .bool false])))

theorem kd_ok (l : List (Int × Int)) : ∀ x ∈ l.map kd, x.1 = 0 ∨ x.1 = 1 ∨ x.1 = 3 := by
  intro x hx
  obtain ⟨y, _, rfl⟩ := List.mem_map.1 hx
  unfold kd
  simp only
  split
  · exact .inl rfl
  split
  · exact .inr (.inl rfl)
  · exact .inr (.inr rfl)
def Uni (w : World) (r : Option Cs) (e : Ending) (w' : World) : Prop :=
  ∃ c0 c1 ab cl cn ct ev, e = .returned (.tuple #[.agg #[.map c0, .map c1, .bool ab, .map cl, .map cn], .map ct, ev]) ∧ New w w' ∧ UniR w' r c0 c1 ab cl cn ct ev
theorem Uni.good {w w' : World} {s : Cs} {e : Ending} (hn : New w w') (h : Good w' s.al s.V0 s.V1 s.L s.N e) : Uni w (some s) e w' := by
  obtain ⟨c0, c1, cl, cn, ct, CT, rfl, g1, g2, g3, g4⟩ := h
  exact ⟨_, _, _, _, _, _, _, rfl, hn, .inl ⟨s, ct, CT, rfl, rfl, rfl, rfl, g1, g2, g3, g4⟩⟩
theorem Uni.bad {w w' : World} {e : Ending} (hn : New w w') (h : ErrR e) : Uni w none e w' := by
  obtain ⟨se, rfl⟩ := h
  exact ⟨_, _, _, _, _, _, _, rfl, hn, .inr ⟨rfl, se, rfl⟩⟩
theorem Simpled.uni {w w' : World} {s : Cs} {l : List (Int × Int)} {e : Ending} (h : Simpled w s.V0 s.V1 s.L s.N l e w') : Uni w (wayC s 1 l) e w' := by
  unfold wayC
  rw [if_pos rfl]
  by_cases hp : s.V1 = [] ∧ (foldC [] (s.V0, s.L, s.N) l).1 ≠ [] ∧ cnt s.V0 (foldC [] (s.V0, s.L, s.N) l).1 + cnt (foldC [] (s.V0, s.L, s.N) l).1 s.V0 ≤ 1
  · rw [if_pos hp]; exact Uni.good (h.good hp).2 (h.good hp).1
  · rw [if_neg hp]; exact Uni.bad (h.bad hp).2 (h.bad hp).1
theorem Entered.uni {w w' : World} {s : Cs} {a : Bool} {l : List (Int × Int)} {e : Ending} (h : Entered w a s.V0 s.V1 s.L s.N l e w') : Uni w (stepOp s (.enter a l)) e w' := by
  obtain ⟨hn, ⟨s', h1, h2⟩ | ⟨h1, h2⟩⟩ := h.opped
  · rw [h1]; exact Uni.good hn h2
  · rw [h1]; exact Uni.bad hn h2
theorem Good.perm {w : World} {al : Bool} {V0 V1 L N L' : List Int} {e : Ending} (h : Good w al V0 V1 L N e) (p : L.Perm L') : Good w al V0 V1 L' N e := by
  obtain ⟨v0, v1, ln, nx, tk, T, h1, h2, h3, h4, h5⟩ := h
  exact ⟨v0, v1, ln, nx, tk, T, h1, ⟨h2.s0, h2.s1, h2.sl.perm p, h2.sn⟩, h3, h4, h5.perm (.refl _) p (.refl _)⟩
theorem Left.uni {w w' : World} {s : Cs} {l : List (Int × Int)} {e : Ending} (h : Left w s.V0 s.V1 s.L s.N e w') (hd : (s.L ++ s.N).Nodup) : Uni w (wayC s 4 l) e w' := by
  unfold wayC
  rw [if_neg (by decide), if_pos rfl]
  obtain ⟨hn, ⟨h1, L', h2, h3, h4⟩ | ⟨h1, h2⟩⟩ := h
  · rw [if_pos h1]
    have hp : L'.Perm (s.L ++ s.N) := (List.perm_ext_iff_of_nodup h2 hd).2 fun x => by rw [h3 x, List.mem_append]
    exact Uni.good hn (h4.perm hp)
  · rw [if_neg (by simp [h1])]; exact Uni.bad hn h2
theorem way2 (s : Cs) (l : List (Int × Int)) : wayC s 2 l = stepOp s (.enter false l) := rfl
theorem way3 (s : Cs) (l : List (Int × Int)) : wayC s 3 l = stepOp s (.enter true l) := rfl

set_option maxRecDepth 100000 in
set_option maxHeartbeats 12000000 in
theorem changed_any (cv sv : Value) (V VO L N : List Int) (al : Bool) (way : Int) (l : List (Int × Int)) (w : World) (hc : Cfv w cv V VO L N al) (hl : Chs w sv l) (hn : V.length + VO.length + L.length + N.length ≤ 100000) (hlk : ∀ x ∈ l, x.1 = 0 ∨ x.1 = 1 ∨ x.1 = 2) (hln : l.length ≤ 100000) (M : Nat) (hsort : SortTo M) (hM : ∀ s, changedC V VO L N al way l = some s → (s.V0.length ≤ M ∧ s.V0.length ≤ 100000) ∧ (s.V1.length ≤ M ∧ s.V1.length ≤ 100000) ∧ (s.L.length ≤ M ∧ s.L.length ≤ 100000) ∧ (s.N.length ≤ M ∧ s.N.length ≤ 100000)) (hway : way = 1 ∨ way = 2 ∨ way = 3 ∨ way = 4) :
    Calls Try.prog 24 #[cv, .int .i64 way, sv] w (Chgd w (changedC V VO L N al way l)) := by
  obtain ⟨a, b, c, d, rfl, ⟨ua, na⟩, ⟨ub, nb⟩, ⟨uc, nc⟩, ⟨ud, nd⟩⟩ := hc
  have la : V.length ≤ 1000000 := by omega
  have lb : VO.length ≤ 1000000 := by omega
  have lc : L.length ≤ 1000000 := by omega
  have ld : N.length ≤ 1000000 := by omega
  have UA := Lib.hid ua; have UB := Lib.hid ub; have UC := Lib.hid uc; have UD := Lib.hid ud; have NA := Lib.hid na; have NB := Lib.hid nb; have NC := Lib.hid nc; have ND := Lib.hid nd; have HN := Lib.hid hn; have HL := Lib.hid hl; have HLK := Lib.hid hlk; have HLN := Lib.hid hln; have HSORT := Lib.hid hsort; have HM := Lib.hid hM; have HWAY := Lib.hid hway
  clear hlk hln hsort hM hway
  have LA := Lib.hid la; have LB := Lib.hid lb; have LC := Lib.hid lc; have LD := Lib.hid ld
  obtain ⟨oa, ca, hea, _⟩ := ua; obtain ⟨ob, cb, heb, _⟩ := ub; obtain ⟨oc, cc, hec, _⟩ := uc; obtain ⟨od, cd, hed, _⟩ := ud
  subst hea; subst heb; subst hec; subst hed
  clear na nb nc nd hn hl la lb lc ld
  go_enter Try.func24, Try.ntmps24
  go_wp2_with (first
    | (go_at_call 51; refine (mktrk_any _).mono ?_; rintro e w1 ⟨v0, tk, vt, rfl, hs1, ht1, n1⟩)
    | fail)
  have hz1 : w.heap.size + 2 ≤ w1.heap.size := by have := n1.size; simpa using this
  have hbx := block_alloc (n1.keeps (block_alloc (block_new w _) _) (by simp)) (.cells #[.map (some v0), .map none, .bool false, .map none, .map none, .map (some tk), .map (some vt), .int .i64 10, .int .u64 0] 89)
  have hrs := block_alloc (n1.keeps (block_new1 w _ _) (by simp)) (.cells #[.map (some v0), .map none, .bool false, .map none, .map none, .map (some tk), .map (some vt), .int .i64 10, .int .u64 0] 89)
  have hkb := block_new w1 (.cells #[.map (some v0), .map none, .bool false, .map none, .map none, .map (some tk), .map (some vt), .int .i64 10, .int .u64 0] 89)
  have n2 : New w (w1.alloc (.cells #[.map (some v0), .map none, .bool false, .map none, .map none, .map (some tk), .map (some vt), .int .i64 10, .int .u64 0] 89)) := (((Chg.alloc w _ _).then (Chg.alloc _ _ _)).then n1).then (Chg.alloc _ _ _)
  have nk : New w1 (w1.alloc (.cells #[.map (some v0), .map none, .bool false, .map none, .map none, .map (some tk), .map (some vt), .int .i64 10, .int .u64 0] 89)) := Chg.alloc _ _ _
  have hs2 := hs1.chg nk (by simp)
  have ht2 := ht1.new nk
  obtain ⟨w2, hw2⟩ : ∃ w2, w2 = w1.alloc (.cells #[.map (some v0), .map none, .bool false, .map none, .map none, .map (some tk), .map (some vt), .int .i64 10, .int .u64 0] 89) := ⟨_, rfl⟩
  rw [← hw2] at hbx hrs hkb n2 nk hs2 ht2 ⊢
  have HBX := Lib.hid hbx; have HRS := Lib.hid hrs; have HKB := Lib.hid hkb; have N2 := Lib.hid n2; have HS2 := Lib.hid hs2; have HT2 := Lib.hid ht2; have HZ1 := Lib.hid hz1; have HZ2 := Lib.hid (lt_of_block hkb)
  clear hbx hrs hkb n2 hs2 ht2 hz1 hs1 ht1 n1 nk hw2
  have b0' := cell_of_block (off := 0) HBX.out rfl; have b1' := cell_of_block (off := 1) HBX.out rfl; have b2' := cell_of_block (off := 2) HBX.out rfl; have b3' := cell_of_block (off := 3) HBX.out rfl; have b4' := cell_of_block (off := 4) HBX.out rfl
  have k0' := cell_of_block (off := 0) HKB.out rfl; have k1' := cell_of_block (off := 1) HKB.out rfl; have k2' := cell_of_block (off := 2) HKB.out rfl; have k3' := cell_of_block (off := 3) HKB.out rfl; have k4' := cell_of_block (off := 4) HKB.out rfl; have k5' := cell_of_block (off := 5) HKB.out rfl; have k6' := cell_of_block (off := 6) HKB.out rfl; have k7' := cell_of_block (off := 7) HKB.out rfl; have k8' := cell_of_block (off := 8) HKB.out rfl
  simp only [List.getElem_toArray, List.getElem_cons_zero, List.getElem_cons_succ] at b0' b1' b2' b3' b4' k0' k1' k2' k3' k4' k5' k6' k7' k8'
  have HNN : Hid (New w2 w2) := Lib.hid (Chg.refl _ _)
  go_cut [9, 10, 11] from 17 to 41 (fun s9 s10 s11 wx => New w2 wx ∧ ∃ bk c0 c1 ab cl cn ct, s9 = .pointer (some ⟨bk, 0, none⟩) ∧ w2.heap.size ≤ bk ∧ bk < wx.heap.size ∧ s10 = .map ct ∧
    wx.heap[bk]? = some (.cells #[.map c0, .map c1, .bool ab, .map cl, .map cn] 85 (0, 0)) ∧ UniR wx (runOps s00 (restOps V VO L N al)) c0 c1 ab cl cn ct s11)
  case first =>
      go_region_held3 (fun w' => w'.cell? ⟨w.heap.size, 0, none⟩ = some (.slice oa V.length ca) ∧ w'.cell? ⟨w.heap.size, 1, none⟩ = some (.slice ob VO.length cb) ∧ w'.cell? ⟨w.heap.size, 2, none⟩ = some (.slice oc L.length cc) ∧ w'.cell? ⟨w.heap.size, 3, none⟩ = some (.slice od N.length cd) ∧ w'.cell? ⟨w.heap.size, 4, none⟩ = some (.bool al) ∧
      w'.cell? ⟨w1.heap.size, 0, none⟩ = some (.map (some v0)) ∧ w'.cell? ⟨w1.heap.size, 1, none⟩ = some (.map none) ∧ w'.cell? ⟨w1.heap.size, 2, none⟩ = some (.bool false) ∧ w'.cell? ⟨w1.heap.size, 3, none⟩ = some (.map none) ∧ w'.cell? ⟨w1.heap.size, 4, none⟩ = some (.map none) ∧ w'.cell? ⟨w1.heap.size, 5, none⟩ = some (.map (some tk)) ∧ w'.cell? ⟨w1.heap.size, 6, none⟩ = some (.map (some vt)) ∧ w'.cell? ⟨w1.heap.size, 7, none⟩ = some (.int .i64 10) ∧ w'.cell? ⟨w1.heap.size, 8, none⟩ = some (.int .u64 0)) (go_keep)
      (first
        | (go_at_call 42; ((with_reducible refine (clone22_any (.slice oa V.length ca) V _ (UA.out.new (N2.out.then (by first | exact HNN.out | exact HNN.out.then (Chg.alloc _ _ _) | exact (HNN.out.then (Chg.alloc _ _ _)).then (Chg.alloc _ _ _) | exact HNN.out.then (Chg.drew _ _) | exact (HNN.out.then (Chg.drew _ _)).then (Chg.alloc _ _ _) | exact (HNN.out.then (Chg.alloc _ _ _)).then (Chg.drew _ _)))) LA.out NA.out).mono ?_); rintro e1 x1 ⟨c1, rfl, y1, n1, o1, p1, rfl⟩; have q1 := n1.rule; have HY1 := Lib.hid y1; (first | (have H9 : Hid (x1.heap[w2.heap.size]? = (some (Obj.cells #[.map none, .map none, .bool false, .map none, .map none] 85 (0, 0)))) := Lib.hid (n1.keeps (block_new _ _) (by simp)); have E9 := Lib.hid (show w2.heap.size ≤ w2.heap.size from (by omega)); have g1 : w.heap.size ≠ w2.heap.size := (by have a1 := E9.out; have a2 := HZ1.out; have a3 := HZ2.out; omega); have g2 : w1.heap.size ≠ w2.heap.size := (by have a1 := E9.out; have a2 := HZ1.out; have a3 := HZ2.out; omega); have g3 := g1.symm; have g4 := g2.symm) | (have H9 : Hid (x1.heap[w2.heap.size]? = (some (Obj.cells #[.map none, .map none, .bool false, .map none, .map none] 85 (0, 0)))) := Lib.hid (n1.keeps (block_drew (block_new _ _)) (by simp)); have E9 := Lib.hid (show w2.heap.size ≤ w2.heap.size from (by omega)); have g1 : w.heap.size ≠ w2.heap.size := (by have a1 := E9.out; have a2 := HZ1.out; have a3 := HZ2.out; omega); have g2 : w1.heap.size ≠ w2.heap.size := (by have a1 := E9.out; have a2 := HZ1.out; have a3 := HZ2.out; omega); have g3 := g1.symm; have g4 := g2.symm) | (have H9 : Hid (x1.heap[w2.heap.size]? = (some (Obj.cells #[.map none, .map none, .bool false, .map none, .map none] 85 (0, 0)))) := Lib.hid (n1.keeps (block_alloc (block_new _ _) _) (by simp)); have E9 := Lib.hid (show w2.heap.size ≤ w2.heap.size from (by omega)); have g1 : w.heap.size ≠ w2.heap.size := (by have a1 := E9.out; have a2 := HZ1.out; have a3 := HZ2.out; omega); have g2 : w1.heap.size ≠ w2.heap.size := (by have a1 := E9.out; have a2 := HZ1.out; have a3 := HZ2.out; omega); have g3 := g1.symm; have g4 := g2.symm) | (have H9 : Hid (x1.heap[w2.heap.size]? = (some (Obj.cells #[.map none, .map none, .bool false, .map none, .map none] 85 (0, 0)))) := Lib.hid (n1.keeps (block_new1 _ _ _) (by simp)); have E9 := Lib.hid (show w2.heap.size ≤ w2.heap.size from (by omega)); have g1 : w.heap.size ≠ w2.heap.size := (by have a1 := E9.out; have a2 := HZ1.out; have a3 := HZ2.out; omega); have g2 : w1.heap.size ≠ w2.heap.size := (by have a1 := E9.out; have a2 := HZ1.out; have a3 := HZ2.out; omega); have g3 := g1.symm; have g4 := g2.symm) | (replace H9 := Lib.hid (n1.keeps H9.out (by simp))) | (replace H9 := Lib.hid (n1.keeps (block_alloc H9.out _) (by simp))) | skip); replace HNN := Lib.hid (show New w2 x1 from (by first | exact HNN.out.then n1 | exact (HNN.out.then (Chg.alloc _ _ _)).then n1 | exact ((HNN.out.then (Chg.alloc _ _ _)).then (Chg.alloc _ _ _)).then n1 | exact (HNN.out.then (Chg.drew _ _)).then n1 | exact ((HNN.out.then (Chg.drew _ _)).then (Chg.alloc _ _ _)).then n1 | exact ((HNN.out.then (Chg.alloc _ _ _)).then (Chg.drew _ _)).then n1))))
        | (go_at_call 42; ((with_reducible refine (clone22_any (.slice ob VO.length cb) VO _ (UB.out.new (N2.out.then (by first | exact HNN.out | exact HNN.out.then (Chg.alloc _ _ _) | exact (HNN.out.then (Chg.alloc _ _ _)).then (Chg.alloc _ _ _) | exact HNN.out.then (Chg.drew _ _) | exact (HNN.out.then (Chg.drew _ _)).then (Chg.alloc _ _ _) | exact (HNN.out.then (Chg.alloc _ _ _)).then (Chg.drew _ _)))) LB.out NB.out).mono ?_); rintro e2 x2 ⟨c2, rfl, y2, n2, o2, p2, rfl⟩; have q2 := n2.rule; have HY2 := Lib.hid y2; replace HY1 := Lib.hid (HY1.out.new (by first | exact n2 | exact (Chg.alloc _ _ _).then n2 | exact ((Chg.alloc _ _ _).then (Chg.alloc _ _ _)).then n2)); (first | (have H9 : Hid (x2.heap[x1.heap.size]? = (some (Obj.cells #[.map none, .map none, .bool false, .map none, .map none] 85 (0, 0)))) := Lib.hid (n2.keeps (block_new _ _) (by simp)); have E9 := Lib.hid (show w2.heap.size ≤ x1.heap.size from (by have a4 := HNN.out.size; omega)); have g1 : w.heap.size ≠ x1.heap.size := (by have a1 := E9.out; have a2 := HZ1.out; have a3 := HZ2.out; omega); have g2 : w1.heap.size ≠ x1.heap.size := (by have a1 := E9.out; have a2 := HZ1.out; have a3 := HZ2.out; omega); have g3 := g1.symm; have g4 := g2.symm) | (have H9 : Hid (x2.heap[x1.heap.size]? = (some (Obj.cells #[.map none, .map none, .bool false, .map none, .map none] 85 (0, 0)))) := Lib.hid (n2.keeps (block_drew (block_new _ _)) (by simp)); have E9 := Lib.hid (show w2.heap.size ≤ x1.heap.size from (by have a4 := HNN.out.size; omega)); have g1 : w.heap.size ≠ x1.heap.size := (by have a1 := E9.out; have a2 := HZ1.out; have a3 := HZ2.out; omega); have g2 : w1.heap.size ≠ x1.heap.size := (by have a1 := E9.out; have a2 := HZ1.out; have a3 := HZ2.out; omega); have g3 := g1.symm; have g4 := g2.symm) | (have H9 : Hid (x2.heap[x1.heap.size]? = (some (Obj.cells #[.map none, .map none, .bool false, .map none, .map none] 85 (0, 0)))) := Lib.hid (n2.keeps (block_alloc (block_new _ _) _) (by simp)); have E9 := Lib.hid (show w2.heap.size ≤ x1.heap.size from (by have a4 := HNN.out.size; omega)); have g1 : w.heap.size ≠ x1.heap.size := (by have a1 := E9.out; have a2 := HZ1.out; have a3 := HZ2.out; omega); have g2 : w1.heap.size ≠ x1.heap.size := (by have a1 := E9.out; have a2 := HZ1.out; have a3 := HZ2.out; omega); have g3 := g1.symm; have g4 := g2.symm) | (have H9 : Hid (x2.heap[x1.heap.size]? = (some (Obj.cells #[.map none, .map none, .bool false, .map none, .map none] 85 (0, 0)))) := Lib.hid (n2.keeps (block_new1 _ _ _) (by simp)); have E9 := Lib.hid (show w2.heap.size ≤ x1.heap.size from (by have a4 := HNN.out.size; omega)); have g1 : w.heap.size ≠ x1.heap.size := (by have a1 := E9.out; have a2 := HZ1.out; have a3 := HZ2.out; omega); have g2 : w1.heap.size ≠ x1.heap.size := (by have a1 := E9.out; have a2 := HZ1.out; have a3 := HZ2.out; omega); have g3 := g1.symm; have g4 := g2.symm) | (replace H9 := Lib.hid (n2.keeps H9.out (by simp))) | (replace H9 := Lib.hid (n2.keeps (block_alloc H9.out _) (by simp))) | skip); replace HNN := Lib.hid (show New w2 x2 from (by first | exact HNN.out.then n2 | exact (HNN.out.then (Chg.alloc _ _ _)).then n2 | exact ((HNN.out.then (Chg.alloc _ _ _)).then (Chg.alloc _ _ _)).then n2 | exact (HNN.out.then (Chg.drew _ _)).then n2 | exact ((HNN.out.then (Chg.drew _ _)).then (Chg.alloc _ _ _)).then n2 | exact ((HNN.out.then (Chg.alloc _ _ _)).then (Chg.drew _ _)).then n2))))
        | (go_at_call 42; ((with_reducible refine (clone22_any (.slice oc L.length cc) L _ (UC.out.new (N2.out.then (by first | exact HNN.out | exact HNN.out.then (Chg.alloc _ _ _) | exact (HNN.out.then (Chg.alloc _ _ _)).then (Chg.alloc _ _ _) | exact HNN.out.then (Chg.drew _ _) | exact (HNN.out.then (Chg.drew _ _)).then (Chg.alloc _ _ _) | exact (HNN.out.then (Chg.alloc _ _ _)).then (Chg.drew _ _)))) LC.out NC.out).mono ?_); rintro e3 x3 ⟨c3, rfl, y3, n3, o3, p3, rfl⟩; have q3 := n3.rule; have HY3 := Lib.hid y3; replace HY1 := Lib.hid (HY1.out.new (by first | exact n3 | exact (Chg.alloc _ _ _).then n3 | exact ((Chg.alloc _ _ _).then (Chg.alloc _ _ _)).then n3)); replace HY2 := Lib.hid (HY2.out.new (by first | exact n3 | exact (Chg.alloc _ _ _).then n3 | exact ((Chg.alloc _ _ _).then (Chg.alloc _ _ _)).then n3)); (first | (have H9 : Hid (x3.heap[x2.heap.size]? = (some (Obj.cells #[.map none, .map none, .bool false, .map none, .map none] 85 (0, 0)))) := Lib.hid (n3.keeps (block_new _ _) (by simp)); have E9 := Lib.hid (show w2.heap.size ≤ x2.heap.size from (by have a4 := HNN.out.size; omega)); have g1 : w.heap.size ≠ x2.heap.size := (by have a1 := E9.out; have a2 := HZ1.out; have a3 := HZ2.out; omega); have g2 : w1.heap.size ≠ x2.heap.size := (by have a1 := E9.out; have a2 := HZ1.out; have a3 := HZ2.out; omega); have g3 := g1.symm; have g4 := g2.symm) | (have H9 : Hid (x3.heap[x2.heap.size]? = (some (Obj.cells #[.map none, .map none, .bool false, .map none, .map none] 85 (0, 0)))) := Lib.hid (n3.keeps (block_drew (block_new _ _)) (by simp)); have E9 := Lib.hid (show w2.heap.size ≤ x2.heap.size from (by have a4 := HNN.out.size; omega)); have g1 : w.heap.size ≠ x2.heap.size := (by have a1 := E9.out; have a2 := HZ1.out; have a3 := HZ2.out; omega); have g2 : w1.heap.size ≠ x2.heap.size := (by have a1 := E9.out; have a2 := HZ1.out; have a3 := HZ2.out; omega); have g3 := g1.symm; have g4 := g2.symm) | (have H9 : Hid (x3.heap[x2.heap.size]? = (some (Obj.cells #[.map none, .map none, .bool false, .map none, .map none] 85 (0, 0)))) := Lib.hid (n3.keeps (block_alloc (block_new _ _) _) (by simp)); have E9 := Lib.hid (show w2.heap.size ≤ x2.heap.size from (by have a4 := HNN.out.size; omega)); have g1 : w.heap.size ≠ x2.heap.size := (by have a1 := E9.out; have a2 := HZ1.out; have a3 := HZ2.out; omega); have g2 : w1.heap.size ≠ x2.heap.size := (by have a1 := E9.out; have a2 := HZ1.out; have a3 := HZ2.out; omega); have g3 := g1.symm; have g4 := g2.symm) | (have H9 : Hid (x3.heap[x2.heap.size]? = (some (Obj.cells #[.map none, .map none, .bool false, .map none, .map none] 85 (0, 0)))) := Lib.hid (n3.keeps (block_new1 _ _ _) (by simp)); have E9 := Lib.hid (show w2.heap.size ≤ x2.heap.size from (by have a4 := HNN.out.size; omega)); have g1 : w.heap.size ≠ x2.heap.size := (by have a1 := E9.out; have a2 := HZ1.out; have a3 := HZ2.out; omega); have g2 : w1.heap.size ≠ x2.heap.size := (by have a1 := E9.out; have a2 := HZ1.out; have a3 := HZ2.out; omega); have g3 := g1.symm; have g4 := g2.symm) | (replace H9 := Lib.hid (n3.keeps H9.out (by simp))) | (replace H9 := Lib.hid (n3.keeps (block_alloc H9.out _) (by simp))) | skip); replace HNN := Lib.hid (show New w2 x3 from (by first | exact HNN.out.then n3 | exact (HNN.out.then (Chg.alloc _ _ _)).then n3 | exact ((HNN.out.then (Chg.alloc _ _ _)).then (Chg.alloc _ _ _)).then n3 | exact (HNN.out.then (Chg.drew _ _)).then n3 | exact ((HNN.out.then (Chg.drew _ _)).then (Chg.alloc _ _ _)).then n3 | exact ((HNN.out.then (Chg.alloc _ _ _)).then (Chg.drew _ _)).then n3))))
        | (go_at_call 42; ((with_reducible refine (clone22_any (.slice od N.length cd) N _ (UD.out.new (N2.out.then (by first | exact HNN.out | exact HNN.out.then (Chg.alloc _ _ _) | exact (HNN.out.then (Chg.alloc _ _ _)).then (Chg.alloc _ _ _) | exact HNN.out.then (Chg.drew _ _) | exact (HNN.out.then (Chg.drew _ _)).then (Chg.alloc _ _ _) | exact (HNN.out.then (Chg.alloc _ _ _)).then (Chg.drew _ _)))) LD.out ND.out).mono ?_); rintro e4 x4 ⟨c4, rfl, y4, n4, o4, p4, rfl⟩; have q4 := n4.rule; have HY4 := Lib.hid y4; replace HY1 := Lib.hid (HY1.out.new (by first | exact n4 | exact (Chg.alloc _ _ _).then n4 | exact ((Chg.alloc _ _ _).then (Chg.alloc _ _ _)).then n4)); replace HY2 := Lib.hid (HY2.out.new (by first | exact n4 | exact (Chg.alloc _ _ _).then n4 | exact ((Chg.alloc _ _ _).then (Chg.alloc _ _ _)).then n4)); replace HY3 := Lib.hid (HY3.out.new (by first | exact n4 | exact (Chg.alloc _ _ _).then n4 | exact ((Chg.alloc _ _ _).then (Chg.alloc _ _ _)).then n4)); (first | (have H9 : Hid (x4.heap[x3.heap.size]? = (some (Obj.cells #[.map none, .map none, .bool false, .map none, .map none] 85 (0, 0)))) := Lib.hid (n4.keeps (block_new _ _) (by simp)); have E9 := Lib.hid (show w2.heap.size ≤ x3.heap.size from (by have a4 := HNN.out.size; omega)); have g1 : w.heap.size ≠ x3.heap.size := (by have a1 := E9.out; have a2 := HZ1.out; have a3 := HZ2.out; omega); have g2 : w1.heap.size ≠ x3.heap.size := (by have a1 := E9.out; have a2 := HZ1.out; have a3 := HZ2.out; omega); have g3 := g1.symm; have g4 := g2.symm) | (have H9 : Hid (x4.heap[x3.heap.size]? = (some (Obj.cells #[.map none, .map none, .bool false, .map none, .map none] 85 (0, 0)))) := Lib.hid (n4.keeps (block_drew (block_new _ _)) (by simp)); have E9 := Lib.hid (show w2.heap.size ≤ x3.heap.size from (by have a4 := HNN.out.size; omega)); have g1 : w.heap.size ≠ x3.heap.size := (by have a1 := E9.out; have a2 := HZ1.out; have a3 := HZ2.out; omega); have g2 : w1.heap.size ≠ x3.heap.size := (by have a1 := E9.out; have a2 := HZ1.out; have a3 := HZ2.out; omega); have g3 := g1.symm; have g4 := g2.symm) | (have H9 : Hid (x4.heap[x3.heap.size]? = (some (Obj.cells #[.map none, .map none, .bool false, .map none, .map none] 85 (0, 0)))) := Lib.hid (n4.keeps (block_alloc (block_new _ _) _) (by simp)); have E9 := Lib.hid (show w2.heap.size ≤ x3.heap.size from (by have a4 := HNN.out.size; omega)); have g1 : w.heap.size ≠ x3.heap.size := (by have a1 := E9.out; have a2 := HZ1.out; have a3 := HZ2.out; omega); have g2 : w1.heap.size ≠ x3.heap.size := (by have a1 := E9.out; have a2 := HZ1.out; have a3 := HZ2.out; omega); have g3 := g1.symm; have g4 := g2.symm) | (have H9 : Hid (x4.heap[x3.heap.size]? = (some (Obj.cells #[.map none, .map none, .bool false, .map none, .map none] 85 (0, 0)))) := Lib.hid (n4.keeps (block_new1 _ _ _) (by simp)); have E9 := Lib.hid (show w2.heap.size ≤ x3.heap.size from (by have a4 := HNN.out.size; omega)); have g1 : w.heap.size ≠ x3.heap.size := (by have a1 := E9.out; have a2 := HZ1.out; have a3 := HZ2.out; omega); have g2 : w1.heap.size ≠ x3.heap.size := (by have a1 := E9.out; have a2 := HZ1.out; have a3 := HZ2.out; omega); have g3 := g1.symm; have g4 := g2.symm) | (replace H9 := Lib.hid (n4.keeps H9.out (by simp))) | (replace H9 := Lib.hid (n4.keeps (block_alloc H9.out _) (by simp))) | skip); replace HNN := Lib.hid (show New w2 x4 from (by first | exact HNN.out.then n4 | exact (HNN.out.then (Chg.alloc _ _ _)).then n4 | exact ((HNN.out.then (Chg.alloc _ _ _)).then (Chg.alloc _ _ _)).then n4 | exact (HNN.out.then (Chg.drew _ _)).then n4 | exact ((HNN.out.then (Chg.drew _ _)).then (Chg.alloc _ _ _)).then n4 | exact ((HNN.out.then (Chg.alloc _ _ _)).then (Chg.drew _ _)).then n4))))
        | (go_at_call 52; ((with_reducible refine (restore_any (some v0) none none none (some vt) tk s00 [] _ V VO L N al _ (cfg00 (HS2.out.chg (show New w2 _ from (by first | exact HNN.out | exact HNN.out.then (Chg.alloc _ _ _) | exact (HNN.out.then (Chg.alloc _ _ _)).then (Chg.alloc _ _ _) | exact HNN.out.then (Chg.drew _ _) | exact (HNN.out.then (Chg.drew _ _)).then (Chg.alloc _ _ _) | exact (HNN.out.then (Chg.alloc _ _ _)).then (Chg.drew _ _))) (by simp))) (by simp) (HT2.out.new (by first | exact HNN.out | exact HNN.out.then (Chg.alloc _ _ _) | exact (HNN.out.then (Chg.alloc _ _ _)).then (Chg.alloc _ _ _) | exact HNN.out.then (Chg.drew _ _) | exact (HNN.out.then (Chg.drew _ _)).then (Chg.alloc _ _ _) | exact (HNN.out.then (Chg.alloc _ _ _)).then (Chg.drew _ _))) inv00 ⟨_, _, _, _, (by first | exact block_new _ _ | exact block_alloc (block_new _ _) _ | exact block_new1 _ _ _), HY1.out.new (by first | exact Chg.alloc _ _ _ | exact (Chg.alloc _ _ _).then (Chg.alloc _ _ _)), HY2.out.new (by first | exact Chg.alloc _ _ _ | exact (Chg.alloc _ _ _).then (Chg.alloc _ _ _)), HY3.out.new (by first | exact Chg.alloc _ _ _ | exact (Chg.alloc _ _ _).then (Chg.alloc _ _ _)), HY4.out.new (by first | exact Chg.alloc _ _ _ | exact (Chg.alloc _ _ _).then (Chg.alloc _ _ _))⟩ HN.out rfl).mono ?_); intro e5 x5 hch; obtain ⟨c0, c1', ab, cl, cn, ct, ev, rfl, n5, hu⟩ := hch.uni; have HU := Lib.hid hu; clear hu; clear hch; have q5 := n5.rule; (first | (have H9 : Hid (x5.heap[x4.heap.size]? = (some (Obj.cells #[.map none, .map none, .bool false, .map none, .map none] 85 (0, 0)))) := Lib.hid (n5.keeps (block_new _ _) (by simp)); have E9 := Lib.hid (show w2.heap.size ≤ x4.heap.size from (by have a4 := HNN.out.size; omega)); have g1 : w.heap.size ≠ x4.heap.size := (by have a1 := E9.out; have a2 := HZ1.out; have a3 := HZ2.out; omega); have g2 : w1.heap.size ≠ x4.heap.size := (by have a1 := E9.out; have a2 := HZ1.out; have a3 := HZ2.out; omega); have g3 := g1.symm; have g4 := g2.symm) | (have H9 : Hid (x5.heap[x4.heap.size]? = (some (Obj.cells #[.map none, .map none, .bool false, .map none, .map none] 85 (0, 0)))) := Lib.hid (n5.keeps (block_drew (block_new _ _)) (by simp)); have E9 := Lib.hid (show w2.heap.size ≤ x4.heap.size from (by have a4 := HNN.out.size; omega)); have g1 : w.heap.size ≠ x4.heap.size := (by have a1 := E9.out; have a2 := HZ1.out; have a3 := HZ2.out; omega); have g2 : w1.heap.size ≠ x4.heap.size := (by have a1 := E9.out; have a2 := HZ1.out; have a3 := HZ2.out; omega); have g3 := g1.symm; have g4 := g2.symm) | (have H9 : Hid (x5.heap[x4.heap.size]? = (some (Obj.cells #[.map none, .map none, .bool false, .map none, .map none] 85 (0, 0)))) := Lib.hid (n5.keeps (block_alloc (block_new _ _) _) (by simp)); have E9 := Lib.hid (show w2.heap.size ≤ x4.heap.size from (by have a4 := HNN.out.size; omega)); have g1 : w.heap.size ≠ x4.heap.size := (by have a1 := E9.out; have a2 := HZ1.out; have a3 := HZ2.out; omega); have g2 : w1.heap.size ≠ x4.heap.size := (by have a1 := E9.out; have a2 := HZ1.out; have a3 := HZ2.out; omega); have g3 := g1.symm; have g4 := g2.symm) | (have H9 : Hid (x5.heap[x4.heap.size]? = (some (Obj.cells #[.map none, .map none, .bool false, .map none, .map none] 85 (0, 0)))) := Lib.hid (n5.keeps (block_new1 _ _ _) (by simp)); have E9 := Lib.hid (show w2.heap.size ≤ x4.heap.size from (by have a4 := HNN.out.size; omega)); have g1 : w.heap.size ≠ x4.heap.size := (by have a1 := E9.out; have a2 := HZ1.out; have a3 := HZ2.out; omega); have g2 : w1.heap.size ≠ x4.heap.size := (by have a1 := E9.out; have a2 := HZ1.out; have a3 := HZ2.out; omega); have g3 := g1.symm; have g4 := g2.symm) | (have H9 : Hid (x5.heap[(x4.heap.size + 1)]? = (some (Obj.cells #[.map none, .map none, .bool false, .map none, .map none] 85 (0, 0)))) := Lib.hid (n5.keeps (block_new _ _) (by simp)); have E9 := Lib.hid (show w2.heap.size ≤ (x4.heap.size + 1) from (by have a4 := HNN.out.size; omega)); have g1 : w.heap.size ≠ (x4.heap.size + 1) := (by have a1 := E9.out; have a2 := HZ1.out; have a3 := HZ2.out; omega); have g2 : w1.heap.size ≠ (x4.heap.size + 1) := (by have a1 := E9.out; have a2 := HZ1.out; have a3 := HZ2.out; omega); have g3 := g1.symm; have g4 := g2.symm) | (have H9 : Hid (x5.heap[(x4.heap.size + 1)]? = (some (Obj.cells #[.map none, .map none, .bool false, .map none, .map none] 85 (0, 0)))) := Lib.hid (n5.keeps (block_drew (block_new _ _)) (by simp)); have E9 := Lib.hid (show w2.heap.size ≤ (x4.heap.size + 1) from (by have a4 := HNN.out.size; omega)); have g1 : w.heap.size ≠ (x4.heap.size + 1) := (by have a1 := E9.out; have a2 := HZ1.out; have a3 := HZ2.out; omega); have g2 : w1.heap.size ≠ (x4.heap.size + 1) := (by have a1 := E9.out; have a2 := HZ1.out; have a3 := HZ2.out; omega); have g3 := g1.symm; have g4 := g2.symm) | (have H9 : Hid (x5.heap[(x4.heap.size + 1)]? = (some (Obj.cells #[.map none, .map none, .bool false, .map none, .map none] 85 (0, 0)))) := Lib.hid (n5.keeps (block_alloc (block_new _ _) _) (by simp)); have E9 := Lib.hid (show w2.heap.size ≤ (x4.heap.size + 1) from (by have a4 := HNN.out.size; omega)); have g1 : w.heap.size ≠ (x4.heap.size + 1) := (by have a1 := E9.out; have a2 := HZ1.out; have a3 := HZ2.out; omega); have g2 : w1.heap.size ≠ (x4.heap.size + 1) := (by have a1 := E9.out; have a2 := HZ1.out; have a3 := HZ2.out; omega); have g3 := g1.symm; have g4 := g2.symm) | (have H9 : Hid (x5.heap[(x4.heap.size + 1)]? = (some (Obj.cells #[.map none, .map none, .bool false, .map none, .map none] 85 (0, 0)))) := Lib.hid (n5.keeps (block_new1 _ _ _) (by simp)); have E9 := Lib.hid (show w2.heap.size ≤ (x4.heap.size + 1) from (by have a4 := HNN.out.size; omega)); have g1 : w.heap.size ≠ (x4.heap.size + 1) := (by have a1 := E9.out; have a2 := HZ1.out; have a3 := HZ2.out; omega); have g2 : w1.heap.size ≠ (x4.heap.size + 1) := (by have a1 := E9.out; have a2 := HZ1.out; have a3 := HZ2.out; omega); have g3 := g1.symm; have g4 := g2.symm) | (replace H9 := Lib.hid (n5.keeps H9.out (by simp))) | (replace H9 := Lib.hid (n5.keeps (block_alloc H9.out _) (by simp))) | skip); replace HNN := Lib.hid (show New w2 x5 from (by first | exact HNN.out.then n5 | exact (HNN.out.then (Chg.alloc _ _ _)).then n5 | exact ((HNN.out.then (Chg.alloc _ _ _)).then (Chg.alloc _ _ _)).then n5 | exact (HNN.out.then (Chg.drew _ _)).then n5 | exact ((HNN.out.then (Chg.drew _ _)).then (Chg.alloc _ _ _)).then n5 | exact ((HNN.out.then (Chg.alloc _ _ _)).then (Chg.drew _ _)).then n5)); have Xb0' := HNN.out.has b0'; have Xb1' := HNN.out.has b1'; have Xb2' := HNN.out.has b2'; have Xb3' := HNN.out.has b3'; have Xb4' := HNN.out.has b4'; have Xk0' := HNN.out.has k0'; have Xk1' := HNN.out.has k1'; have Xk2' := HNN.out.has k2'; have Xk3' := HNN.out.has k3'; have Xk4' := HNN.out.has k4'; have Xk5' := HNN.out.has k5'; have Xk6' := HNN.out.has k6'; have Xk7' := HNN.out.has k7'; have Xk8' := HNN.out.has k8'; try (have r0 := cell_of_block (off := 0) H9.out rfl; have r1 := cell_of_block (off := 1) H9.out rfl; have r2 := cell_of_block (off := 2) H9.out rfl; have r3 := cell_of_block (off := 3) H9.out rfl; have r4 := cell_of_block (off := 4) H9.out rfl; have z0 := free_of_block (off := 0) H9.out; have z1 := free_of_block (off := 1) H9.out; have z2 := free_of_block (off := 2) H9.out; have z3 := free_of_block (off := 3) H9.out; have z4 := free_of_block (off := 4) H9.out)))
        | fail)
      all_goals
        rename_i hH
        clear hH
        go_wp2_with fail
        go_meet
        case rel => first
          | exact ⟨HNN.out.then (Chg.alloc _ _ _), _, _, _, _, _, _, _, rfl, HNN.out.size, by simp, rfl, block_new _ _, HU.out.new (Chg.alloc _ _ _)⟩
          | exact ⟨set5_new HNN.out E9.out _ _ _ _ _, _, _, _, _, _, _, _, rfl, E9.out, lt_of_block (set5_block H9.out _ _ _ _ _), rfl, set5_block H9.out _ _ _ _ _, HU.out.cells (set5_chg _ _ _ _ _ _ _) H9.out (by decide)⟩
  case rest =>
    obtain ⟨hnw, bk, c0, c1, ab, cl, cn, ct, rfl, hbk, hbl, rfl, hblk, hu⟩ := hcut
    have HNW := Lib.hid (N2.out.then hnw); have HBK := Lib.hid hbk; have HBL := Lib.hid hbl; have HBB := Lib.hid hblk
    have HKB2 := Lib.hid (hnw.keeps HKB.out (by simp)); have HRS2 := Lib.hid (hnw.keeps HRS.out (by simp))
    clear hnw hbk hbl hblk HBX HRS HKB N2 HS2 HT2 HNN b0' b1' b2' b3' b4' k0' k1' k2' k3' k4' k5' k6' k7' k8' UA NA UB NB UC NC UD ND
    have r0 := cell_of_block (off := 0) HRS2.out rfl; have r1 := cell_of_block (off := 1) HRS2.out rfl; have r2 := cell_of_block (off := 2) HRS2.out rfl; have r3 := cell_of_block (off := 3) HRS2.out rfl; have r4 := cell_of_block (off := 4) HRS2.out rfl
    have z0 := free_of_block (off := 0) HRS2.out; have z1 := free_of_block (off := 1) HRS2.out; have z2 := free_of_block (off := 2) HRS2.out; have z3 := free_of_block (off := 3) HRS2.out; have z4 := free_of_block (off := 4) HRS2.out
    rcases hu with ⟨s, tk', CT, hs, rfl, rfl, rfl, hcfg, hne, htrk, hinv⟩ | ⟨hnone, se, rfl⟩
    · have HS := Lib.hid hs; have HC := Lib.hid hcfg; have HE := Lib.hid hne; have HT := Lib.hid htrk; have HI := Lib.hid hinv
      clear hs hcfg hne htrk hinv r0 r1 r2 r3 r4 z0 z1 z2 z3 z4
      have x0 := cell_of_block (off := 0) HKB2.out rfl; have x1 := cell_of_block (off := 1) HKB2.out rfl; have x2 := cell_of_block (off := 2) HKB2.out rfl; have x3 := cell_of_block (off := 3) HKB2.out rfl; have x4 := cell_of_block (off := 4) HKB2.out rfl; have x5 := cell_of_block (off := 5) HKB2.out rfl; have x6 := cell_of_block (off := 6) HKB2.out rfl; have x7 := cell_of_block (off := 7) HKB2.out rfl; have x8 := cell_of_block (off := 8) HKB2.out rfl
      have y0 := free_of_block (off := 0) HKB2.out; have y1 := free_of_block (off := 1) HKB2.out; have y2 := free_of_block (off := 2) HKB2.out; have y3 := free_of_block (off := 3) HKB2.out; have y4 := free_of_block (off := 4) HKB2.out; have y5 := free_of_block (off := 5) HKB2.out
      have q0 := cell_of_block (off := 0) HBB.out rfl; have q1 := cell_of_block (off := 1) HBB.out rfl; have q2 := cell_of_block (off := 2) HBB.out rfl; have q3 := cell_of_block (off := 3) HBB.out rfl; have q4 := cell_of_block (off := 4) HBB.out rfl
      have hnb : bk ≠ w1.heap.size := by have a1 := HBK.out; have a2 := HZ2.out; omega
      have hnb' := hnb.symm
      have hfz : ∀ j, wc.frozen? ⟨wc.heap.size, j, none⟩ = false := fun j => by simp [World.frozen?]
      go_wp2_with fail
      have hk6 := set6_chg wc w1.heap.size (.map c0) (.map c1) (.bool s.al) (.map cl) (.map cn) (.map (some tk'))
      have na : New (set6 wc w1.heap.size (.map c0) (.map c1) (.bool s.al) (.map cl) (.map cn) (.map (some tk'))) ((set6 wc w1.heap.size (.map c0) (.map c1) (.bool s.al) (.map cl) (.map cn) (.map (some tk'))).alloc (.cells #[.map c0, .map c1, .bool s.al, .map cl, .map cn, .map (some tk'), .map (some vt), .int .i64 10, .int .u64 0, .int .u64 1] 96)) := Chg.alloc _ _ _
      obtain ⟨w5, hw5⟩ : ∃ w5, w5 = ((set6 wc w1.heap.size (.map c0) (.map c1) (.bool s.al) (.map cl) (.map cn) (.map (some tk'))).alloc (.cells #[.map c0, .map c1, .bool s.al, .map cl, .map cn, .map (some tk'), .map (some vt), .int .i64 10, .int .u64 0, .int .u64 1] 96)) := ⟨_, rfl⟩
      have hq := block_new (set6 wc w1.heap.size (.map c0) (.map c1) (.bool s.al) (.map cl) (.map cn) (.map (some tk'))) (.cells #[.map c0, .map c1, .bool s.al, .map cl, .map cn, .map (some tk'), .map (some vt), .int .i64 10, .int .u64 0, .int .u64 1] 96)
      rw [set6_size] at hq
      rw [← hw5] at na hq ⊢
      have HQ := Lib.hid hq
      have HC5 := Lib.hid ((HC.out.cells hk6 HKB2.out).new na); have HT5 := Lib.hid ((HT.out.cells hk6 HKB2.out (by decide)).new na)
      have HBB5 := Lib.hid (na.keeps (hk6.keeps HBB.out hnb) (by simp))
      have HRS5 := Lib.hid (na.keeps (hk6.keeps HRS2.out (by have a1 := HZ1.out; omega)) (by simp))
      have HNW5 := Lib.hid ((HNW.out.trans hk6 (fun _ _ h => h) (fun i hi e => by have a1 := HZ1.out; omega)).then na)
      have hbq : bk < wc.heap.size := HBL.out
      have HBQ := Lib.hid hbq
      clear hk6 na hq hw5 x0 x1 x2 x3 x4 x5 x6 x7 x8 y0 y1 y2 y3 y4 y5 q0 q1 q2 q3 q4 hnb hnb' hfz hbq HC HT HBB HKB2 HRS2 HNW
      obtain ⟨ao, lcap, rfl, hls⟩ := HL.out
      have HLS := Lib.hid hls; clear hls
      go_loopg [13, 14, 15, 70, 75, 80] l.length (fun n v j _ _ _ _ wr => ∃ i : Nat, i ≤ l.length ∧ l.length ≤ n + i ∧ j = .int .i64 i ∧ Cr wr w5.heap.size v ((l.take i).map kd) ∧ New w5 wr)
      case atStart => exact ⟨0, by omega, by omega, rfl, Cr.nil _ _, Chg.refl _ _⟩
      case round =>
        obtain ⟨i, hi, hg, rfl, hcr, hnew⟩ := hrel
        have HG := Lib.hid hg; have HCR := Lib.hid hcr; have HNR := Lib.hid hnew
        clear hg hcr hnew
        by_cases hlt : i < l.length
        · obtain ⟨b, off, rfl, hc0, hc1⟩ := HLS.out i hlt
          have hkk := HLK.out _ (List.getElem_mem hlt)
          have hp0 := (HNW5.out.then HNR.out).has hc0
          have hp1 := (HNW5.out.then HNR.out).has hc1
          have hkd : kd l[i] = (if l[i].1 = 0 then 0 else if l[i].1 = 1 then 1 else 3, l[i].2) := rfl
          have htk := kd_take l i hlt
          obtain ⟨x, hx⟩ : ∃ x, x = l[i] := ⟨_, rfl⟩
          rw [← hx] at hkk hp0 hp1 hkd htk
          obtain ⟨ps, h1, h2, h3⟩ := HCR.out
          have HP1 := Lib.hid h1; have HP2 := Lib.hid h2; have HP3 := Lib.hid h3; have HS2 := Lib.hid HNR.out.size; have HTK := Lib.hid htk; have HKD := Lib.hid hkd
          clear h1 h2 h3 hc0 hc1 htk hkd hx
          obtain ⟨xk, xi⟩ := x
          simp only at hkk hp0 hp1
          have hsmall : l.length ≤ 100000 := HLN.out
          rcases hkk with rfl | rfl | rfl
          · go_wp2_with (first
              | (at_builtin; refine op_append1 rfl (.tmp 85) (.tmp 87) rfl st100 w5.heap.size ((l.take i).map kd).length u13 _ rfl (ownsRow_chg HP2.out ((Chg.alloc wr _ _).then (Chg.alloc _ _ (fun _ => False))) (by simp)) (wr.heap.size + 1) (.pointer (some ⟨wr.heap.size, 0, none⟩)) rfl (cell_of_block (block_new1 _ _ _) rfl) rfl (by simp; omega) (by have h1 := HS2.out; simp; omega) ?_; intro v' wn hown hch)
              | fail)
            go_roundg (gk - 1)
            case measure => have := HG.out; omega
            case rel =>
              refine ⟨i + 1, by omega, by have := HG.out; omega, by go_num, ?_, ?_⟩
              · have h2' := ownsRow_chg HP2.out ((Chg.alloc wr (.cells #[.int .i32 0, .int .u64 xi] 104) _).then (Chg.alloc _ (.cells #[.pointer (some ⟨wr.heap.size, 0, none⟩)] 101) (fun _ => False))) (by simp)
                have hp := Cr.push (x := (0, xi)) HP1.out h2' (fun i p x e1 e2 => ⟨(HP3.out i p x e1 e2).1, block_alloc (block_alloc (HP3.out i p x e1 e2).2 _) _⟩) (nb := wr.heap.size) HS2.out (block_alloc (block_new _ _) _) hown hch
                rw [HTK.out, HKD.out]
                exact hp
              · have hown0 := HP2.out
                exact ((HNR.out.then (Chg.alloc _ _ _)).then (Chg.alloc _ _ _)).trans hch (fun _ _ h => h) (fun i hi e => by have := (hown0.lt i e).1; omega)
          · go_wp2_with (first
              | (at_builtin; refine op_append1 rfl (.tmp 85) (.tmp 87) rfl st100 w5.heap.size ((l.take i).map kd).length u13 _ rfl (ownsRow_chg HP2.out ((Chg.alloc wr _ _).then (Chg.alloc _ _ (fun _ => False))) (by simp)) (wr.heap.size + 1) (.pointer (some ⟨wr.heap.size, 0, none⟩)) rfl (cell_of_block (block_new1 _ _ _) rfl) rfl (by simp; omega) (by have h1 := HS2.out; simp; omega) ?_; intro v' wn hown hch)
              | fail)
            go_roundg (gk - 1)
            case measure => have := HG.out; omega
            case rel =>
              refine ⟨i + 1, by omega, by have := HG.out; omega, by go_num, ?_, ?_⟩
              · have h2' := ownsRow_chg HP2.out ((Chg.alloc wr (.cells #[.int .i32 1, .int .u64 xi] 104) _).then (Chg.alloc _ (.cells #[.pointer (some ⟨wr.heap.size, 0, none⟩)] 101) (fun _ => False))) (by simp)
                have hp := Cr.push (x := (1, xi)) HP1.out h2' (fun i p x e1 e2 => ⟨(HP3.out i p x e1 e2).1, block_alloc (block_alloc (HP3.out i p x e1 e2).2 _) _⟩) (nb := wr.heap.size) HS2.out (block_alloc (block_new _ _) _) hown hch
                rw [HTK.out, HKD.out]
                exact hp
              · have hown0 := HP2.out
                exact ((HNR.out.then (Chg.alloc _ _ _)).then (Chg.alloc _ _ _)).trans hch (fun _ _ h => h) (fun i hi e => by have := (hown0.lt i e).1; omega)
          · go_wp2_with (first
              | (at_builtin; refine op_append1 rfl (.tmp 85) (.tmp 87) rfl st100 w5.heap.size ((l.take i).map kd).length u13 _ rfl (ownsRow_chg HP2.out ((Chg.alloc wr _ _).then (Chg.alloc _ _ (fun _ => False))) (by simp)) (wr.heap.size + 1) (.pointer (some ⟨wr.heap.size, 0, none⟩)) rfl (cell_of_block (block_new1 _ _ _) rfl) rfl (by simp; omega) (by have h1 := HS2.out; simp; omega) ?_; intro v' wn hown hch)
              | fail)
            go_roundg (gk - 1)
            case measure => have := HG.out; omega
            case rel =>
              refine ⟨i + 1, by omega, by have := HG.out; omega, by go_num, ?_, ?_⟩
              · have h2' := ownsRow_chg HP2.out ((Chg.alloc wr (.cells #[.int .i32 3, .int .u64 xi] 104) _).then (Chg.alloc _ (.cells #[.pointer (some ⟨wr.heap.size, 0, none⟩)] 101) (fun _ => False))) (by simp)
                have hp := Cr.push (x := (3, xi)) HP1.out h2' (fun i p x e1 e2 => ⟨(HP3.out i p x e1 e2).1, block_alloc (block_alloc (HP3.out i p x e1 e2).2 _) _⟩) (nb := wr.heap.size) HS2.out (block_alloc (block_new _ _) _) hown hch
                rw [HTK.out, HKD.out]
                exact hp
              · have hown0 := HP2.out
                exact ((HNR.out.then (Chg.alloc _ _ _)).then (Chg.alloc _ _ _)).trans hch (fun _ _ h => h) (fun i hi e => by have := (hown0.lt i e).1; omega)
        · have hil : i = l.length := by omega
          subst hil
          have hcc : Cr wr w5.heap.size u13 (l.map kd) := by have := HCR.out; rwa [List.take_length] at this
          have HCC := Lib.hid hcc.ccs; have HOK := Lib.hid (kd_ok l); have HKL := Lib.hid (show (l.map kd).length ≤ 100000 by have := HLN.out; simpa using this)
          have HBQ6 := Lib.hid (HNR.out.keeps HQ.out (by simp)); have HC6 := Lib.hid (HC5.out.new HNR.out); have HT6 := Lib.hid (HT5.out.new HNR.out)
          have b0' := cell_of_block (off := 0) HBQ6.out rfl; have b1' := cell_of_block (off := 1) HBQ6.out rfl; have b2' := cell_of_block (off := 2) HBQ6.out rfl; have b3' := cell_of_block (off := 3) HBQ6.out rfl; have b4' := cell_of_block (off := 4) HBQ6.out rfl; have b5' := cell_of_block (off := 5) HBQ6.out rfl; have b6' := cell_of_block (off := 6) HBQ6.out rfl; have b7' := cell_of_block (off := 7) HBQ6.out rfl; have b8' := cell_of_block (off := 8) HBQ6.out rfl; have b9' := cell_of_block (off := 9) HBQ6.out rfl
          have hvl : s.V0.length ≤ 200000 := by have h1 := runOps_len _ HS.out; have h2 := (restOps_small V VO L N al HN.out).1; simp at h1; omega
          have hnd : (s.L ++ s.N).Nodup := by
            rw [List.nodup_append]
            refine ⟨HC6.out.sl.1.nodup, HC6.out.sn.1.nodup, fun x hx y hy e => ?_⟩
            subst e
            exact (HI.out.learn x hx).2 (HI.out.next x hy).1
          have HVL := Lib.hid hvl; have HND := Lib.hid hnd
          clear hcc hvl hnd HCR HG hi hlt
          have hcw : changedC V VO L N al way l = wayC s way (l.map kd) := by unfold changedC; rw [HS.out]; rfl
          have HCW := Lib.hid hcw; clear hcw
          have HNWR := Lib.hid (HNW5.out.then HNR.out); have HBB6 := Lib.hid (HNR.out.keeps HBB5.out (by simp)); have HRS6 := Lib.hid (HNR.out.keeps HRS5.out (by simp))
          go_upto_block 3 with fail
          go_cut [7, 11] from 89 to 119 (fun _ s11 wx => New w wx ∧ wx.heap[w.heap.size + 1]? = some (.cells #[.slice none 0 0, .slice none 0 0, .slice none 0 0, .slice none 0 0, .bool false] 44 (0, 0)) ∧ ∃ c0' c1' ab' cl' cn' ct', wx.heap[bk]? = some (.cells #[.map c0', .map c1', .bool ab', .map cl', .map cn'] 85 (0, 0)) ∧ UniR wx (wayC s way (l.map kd)) c0' c1' ab' cl' cn' ct' s11)
          case first =>
            rcases HWAY.out with rfl | rfl | rfl | rfl
            · go_wp2_with fail
              refine Calls.mono ((simple_any c0 c1 cl cn (some tk') (some vt) s.al s.V0 s.V1 s.L s.N CT _ (l.map kd) _ HC6.out HE.out HT6.out HI.out HCC.out HOK.out (by have h1 := HVL.out; have h2 := HKL.out; omega)).mono fun e w' h => h.uni) ?_
              rintro e w6 ⟨c0', c1', ab', cl', cn', ct', ev', rfl, n6, hu6⟩
              have HU6 := Lib.hid hu6
              have HB6 := Lib.hid (n6.keeps HBB6.out (by simp)); have HR6 := Lib.hid (n6.keeps HRS6.out (by simp)); have HN6 := Lib.hid (HNWR.out.then n6)
              clear b0' b1' b2' b3' b4' b5' b6' b7' b8' b9' n6 hu6
              have q0 := cell_of_block (off := 0) HB6.out rfl; have q1 := cell_of_block (off := 1) HB6.out rfl; have q2 := cell_of_block (off := 2) HB6.out rfl; have q3 := cell_of_block (off := 3) HB6.out rfl; have q4 := cell_of_block (off := 4) HB6.out rfl
              have y0 := free_of_block (off := 0) HB6.out; have y1 := free_of_block (off := 1) HB6.out; have y2 := free_of_block (off := 2) HB6.out; have y3 := free_of_block (off := 3) HB6.out; have y4 := free_of_block (off := 4) HB6.out
              go_wp2_with fail
              go_meet
              case rel =>
                have hbw : w.heap.size + 1 < bk := by have a1 := HZ1.out; have a2 := HZ2.out; have a3 := HBK.out; omega
                exact ⟨set5_new HN6.out (by omega) _ _ _ _ _, (set5_chg w6 bk (.map c0') (.map c1') (.bool ab') (.map cl') (.map cn')).keeps HR6.out (by omega), _, _, _, _, _, _, set5_block HB6.out _ _ _ _ _, HU6.out.cells (set5_chg w6 bk _ _ _ _ _) HB6.out (by decide)⟩
            · go_wp2_with fail
              refine Calls.mono ((enter_any false c0 c1 cl cn (some tk') (some vt) s.al s.V0 s.V1 s.L s.N CT _ (l.map kd) _ HC6.out HE.out HT6.out HI.out HCC.out HOK.out (by have h2 := HKL.out; omega)).mono fun e w' h => h.uni) ?_
              rintro e w6 ⟨c0', c1', ab', cl', cn', ct', ev', rfl, n6, hu6⟩
              have HU6 := Lib.hid hu6
              have HB6 := Lib.hid (n6.keeps HBB6.out (by simp)); have HR6 := Lib.hid (n6.keeps HRS6.out (by simp)); have HN6 := Lib.hid (HNWR.out.then n6)
              clear b0' b1' b2' b3' b4' b5' b6' b7' b8' b9' n6 hu6
              have q0 := cell_of_block (off := 0) HB6.out rfl; have q1 := cell_of_block (off := 1) HB6.out rfl; have q2 := cell_of_block (off := 2) HB6.out rfl; have q3 := cell_of_block (off := 3) HB6.out rfl; have q4 := cell_of_block (off := 4) HB6.out rfl
              have y0 := free_of_block (off := 0) HB6.out; have y1 := free_of_block (off := 1) HB6.out; have y2 := free_of_block (off := 2) HB6.out; have y3 := free_of_block (off := 3) HB6.out; have y4 := free_of_block (off := 4) HB6.out
              go_wp2_with fail
              go_meet
              case rel =>
                have hbw : w.heap.size + 1 < bk := by have a1 := HZ1.out; have a2 := HZ2.out; have a3 := HBK.out; omega
                exact ⟨set5_new HN6.out (by omega) _ _ _ _ _, (set5_chg w6 bk (.map c0') (.map c1') (.bool ab') (.map cl') (.map cn')).keeps HR6.out (by omega), _, _, _, _, _, _, set5_block HB6.out _ _ _ _ _, HU6.out.cells (set5_chg w6 bk _ _ _ _ _) HB6.out (by decide)⟩
            · go_wp2_with fail
              refine Calls.mono ((enter_any true c0 c1 cl cn (some tk') (some vt) s.al s.V0 s.V1 s.L s.N CT _ (l.map kd) _ HC6.out HE.out HT6.out HI.out HCC.out HOK.out (by have h2 := HKL.out; omega)).mono fun e w' h => h.uni) ?_
              rintro e w6 ⟨c0', c1', ab', cl', cn', ct', ev', rfl, n6, hu6⟩
              have HU6 := Lib.hid hu6
              have HB6 := Lib.hid (n6.keeps HBB6.out (by simp)); have HR6 := Lib.hid (n6.keeps HRS6.out (by simp)); have HN6 := Lib.hid (HNWR.out.then n6)
              clear b0' b1' b2' b3' b4' b5' b6' b7' b8' b9' n6 hu6
              have q0 := cell_of_block (off := 0) HB6.out rfl; have q1 := cell_of_block (off := 1) HB6.out rfl; have q2 := cell_of_block (off := 2) HB6.out rfl; have q3 := cell_of_block (off := 3) HB6.out rfl; have q4 := cell_of_block (off := 4) HB6.out rfl
              have y0 := free_of_block (off := 0) HB6.out; have y1 := free_of_block (off := 1) HB6.out; have y2 := free_of_block (off := 2) HB6.out; have y3 := free_of_block (off := 3) HB6.out; have y4 := free_of_block (off := 4) HB6.out
              go_wp2_with fail
              go_meet
              case rel =>
                have hbw : w.heap.size + 1 < bk := by have a1 := HZ1.out; have a2 := HZ2.out; have a3 := HBK.out; omega
                exact ⟨set5_new HN6.out (by omega) _ _ _ _ _, (set5_chg w6 bk (.map c0') (.map c1') (.bool ab') (.map cl') (.map cn')).keeps HR6.out (by omega), _, _, _, _, _, _, set5_block HB6.out _ _ _ _ _, HU6.out.cells (set5_chg w6 bk _ _ _ _ _) HB6.out (by decide)⟩
            · go_wp2_with fail
              refine Calls.mono ((leave_any c0 c1 cl cn (some tk') (some vt) s.al s.V0 s.V1 s.L s.N CT _ HC6.out HE.out HT6.out HI.out).mono fun e w' h => h.uni (l := l.map kd) HND.out) ?_
              rintro e w6 ⟨c0', c1', ab', cl', cn', ct', ev', rfl, n6, hu6⟩
              have HU6 := Lib.hid hu6
              have HB6 := Lib.hid (n6.keeps HBB6.out (by simp)); have HR6 := Lib.hid (n6.keeps HRS6.out (by simp)); have HN6 := Lib.hid (HNWR.out.then n6)
              clear b0' b1' b2' b3' b4' b5' b6' b7' b8' b9' n6 hu6
              have q0 := cell_of_block (off := 0) HB6.out rfl; have q1 := cell_of_block (off := 1) HB6.out rfl; have q2 := cell_of_block (off := 2) HB6.out rfl; have q3 := cell_of_block (off := 3) HB6.out rfl; have q4 := cell_of_block (off := 4) HB6.out rfl
              have y0 := free_of_block (off := 0) HB6.out; have y1 := free_of_block (off := 1) HB6.out; have y2 := free_of_block (off := 2) HB6.out; have y3 := free_of_block (off := 3) HB6.out; have y4 := free_of_block (off := 4) HB6.out
              go_wp2_with fail
              go_meet
              case rel =>
                have hbw : w.heap.size + 1 < bk := by have a1 := HZ1.out; have a2 := HZ2.out; have a3 := HBK.out; omega
                exact ⟨set5_new HN6.out (by omega) _ _ _ _ _, (set5_chg w6 bk (.map c0') (.map c1') (.bool ab') (.map cl') (.map cn')).keeps HR6.out (by omega), _, _, _, _, _, _, set5_block HB6.out _ _ _ _ _, HU6.out.cells (set5_chg w6 bk _ _ _ _ _) HB6.out (by decide)⟩
          case rest =>
            obtain ⟨hn7, hr7, c0', c1', ab', cl', cn', ct', hb7, hu7⟩ := hcut
            have HN7 := Lib.hid hn7; have HR7 := Lib.hid hr7; have HB7 := Lib.hid hb7; have HSZ := Lib.hid (lt_of_block hr7)
            clear hn7 hr7 hb7 b0' b1' b2' b3' b4' b5' b6' b7' b8' b9'
            rcases hu7 with ⟨s', tk6, CT6, hs6, rfl, rfl, rfl, hcfg6, hne6, htrk6, hinv6⟩ | ⟨hnone6, se6, rfl⟩
            · have hch : changedC V VO L N al way l = some s' := by rw [HCW.out]; exact hs6
              have hm := HM.out s' hch
              have HCH := Lib.hid hch; have HMM := Lib.hid hm
              have HS0 := Lib.hid hcfg6.s0; have HS1 := Lib.hid hcfg6.s1.1; have HSL := Lib.hid hcfg6.sl.1; have HSN := Lib.hid hcfg6.sn.1
              clear hcfg6 hne6 htrk6 hinv6 hs6 hch hm
              have q0 := cell_of_block (off := 0) HB7.out rfl; have q1 := cell_of_block (off := 1) HB7.out rfl; have q2 := cell_of_block (off := 2) HB7.out rfl; have q3 := cell_of_block (off := 3) HB7.out rfl; have q4 := cell_of_block (off := 4) HB7.out rfl
              go_wp2_with fail
              clear q0 q1 q2 q3 q4
              refine (confout_any M HSORT.out c0' c1' cl' cn' s'.al s'.V0 s'.V1 s'.L s'.N _ HS0.out HS1.out HSL.out HSN.out HMM.out.1 HMM.out.2.1 HMM.out.2.2.1 HMM.out.2.2.2).mono ?_
              rintro e w8 ⟨cv, rfl, hout, n8⟩
              obtain ⟨va, vb, vc, vd, A, B, C, D, rfl, l1, l2, l3, l4⟩ := hout.ex
              obtain ⟨ga1, gb1, rfl⟩ := l1.slice; obtain ⟨ga2, gb2, rfl⟩ := l2.slice; obtain ⟨ga3, gb3, rfl⟩ := l3.slice; obtain ⟨ga4, gb4, rfl⟩ := l4.slice
              have HR8 := Lib.hid (n8.keeps HR7.out (by simp)); have HN9 := Lib.hid (HN7.out.then n8); have HOUT := Lib.hid hout
              clear l1 l2 l3 l4 n8 hout
              have r0 := cell_of_block (off := 0) HR8.out rfl; have r1 := cell_of_block (off := 1) HR8.out rfl; have r2 := cell_of_block (off := 2) HR8.out rfl; have r3 := cell_of_block (off := 3) HR8.out rfl; have r4 := cell_of_block (off := 4) HR8.out rfl
              have z0 := free_of_block (off := 0) HR8.out; have z1 := free_of_block (off := 1) HR8.out; have z2 := free_of_block (off := 2) HR8.out; have z3 := free_of_block (off := 3) HR8.out; have z4 := free_of_block (off := 4) HR8.out
              go_wp2_with fail
              refine bodyPost_ret (v := ?_) ?_ rfl ?_
              rotate_left 1
              · simp [results, Try.results24, go_sem, r0, r1, r2, r3, r4]
                rfl
              exact ⟨set5_new HN9.out (by omega) _ _ _ _ _, .inl ⟨s', _, HCH.out, rfl, (HOUT.out.chg (set5_chg _ _ _ _ _ _ _) (fun i h1 h2 e => by have a := HSZ.out; omega)).base HN7.out.size⟩⟩
            · have hch : changedC V VO L N al way l = none := by rw [HCW.out]; exact hnone6
              have HCH := Lib.hid hch
              have r0 := cell_of_block (off := 0) HR7.out rfl; have r1 := cell_of_block (off := 1) HR7.out rfl; have r2 := cell_of_block (off := 2) HR7.out rfl; have r3 := cell_of_block (off := 3) HR7.out rfl; have r4 := cell_of_block (off := 4) HR7.out rfl
              have z0 := free_of_block (off := 0) HR7.out; have z1 := free_of_block (off := 1) HR7.out; have z2 := free_of_block (off := 2) HR7.out; have z3 := free_of_block (off := 3) HR7.out; have z4 := free_of_block (off := 4) HR7.out
              clear hnone6 hch
              go_wp2_with fail
              refine bodyPost_ret (v := ?_) ?_ rfl ?_
              rotate_left 1
              · simp [results, Try.results24, go_sem, r0, r1, r2, r3, r4]
                rfl
              exact ⟨set5_new HN7.out (by omega) _ _ _ _ _, .inr ⟨HCH.out, rfl⟩⟩
    · have hch : changedC V VO L N al way l = none := by unfold changedC; rw [hnone]; rfl
      have HCH := Lib.hid hch
      clear hch hnone
      go_wp2_with fail
      refine bodyPost_ret (v := ?_) ?_ rfl ?_
      rotate_left 1
      · simp [results, Try.results24, go_sem, r0, r1, r2, r3, r4]
        rfl
      exact ⟨set5_new HNW.out (by omega) _ _ _ _ _, .inr ⟨HCH.out, rfl⟩⟩
end Go.Proofs.Ytcgccoigjcdjeaa
