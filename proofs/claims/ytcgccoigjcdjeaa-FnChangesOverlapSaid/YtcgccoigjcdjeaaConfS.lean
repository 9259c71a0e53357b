/- confchange.chain. Condition: what the changes and the closures are, and how many members there may be. -/
import Derived.Test.YtcgccoigjcdjeaaConfR
namespace Go.Proofs.Ytcgccoigjcdjeaa
open Go.RowKit

/-- a configuration: whether raft ends it itself; who votes, voted, learns, is to learn -/
structure Cs where
  al : Bool
  V0 : List Int
  V1 : List Int
  L : List Int
  N : List Int
inductive COp where
  | one (x : Int × Int)
  | enter (auto : Bool) (l : List (Int × Int))
def stepOp (s : Cs) : COp → Option Cs
  | .one x => if s.V1 = [] ∧ (foldC [] (s.V0, s.L, s.N) [x]).1 ≠ [] ∧ cnt s.V0 (foldC [] (s.V0, s.L, s.N) [x]).1 + cnt (foldC [] (s.V0, s.L, s.N) [x]).1 s.V0 ≤ 1 then
      some ⟨false, (foldC [] (s.V0, s.L, s.N) [x]).1, [], (foldC [] (s.V0, s.L, s.N) [x]).2.1, (foldC [] (s.V0, s.L, s.N) [x]).2.2⟩ else none
  | .enter a l => if s.V1 = [] ∧ s.V0 ≠ [] ∧ (foldC s.V0 (s.V0, s.L, s.N) l).1 ≠ [] then some ⟨a, (foldC s.V0 (s.V0, s.L, s.N) l).1, s.V0, (foldC s.V0 (s.V0, s.L, s.N) l).2.1, (foldC s.V0 (s.V0, s.L, s.N) l).2.2⟩ else none
def runOps : Cs → List COp → Option Cs
  | s, [] => some s
  | s, o :: l => (stepOp s o).bind fun s' => runOps s' l
theorem runOps_append (s : Cs) (a b : List COp) : runOps s (a ++ b) = (runOps s a).bind fun s' => runOps s' b := by
  induction a generalizing s with
  | nil => rfl
  | cons o a ih =>
    simp only [List.cons_append, runOps]
    cases stepOp s o with
    | none => rfl
    | some s' => exact ih s'
theorem runOps_take (s : Cs) (l : List COp) (i : Nat) (h : i < l.length) : runOps s (l.take (i + 1)) = (runOps s (l.take i)).bind fun s' => stepOp s' l[i] := by
  rw [List.take_succ_eq_append_getElem h, runOps_append]
  congr 1
  funext s'
  simp only [runOps]
  cases stepOp s' l[i] <;> rfl
theorem runOps_dead (s : Cs) (l : List COp) (i : Nat) (h : runOps s (l.take i) = none) : runOps s l = none := by
  rw [← List.take_append_drop i l, runOps_append, h]; rfl
def COp.ok : COp → Prop
  | .one x => x.1 = 0 ∨ x.1 = 1 ∨ x.1 = 3
  | .enter _ l => (∀ x ∈ l, x.1 = 0 ∨ x.1 = 1 ∨ x.1 = 3) ∧ l.length ≤ 400000
def OpV (w : World) (fv : Value) : COp → Prop
  | .one x => ∃ fn pb p, (fn = 71 ∨ fn = 72) ∧ fv = .func (.func fn) #[] #[.pointer (some ⟨pb, 0, none⟩)] ∧ w.cell? ⟨pb, 0, none⟩ = some (.pointer (some ⟨p, 0, none⟩)) ∧ w.cell? ⟨p, 0, none⟩ = some (.int .i32 x.1) ∧ w.cell? ⟨p, 1, none⟩ = some (.int .u64 x.2)
  | .enter a l => ∃ pb qb cb sv, fv = .func (.func 73) #[] #[.pointer (some ⟨pb, 0, none⟩), .pointer (some ⟨qb, 0, none⟩)] ∧ w.cell? ⟨pb, 0, none⟩ = some (.pointer (some ⟨cb, 0, none⟩)) ∧ w.cell? ⟨qb, 0, none⟩ = some sv ∧ w.cell? ⟨cb, 4, none⟩ = some (.bool a) ∧ Ccs w (fun i => w.heap.size ≤ i) sv l
theorem Chg.has {w w' : World} (c : New w w') {p : Addr} {v : Value} (h : w.cell? p = some v) : w'.cell? p = some v := (c.cell (World.block_lt_of_cell? w _ h) (by simp)).trans h
theorem OpV.new {w w' : World} {fv : Value} {o : COp} (h : OpV w fv o) (c : New w w') : OpV w' fv o := by
  cases o with
  | one x =>
    obtain ⟨fn, pb, p, h1, h2, h3, h4, h5⟩ := h
    exact ⟨fn, pb, p, h1, h2, c.has h3, c.has h4, c.has h5⟩
  | enter a l =>
    obtain ⟨pb, qb, cb, sv, h1, h2, h3, h4, h5⟩ := h
    exact ⟨pb, qb, cb, sv, h1, c.has h2, c.has h3, c.has h4, h5.new c (fun i hi h => by have := c.size; omega)⟩
def Fs (w : World) (v : Value) (ops : List COp) : Prop :=
  ∃ ao cap, v = .slice ao ops.length cap ∧ ∀ i (hi : i < ops.length), ∃ b off fv, ao = some ⟨b, off, none⟩ ∧ w.cell? ⟨b, off + i, none⟩ = some fv ∧ OpV w fv (ops[i]'hi)
def Chained (w : World) (s0 : Cs) (ops : List COp) (e : Ending) (w' : World) : Prop :=
  New w w' ∧ ((∃ s, runOps s0 ops = some s ∧ Good w' s.al s.V0 s.V1 s.L s.N e) ∨ (runOps s0 ops = none ∧ ErrR e))

theorem CfgV.new {w w' : World} {v0 v1 ln nx : Option Nat} {V0 V1 L N : List Int} (h : CfgV w v0 v1 ln nx V0 V1 L N) (c : New w w') : CfgV w' v0 v1 ln nx V0 V1 L N :=
  ⟨h.s0.chg c (by simp), ⟨h.s1.1.chg c (by simp), h.s1.2⟩, ⟨h.sl.1.chg c (by simp), h.sl.2⟩, ⟨h.sn.1.chg c (by simp), h.sn.2⟩⟩
theorem Good.new {w w' : World} {al : Bool} {V0 V1 L N : List Int} {e : Ending} (h : Good w al V0 V1 L N e) (c : New w w') : Good w' al V0 V1 L N e := by
  obtain ⟨v0, v1, ln, nx, tk, T, h1, h2, h3, h4, h5⟩ := h
  exact ⟨v0, v1, ln, nx, tk, T, h1, h2.new c, h3, h4.new c, h5⟩
/-- a row of cells that is no Progress turns -/
theorem SetV.cells {w w' : World} {o : Option Nat} {s : List Int} {r : Nat} {cs : Array Value} {t : TypeId} {f : Nat × Nat} (h : SetV w o s) (c : Chg w w' (· = r)) (hr : w.heap[r]? = some (.cells cs t f)) : SetV w' o s :=
  h.chg c (fun i e e' => by subst e; subst e'; exact h.ne_cells hr rfl)
theorem CfgV.cells {w w' : World} {v0 v1 ln nx : Option Nat} {V0 V1 L N : List Int} {r : Nat} {cs : Array Value} {t : TypeId} {f : Nat × Nat} (h : CfgV w v0 v1 ln nx V0 V1 L N) (c : Chg w w' (· = r)) (hr : w.heap[r]? = some (.cells cs t f)) : CfgV w' v0 v1 ln nx V0 V1 L N :=
  ⟨h.s0.cells c hr, ⟨h.s1.1.cells c hr, h.s1.2⟩, ⟨h.sl.1.cells c hr, h.sl.2⟩, ⟨h.sn.1.cells c hr, h.sn.2⟩⟩
theorem TrkV.cells {w w' : World} {tk : Nat} {T : List (Int × Nat × Bool)} {r : Nat} {cs : Array Value} {t : TypeId} {f : Nat × Nat} (h : TrkV w (some tk) T) (c : Chg w w' (· = r)) (hr : w.heap[r]? = some (.cells cs t f)) (ht : t ≠ 145) : TrkV w' (some tk) T :=
  h.chg c (fun i e e' => by cases e; subst e'; exact MapB.ne_cells h.map hr rfl) (fun x hx e => by obtain ⟨q, hq⟩ := h.prog x hx; rw [e, hr] at hq; cases hq; exact ht rfl)
theorem CfgV.drew {w : World} {v0 v1 ln nx : Option Nat} {V0 V1 L N : List Int} (h : CfgV w v0 v1 ln nx V0 V1 L N) : CfgV w.drew v0 v1 ln nx V0 V1 L N := h.new (Chg.drew _ _)
abbrev set6 (w : World) (r : Nat) (a b c d e f : Value) : World := (((((w.setCell ⟨r, 0, none⟩ a).setCell ⟨r, 1, none⟩ b).setCell ⟨r, 2, none⟩ c).setCell ⟨r, 3, none⟩ d).setCell ⟨r, 4, none⟩ e).setCell ⟨r, 5, none⟩ f
theorem set6_block {w : World} {r : Nat} {x0 x1 x2 x3 x4 x5 x6 x7 x8 x9 : Value} (h : w.heap[r]? = some (.cells #[x0, x1, x2, x3, x4, x5, x6, x7, x8, x9] 96 (0, 0))) (a b c d e f : Value) : (set6 w r a b c d e f).heap[r]? = some (.cells #[a, b, c, d, e, f, x6, x7, x8, x9] 96 (0, 0)) := by
  have := block_setCell (off := 5) (block_setCell (off := 4) (block_setCell (off := 3) (block_setCell (off := 2) (block_setCell (off := 1) (block_setCell (off := 0) h a) b) c) d) e) f
  simpa using this
theorem set6_chg (w : World) (r : Nat) (a b c d e f : Value) : Chg w (set6 w r a b c d e f) (fun x => x = r) := by
  have h : ∀ (W : World) (j : Nat) (v : Value), Chg W (W.setCell ⟨r, j, none⟩ v) (fun x => x = r) := fun W j v => Chg.setCell W _ v _ (fun _ => rfl)
  exact (((((h w 0 a).then (h _ 1 b)).then (h _ 2 c)).then (h _ 3 d)).then (h _ 4 e)).then (h _ 5 f)
theorem Simpled.good {w : World} {V0 V1 L N : List Int} {l : List (Int × Int)} {e : Ending} {w' : World} (h : Simpled w V0 V1 L N l e w') (hp : V1 = [] ∧ (foldC [] (V0, L, N) l).1 ≠ [] ∧ cnt V0 (foldC [] (V0, L, N) l).1 + cnt (foldC [] (V0, L, N) l).1 V0 ≤ 1) : Good w' false (foldC [] (V0, L, N) l).1 [] (foldC [] (V0, L, N) l).2.1 (foldC [] (V0, L, N) l).2.2 e ∧ New w w' := by
  obtain ⟨hn, h | h⟩ := h
  · exact ⟨h.2.2.2, hn⟩
  · exact absurd hp h.1
theorem Simpled.bad {w : World} {V0 V1 L N : List Int} {l : List (Int × Int)} {e : Ending} {w' : World} (h : Simpled w V0 V1 L N l e w') (hp : ¬ (V1 = [] ∧ (foldC [] (V0, L, N) l).1 ≠ [] ∧ cnt V0 (foldC [] (V0, L, N) l).1 + cnt (foldC [] (V0, L, N) l).1 V0 ≤ 1)) : ErrR e ∧ New w w' := by
  obtain ⟨hn, h | h⟩ := h
  · exact absurd ⟨h.1, h.2.1, h.2.2.1⟩ hp
  · exact ⟨h.2, hn⟩
/-- what a closure leaves -/
def Opped (w : World) (s : Cs) (o : COp) (e : Ending) (w' : World) : Prop :=
  New w w' ∧ ((∃ s', stepOp s o = some s' ∧ Good w' s'.al s'.V0 s'.V1 s'.L s'.N e) ∨ (stepOp s o = none ∧ ErrR e))
theorem Simpled.opped {w : World} {s : Cs} {x : Int × Int} {e : Ending} {w' : World} (h : Simpled w s.V0 s.V1 s.L s.N [x] e w') : Opped w s (.one x) e w' := by
  by_cases hp : s.V1 = [] ∧ (foldC [] (s.V0, s.L, s.N) [x]).1 ≠ [] ∧ cnt s.V0 (foldC [] (s.V0, s.L, s.N) [x]).1 + cnt (foldC [] (s.V0, s.L, s.N) [x]).1 s.V0 ≤ 1
  · exact ⟨(h.good hp).2, .inl ⟨_, by rw [stepOp, if_pos hp], (h.good hp).1⟩⟩
  · exact ⟨(h.bad hp).2, .inr ⟨by rw [stepOp, if_neg hp], (h.bad hp).1⟩⟩
theorem Entered.opped {w : World} {s : Cs} {a : Bool} {l : List (Int × Int)} {e : Ending} {w' : World} (h : Entered w a s.V0 s.V1 s.L s.N l e w') : Opped w s (.enter a l) e w' := by
  by_cases hp : s.V1 = [] ∧ s.V0 ≠ [] ∧ (foldC s.V0 (s.V0, s.L, s.N) l).1 ≠ []
  · exact ⟨(h.good hp).2, .inl ⟨_, by rw [stepOp, if_pos hp], (h.good hp).1⟩⟩
  · exact ⟨(h.bad hp).2, .inr ⟨by rw [stepOp, if_neg hp], (h.bad hp).1⟩⟩

set_option maxRecDepth 100000 in
set_option maxHeartbeats 1600000 in
theorem chain_any (v0 v1 ln nx vt : Option Nat) (tk : Nat) (s0 : Cs) (T : List (Int × Nat × Bool)) (sv : Value) (ops : List COp) (w : World)
    (hc : CfgV w v0 v1 ln nx s0.V0 s0.V1 s0.L s0.N) (h0 : v0 ≠ none) (ht : TrkV w (some tk) T) (hi : Inv s0.V0 s0.V1 s0.L s0.N T) (hf : Fs w sv ops) (hk : ∀ o ∈ ops, o.ok) (hb : ∀ i s, runOps s0 (ops.take i) = some s → s.V0.length ≤ 300000) (hn : ops.length ≤ 1000000) :
    Calls Try.prog 75 #[chgOf v0 v1 s0.al ln nx (some tk) vt, sv] w (Chained w s0 ops) := by
  obtain ⟨ao, cap, rfl, hfs⟩ := hf
  have HC := Lib.hid hc; have HT := Lib.hid ht; have HI := Lib.hid hi; have H0 := Lib.hid h0; have HF := Lib.hid hfs; have HK := Lib.hid hk; have HB := Lib.hid hb; have HN := Lib.hid hn
  clear hc ht hi h0 hfs hk hb hn
  unfold chgOf
  go_enter Try.func75, Try.ntmps75
  go_wp2_with fail
  go_loopg [8, 9, 10, 11, 14] ops.length (fun n _ _ _ _ j wr => ∃ (i : Nat) (s : Cs) (v0 v1 ln nx : Option Nat) (tk : Nat) (T : List (Int × Nat × Bool)), i ≤ ops.length ∧ ops.length ≤ n + i ∧ j = .int .i64 i ∧ runOps s0 (ops.take i) = some s ∧ CfgV wr v0 v1 ln nx s.V0 s.V1 s.L s.N ∧ v0 ≠ none ∧ TrkV wr (some tk) T ∧ Inv s.V0 s.V1 s.L s.N T ∧ New w wr ∧
    wr.heap[w.heap.size]? = some (.cells #[.map v0, .map v1, .bool s.al, .map ln, .map nx, .map (some tk), .map vt, .int .i64 10, .int .u64 0, .int .u64 1] 96 (0, 0)) ∧
    wr.heap[w.heap.size + 1]? = some (.cells #[.map none, .map none, .bool false, .map none, .map none] 85 (0, 0)))
  case atStart =>
    have n2 : ∀ o1 o2, New w ((w.alloc o1).alloc o2) := fun o1 o2 => (Chg.alloc w _ _).then (Chg.alloc _ _ _)
    exact ⟨0, s0, v0, v1, ln, nx, tk, T, by omega, by omega, rfl, rfl, HC.out.new (n2 _ _), H0.out, HT.out.new (n2 _ _), HI.out, n2 _ _, block_alloc (block_new w _) _, block_new1 w _ _⟩
  case round =>
    clear HC HT HI H0
    obtain ⟨i, s, v0, v1, ln, nx, tk, T, hi, hg, rfl, hrun, hc, h0, ht, hinv, hnew, hbox, hres⟩ := hrel
    have HG := Lib.hid hg; have HRUN := Lib.hid hrun; have HC := Lib.hid hc; have H0 := Lib.hid h0; have HT := Lib.hid ht; have HI := Lib.hid hinv; have HNW := Lib.hid hnew; have HBX := Lib.hid hbox; have HRS := Lib.hid hres
    clear hg hrun hc h0 ht hinv hnew hbox hres
    have b0' : wr.cell? ⟨w.heap.size, 0, none⟩ = some (.map v0) := cell_of_block HBX.out rfl
    have b1' : wr.cell? ⟨w.heap.size, 1, none⟩ = some (.map v1) := cell_of_block HBX.out rfl
    have b2' : wr.cell? ⟨w.heap.size, 2, none⟩ = some (.bool s.al) := cell_of_block HBX.out rfl
    have b3' : wr.cell? ⟨w.heap.size, 3, none⟩ = some (.map ln) := cell_of_block HBX.out rfl
    have b4' : wr.cell? ⟨w.heap.size, 4, none⟩ = some (.map nx) := cell_of_block HBX.out rfl
    have b5' : wr.cell? ⟨w.heap.size, 5, none⟩ = some (.map (some tk)) := cell_of_block HBX.out rfl
    have b6' : wr.cell? ⟨w.heap.size, 6, none⟩ = some (.map vt) := cell_of_block HBX.out rfl
    have b7' : wr.cell? ⟨w.heap.size, 7, none⟩ = some (.int .i64 10) := cell_of_block HBX.out rfl
    have b8' : wr.cell? ⟨w.heap.size, 8, none⟩ = some (.int .u64 0) := cell_of_block HBX.out rfl
    have b9' : wr.cell? ⟨w.heap.size, 9, none⟩ = some (.int .u64 1) := cell_of_block HBX.out rfl
    by_cases hlt : i < ops.length
    · have hsmall : ops.length ≤ 1000000 := HN.out
      obtain ⟨b, off, fv, hao, hcell, hop⟩ := HF.out i hlt
      subst hao
      have hcw : wr.cell? ⟨b, off + i, none⟩ = some fv := HNW.out.has hcell
      have hopw := hop.new HNW.out
      have hkk := HK.out _ (List.getElem_mem hlt)
      have hft := runOps_take s0 ops i hlt
      obtain ⟨o, ho⟩ : ∃ o, o = ops[i] := ⟨_, rfl⟩
      rw [← ho] at hopw hkk hft
      have HOP := Lib.hid hopw; have HKK := Lib.hid hkk; have HFT := Lib.hid hft; have HSM := Lib.hid (HB.out i s HRUN.out)
      clear hop hopw hkk ho hft hcell
      cases o with
      | one x =>
        obtain ⟨fn, pb, p, hfn, rfl, hp1, hp2, hp3⟩ := HOP.out
        have HP1 := Lib.hid hp1; have HP2 := Lib.hid hp2; have HP3 := Lib.hid hp3
        clear hp1 hp2 hp3
        rcases hfn with rfl | rfl
        · go_wp2_with fail
          refine (one71_any v0 v1 ln nx (some tk) vt s.al s.V0 s.V1 s.L s.N T pb p x _ HC.out H0.out HT.out HI.out HP1.out HP2.out HP3.out HKK.out HSM.out).mono ?_
          intro e w1 hO0
          have hO : Opped wr s _ e w1 := hO0.opped
          obtain ⟨hn1, hO⟩ := hO
          have hbx1 := block_alloc (hn1.keeps HBX.out (by simp))
          have hrs1 := block_alloc (hn1.keeps HRS.out (by simp))
          have hnw1 := HNW.out.then hn1
          have HBX1 := Lib.hid hbx1; have HRS1 := Lib.hid hrs1; have HNW1 := Lib.hid hnw1
          clear hO0 hn1 hbx1 hrs1 hnw1 b0' b1' b2' b3' b4' b5' b6' b7' b8' b9'
          rcases hO with ⟨s', hs', c0, c1, cl, cn, ct, CT, rfl, g1, g2, g3, g4⟩ | ⟨hs', se, rfl⟩
          · have G1 := Lib.hid g1; have G2 := Lib.hid g2; have G3 := Lib.hid g3; have G4 := Lib.hid g4; have HS' := Lib.hid hs'
            clear g1 g2 g3 g4 hs'
            obtain ⟨ob, hob⟩ : ∃ ob : Obj, ob = .cells #[.map c0, .map c1, .bool s'.al, .map cl, .map cn] 85 := ⟨_, rfl⟩
            have hbk := HBX1.out ob
            rw [hob] at hbk
            have x0 := cell_of_block (off := 0) hbk rfl; have x1 := cell_of_block (off := 1) hbk rfl; have x2 := cell_of_block (off := 2) hbk rfl; have x3 := cell_of_block (off := 3) hbk rfl; have x4 := cell_of_block (off := 4) hbk rfl; have x5 := cell_of_block (off := 5) hbk rfl
            have y0 := free_of_block (off := 0) hbk; have y1 := free_of_block (off := 1) hbk; have y2 := free_of_block (off := 2) hbk; have y3 := free_of_block (off := 3) hbk; have y4 := free_of_block (off := 4) hbk; have y5 := free_of_block (off := 5) hbk
            have HBK := Lib.hid hbk
            clear hbk hob
            go_wp2_with fail
            go_roundg (gk - 1)
            case measure => have := HG.out; omega
            case rel =>
              have hc6 := set6_chg (w1.alloc (.cells #[.map c0, .map c1, .bool s'.al, .map cl, .map cn] 85)) w.heap.size (.map c0) (.map c1) (.bool s'.al) (.map cl) (.map cn) (.map (some ct))
              have na : New w1 (w1.alloc (.cells #[.map c0, .map c1, .bool s'.al, .map cl, .map cn] 85)) := Chg.alloc _ _ _
              exact ⟨i + 1, s', c0, c1, cl, cn, ct, CT, by omega, by have := HG.out; omega, by go_num, by rw [HFT.out, HRUN.out]; exact HS'.out, (G1.out.new na).cells hc6 HBK.out, G2.out, (G3.out.new na).cells hc6 HBK.out (by decide), G4.out, (HNW1.out.then na).trans hc6 (fun _ _ h => h) (fun i hi e => by omega), set6_block HBK.out _ _ _ _ _ _, hc6.keeps (HRS1.out _) (by simp)⟩
          · have HS' := Lib.hid hs'
            clear hs'
            have hbk := HRS1.out (.cells #[.map none, .map none, .bool false, .map none, .map none] 85)
            have r0 := cell_of_block (off := 0) hbk rfl; have r1 := cell_of_block (off := 1) hbk rfl; have r2 := cell_of_block (off := 2) hbk rfl; have r3 := cell_of_block (off := 3) hbk rfl; have r4 := cell_of_block (off := 4) hbk rfl
            have z0 := free_of_block (off := 0) hbk; have z1 := free_of_block (off := 1) hbk; have z2 := free_of_block (off := 2) hbk; have z3 := free_of_block (off := 3) hbk; have z4 := free_of_block (off := 4) hbk
            clear hbk
            go_wp2_with fail
            refine bodyPost_ret (v := ?_) ?_ rfl ?_
            rotate_left 1
            · simp [results, Try.results75, go_sem, r0, r1, r2, r3, r4]
              rfl
            exact ⟨set5_new (HNW1.out.then (Chg.alloc _ _ _)) (by omega) _ _ _ _ _, .inr ⟨runOps_dead s0 ops (i + 1) (by rw [HFT.out, HRUN.out]; exact HS'.out), _, rfl⟩⟩
        · go_wp2_with fail
          refine (one72_any v0 v1 ln nx (some tk) vt s.al s.V0 s.V1 s.L s.N T pb p x _ HC.out H0.out HT.out HI.out HP1.out HP2.out HP3.out HKK.out HSM.out).mono ?_
          intro e w1 hO0
          have hO : Opped wr s _ e w1 := hO0.opped
          obtain ⟨hn1, hO⟩ := hO
          have hbx1 := block_alloc (hn1.keeps HBX.out (by simp))
          have hrs1 := block_alloc (hn1.keeps HRS.out (by simp))
          have hnw1 := HNW.out.then hn1
          have HBX1 := Lib.hid hbx1; have HRS1 := Lib.hid hrs1; have HNW1 := Lib.hid hnw1
          clear hO0 hn1 hbx1 hrs1 hnw1 b0' b1' b2' b3' b4' b5' b6' b7' b8' b9'
          rcases hO with ⟨s', hs', c0, c1, cl, cn, ct, CT, rfl, g1, g2, g3, g4⟩ | ⟨hs', se, rfl⟩
          · have G1 := Lib.hid g1; have G2 := Lib.hid g2; have G3 := Lib.hid g3; have G4 := Lib.hid g4; have HS' := Lib.hid hs'
            clear g1 g2 g3 g4 hs'
            obtain ⟨ob, hob⟩ : ∃ ob : Obj, ob = .cells #[.map c0, .map c1, .bool s'.al, .map cl, .map cn] 85 := ⟨_, rfl⟩
            have hbk := HBX1.out ob
            rw [hob] at hbk
            have x0 := cell_of_block (off := 0) hbk rfl; have x1 := cell_of_block (off := 1) hbk rfl; have x2 := cell_of_block (off := 2) hbk rfl; have x3 := cell_of_block (off := 3) hbk rfl; have x4 := cell_of_block (off := 4) hbk rfl; have x5 := cell_of_block (off := 5) hbk rfl
            have y0 := free_of_block (off := 0) hbk; have y1 := free_of_block (off := 1) hbk; have y2 := free_of_block (off := 2) hbk; have y3 := free_of_block (off := 3) hbk; have y4 := free_of_block (off := 4) hbk; have y5 := free_of_block (off := 5) hbk
            have HBK := Lib.hid hbk
            clear hbk hob
            go_wp2_with fail
            go_roundg (gk - 1)
            case measure => have := HG.out; omega
            case rel =>
              have hc6 := set6_chg (w1.alloc (.cells #[.map c0, .map c1, .bool s'.al, .map cl, .map cn] 85)) w.heap.size (.map c0) (.map c1) (.bool s'.al) (.map cl) (.map cn) (.map (some ct))
              have na : New w1 (w1.alloc (.cells #[.map c0, .map c1, .bool s'.al, .map cl, .map cn] 85)) := Chg.alloc _ _ _
              exact ⟨i + 1, s', c0, c1, cl, cn, ct, CT, by omega, by have := HG.out; omega, by go_num, by rw [HFT.out, HRUN.out]; exact HS'.out, (G1.out.new na).cells hc6 HBK.out, G2.out, (G3.out.new na).cells hc6 HBK.out (by decide), G4.out, (HNW1.out.then na).trans hc6 (fun _ _ h => h) (fun i hi e => by omega), set6_block HBK.out _ _ _ _ _ _, hc6.keeps (HRS1.out _) (by simp)⟩
          · have HS' := Lib.hid hs'
            clear hs'
            have hbk := HRS1.out (.cells #[.map none, .map none, .bool false, .map none, .map none] 85)
            have r0 := cell_of_block (off := 0) hbk rfl; have r1 := cell_of_block (off := 1) hbk rfl; have r2 := cell_of_block (off := 2) hbk rfl; have r3 := cell_of_block (off := 3) hbk rfl; have r4 := cell_of_block (off := 4) hbk rfl
            have z0 := free_of_block (off := 0) hbk; have z1 := free_of_block (off := 1) hbk; have z2 := free_of_block (off := 2) hbk; have z3 := free_of_block (off := 3) hbk; have z4 := free_of_block (off := 4) hbk
            clear hbk
            go_wp2_with fail
            refine bodyPost_ret (v := ?_) ?_ rfl ?_
            rotate_left 1
            · simp [results, Try.results75, go_sem, r0, r1, r2, r3, r4]
              rfl
            exact ⟨set5_new (HNW1.out.then (Chg.alloc _ _ _)) (by omega) _ _ _ _ _, .inr ⟨runOps_dead s0 ops (i + 1) (by rw [HFT.out, HRUN.out]; exact HS'.out), _, rfl⟩⟩
      | enter a l =>
        obtain ⟨pb, qb, cb, sv, rfl, hp1, hp2, hp3, hp4⟩ := HOP.out
        have HP1 := Lib.hid hp1; have HP2 := Lib.hid hp2; have HP3 := Lib.hid hp3; have HP4 := Lib.hid hp4
        clear hp1 hp2 hp3 hp4
        go_wp2_with fail
        refine (enter73_any v0 v1 ln nx (some tk) vt s.al s.V0 s.V1 s.L s.N T pb qb cb a sv l _ HC.out H0.out HT.out HI.out HP1.out HP2.out HP3.out HP4.out HKK.out.1 HKK.out.2).mono ?_
        intro e w1 hO0
        have hO : Opped wr s _ e w1 := hO0.opped
        obtain ⟨hn1, hO⟩ := hO
        have hbx1 := block_alloc (hn1.keeps HBX.out (by simp))
        have hrs1 := block_alloc (hn1.keeps HRS.out (by simp))
        have hnw1 := HNW.out.then hn1
        have HBX1 := Lib.hid hbx1; have HRS1 := Lib.hid hrs1; have HNW1 := Lib.hid hnw1
        clear hO0 hn1 hbx1 hrs1 hnw1 b0' b1' b2' b3' b4' b5' b6' b7' b8' b9'
        rcases hO with ⟨s', hs', c0, c1, cl, cn, ct, CT, rfl, g1, g2, g3, g4⟩ | ⟨hs', se, rfl⟩
        · have G1 := Lib.hid g1; have G2 := Lib.hid g2; have G3 := Lib.hid g3; have G4 := Lib.hid g4; have HS' := Lib.hid hs'
          clear g1 g2 g3 g4 hs'
          obtain ⟨ob, hob⟩ : ∃ ob : Obj, ob = .cells #[.map c0, .map c1, .bool s'.al, .map cl, .map cn] 85 := ⟨_, rfl⟩
          have hbk := HBX1.out ob
          rw [hob] at hbk
          have x0 := cell_of_block (off := 0) hbk rfl; have x1 := cell_of_block (off := 1) hbk rfl; have x2 := cell_of_block (off := 2) hbk rfl; have x3 := cell_of_block (off := 3) hbk rfl; have x4 := cell_of_block (off := 4) hbk rfl; have x5 := cell_of_block (off := 5) hbk rfl
          have y0 := free_of_block (off := 0) hbk; have y1 := free_of_block (off := 1) hbk; have y2 := free_of_block (off := 2) hbk; have y3 := free_of_block (off := 3) hbk; have y4 := free_of_block (off := 4) hbk; have y5 := free_of_block (off := 5) hbk
          have HBK := Lib.hid hbk
          clear hbk hob
          go_wp2_with fail
          go_roundg (gk - 1)
          case measure => have := HG.out; omega
          case rel =>
            have hc6 := set6_chg (w1.alloc (.cells #[.map c0, .map c1, .bool s'.al, .map cl, .map cn] 85)) w.heap.size (.map c0) (.map c1) (.bool s'.al) (.map cl) (.map cn) (.map (some ct))
            have na : New w1 (w1.alloc (.cells #[.map c0, .map c1, .bool s'.al, .map cl, .map cn] 85)) := Chg.alloc _ _ _
            exact ⟨i + 1, s', c0, c1, cl, cn, ct, CT, by omega, by have := HG.out; omega, by go_num, by rw [HFT.out, HRUN.out]; exact HS'.out, (G1.out.new na).cells hc6 HBK.out, G2.out, (G3.out.new na).cells hc6 HBK.out (by decide), G4.out, (HNW1.out.then na).trans hc6 (fun _ _ h => h) (fun i hi e => by omega), set6_block HBK.out _ _ _ _ _ _, hc6.keeps (HRS1.out _) (by simp)⟩
        · have HS' := Lib.hid hs'
          clear hs'
          have hbk := HRS1.out (.cells #[.map none, .map none, .bool false, .map none, .map none] 85)
          have r0 := cell_of_block (off := 0) hbk rfl; have r1 := cell_of_block (off := 1) hbk rfl; have r2 := cell_of_block (off := 2) hbk rfl; have r3 := cell_of_block (off := 3) hbk rfl; have r4 := cell_of_block (off := 4) hbk rfl
          have z0 := free_of_block (off := 0) hbk; have z1 := free_of_block (off := 1) hbk; have z2 := free_of_block (off := 2) hbk; have z3 := free_of_block (off := 3) hbk; have z4 := free_of_block (off := 4) hbk
          clear hbk
          go_wp2_with fail
          refine bodyPost_ret (v := ?_) ?_ rfl ?_
          rotate_left 1
          · simp [results, Try.results75, go_sem, r0, r1, r2, r3, r4]
            rfl
          exact ⟨set5_new (HNW1.out.then (Chg.alloc _ _ _)) (by omega) _ _ _ _ _, .inr ⟨runOps_dead s0 ops (i + 1) (by rw [HFT.out, HRUN.out]; exact HS'.out), _, rfl⟩⟩
    · have hil : i = ops.length := by omega
      subst hil
      have hrun : runOps s0 ops = some s := by have := HRUN.out; rwa [List.take_length] at this
      have HRUN2 := Lib.hid hrun
      clear hrun
      have r0 := cell_of_block (off := 0) HRS.out rfl; have r1 := cell_of_block (off := 1) HRS.out rfl; have r2 := cell_of_block (off := 2) HRS.out rfl; have r3 := cell_of_block (off := 3) HRS.out rfl; have r4 := cell_of_block (off := 4) HRS.out rfl
      have z0 := free_of_block (off := 0) HRS.out; have z1 := free_of_block (off := 1) HRS.out; have z2 := free_of_block (off := 2) HRS.out; have z3 := free_of_block (off := 3) HRS.out; have z4 := free_of_block (off := 4) HRS.out
      go_wp2_with fail
      go_region
      all_goals go_wp2_with fail
      refine bodyPost_ret (v := ?_) ?_ rfl ?_
      rotate_left 1
      · simp [results, Try.results75, go_sem, r0, r1, r2, r3, r4]
        rfl
      exact ⟨(set5_new HNW.out (by omega) _ _ _ _ _).then (Chg.drew _ _), .inl ⟨s, HRUN2.out, (Good.set5 HC.out H0.out HT.out HI.out s.al HRS.out _ _ _ _ _).new (Chg.drew _ _)⟩⟩
end Go.Proofs.Ytcgccoigjcdjeaa
