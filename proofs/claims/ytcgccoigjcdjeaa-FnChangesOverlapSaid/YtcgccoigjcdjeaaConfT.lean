/- confchange.Restore. Condition: at most 100000 members in all. -/
import Derived.Test.YtcgccoigjcdjeaaConfS
namespace Go.Proofs.Ytcgccoigjcdjeaa
open Go.RowKit

def COp.wt : COp → Nat
  | .one _ => 1
  | .enter _ l => l.length
theorem stepOp_len {s s' : Cs} {o : COp} (h : stepOp s o = some s') : s'.V0.length ≤ s.V0.length + o.wt := by
  cases o with
  | one x =>
    simp only [stepOp] at h
    split at h
    · simp only [Option.some.injEq] at h; subst h
      have := fold_len [] [x] (s.V0, s.L, s.N)
      simpa [COp.wt] using this
    · cases h
  | enter a l =>
    simp only [stepOp] at h
    split at h
    · simp only [Option.some.injEq] at h; subst h
      have := fold_len s.V0 l (s.V0, s.L, s.N)
      simpa [COp.wt] using this
    · cases h
theorem runOps_len (ops : List COp) : ∀ {s s' : Cs}, runOps s ops = some s' → s'.V0.length ≤ s.V0.length + (ops.map COp.wt).sum := by
  induction ops with
  | nil => intro s s' h; simp only [runOps, Option.some.injEq] at h; subst h; simp
  | cons o l ih =>
    intro s s' h
    simp only [runOps] at h
    cases ho : stepOp s o with
    | none => rw [ho] at h; cases h
    | some s1 =>
      rw [ho] at h
      have h1 := stepOp_len ho
      have h2 := ih h
      simp only [List.map_cons, List.sum_cons]; omega
theorem wt_take (ops : List COp) (i : Nat) : ((ops.take i).map COp.wt).sum ≤ (ops.map COp.wt).sum := by
  conv => rhs; rw [← List.take_append_drop i ops]
  rw [List.map_append, List.sum_append]; omega
theorem wt_ones (l : List (Int × Int)) : ((l.map COp.one).map COp.wt).sum = l.length := by
  induction l with
  | nil => rfl
  | cons x l ih => simp only [List.map_cons, List.sum_cons, ih, COp.wt, List.length_cons]; omega
def restOps (V VO L N : List Int) (al : Bool) : List COp := if VO = [] then (inL V [] L N).map .one else (outL VO).map .one ++ [.enter al (inL V VO L N)]
theorem inL_len (V VO L N : List Int) : (inL V VO L N).length = VO.length + V.length + L.length + N.length := by simp [inL, kin]; omega
theorem inL_ok (V VO L N : List Int) : ∀ x ∈ inL V VO L N, x.1 = 0 ∨ x.1 = 1 ∨ x.1 = 3 := by
  intro x hx
  simp only [inL, kin, List.mem_append, List.mem_map] at hx
  rcases hx with ((⟨_, _, rfl⟩ | ⟨_, _, rfl⟩) | ⟨_, _, rfl⟩) | ⟨_, _, rfl⟩ <;> simp
theorem restOps_ok (V VO L N : List Int) (al : Bool) (hn : V.length + VO.length + L.length + N.length ≤ 100000) : ∀ o ∈ restOps V VO L N al, o.ok := by
  intro o ho
  unfold restOps at ho
  split at ho
  · obtain ⟨x, hx, rfl⟩ := List.mem_map.1 ho
    exact inL_ok _ _ _ _ x hx
  · rcases List.mem_append.1 ho with ho | ho
    · obtain ⟨x, hx, rfl⟩ := List.mem_map.1 ho
      obtain ⟨y, _, rfl⟩ := List.mem_map.1 hx
      exact .inl rfl
    · simp at ho; subst ho
      exact ⟨inL_ok _ _ _ _, by rw [inL_len]; omega⟩
theorem restOps_small (V VO L N : List Int) (al : Bool) (hn : V.length + VO.length + L.length + N.length ≤ 100000) : ((restOps V VO L N al).map COp.wt).sum ≤ 200000 ∧ (restOps V VO L N al).length ≤ 200000 := by
  unfold restOps
  split
  · rename_i h; subst h
    rw [wt_ones, List.length_map, inL_len]; simp; omega
  · rw [List.map_append, List.sum_append, wt_ones]
    have h1 := inL_len V VO L N
    simp only [List.map_cons, List.map_nil, List.sum_cons, List.sum_nil, COp.wt, List.length_append, List.length_map, List.length_cons, List.length_nil, outL, kin]
    omega

def One (w : World) (fv : Value) (x : Int × Int) : Prop :=
  ∃ fn pb p, (fn = 71 ∨ fn = 72) ∧ fv = .func (.func fn) #[] #[.pointer (some ⟨pb, 0, none⟩)] ∧ w.heap[pb]? = some (.cells #[.pointer (some ⟨p, 0, none⟩)] 101 (0, 0)) ∧ w.heap[p]? = some (.cells #[.int .i32 x.1, .int .u64 x.2] 104 (0, 0))
theorem One.opv {w : World} {fv : Value} {x : Int × Int} (h : One w fv x) : OpV w fv (.one x) := by
  obtain ⟨fn, pb, p, h1, h2, h3, h4⟩ := h
  exact ⟨fn, pb, p, h1, h2, cell_of_block h3 rfl, cell_of_block h4 rfl, cell_of_block h4 rfl⟩
theorem One.new {w w' : World} {fv : Value} {x : Int × Int} (h : One w fv x) (c : New w w') : One w' fv x := by
  obtain ⟨fn, pb, p, h1, h2, h3, h4⟩ := h
  exact ⟨fn, pb, p, h1, h2, c.keeps h3 (by simp), c.keeps h4 (by simp)⟩
theorem One.row {w w' : World} {base n : Nat} {v fv : Value} {xs : List Value} {x : Int × Int} (h : One w fv x) (hown : w.ownsRow base 126 1 v n xs) (c : Chg w w' (fun i => v.ownBlock = some i)) : One w' fv x := by
  have hne : ∀ p cs t, t ≠ 126 → w.heap[p]? = some (.cells cs t (0, 0)) → v.ownBlock ≠ some p := by
    intro p cs t ht hp e
    rcases hown.2 with ⟨rfl, _⟩ | ⟨g, cap, cur, rfl, _, hgg, _⟩
    · simp [Value.ownBlock] at e
    · simp [Value.ownBlock] at e; subst e; rw [hgg] at hp; cases hp; exact ht rfl
  obtain ⟨fn, pb, p, h1, h2, h3, h4⟩ := h
  exact ⟨fn, pb, p, h1, h2, c.keeps h3 (hne _ _ 101 (by decide) h3), c.keeps h4 (hne _ _ 104 (by decide) h4)⟩
def Fr (w : World) (base : Nat) (v : Value) (l : List (Int × Int)) : Prop :=
  ∃ fvs : List Value, fvs.length = l.length ∧ w.ownsRow base 126 1 v l.length fvs ∧ ∀ (i : Nat) (fv : Value) (x : Int × Int), fvs[i]? = some fv → l[i]? = some x → One w fv x
theorem Fr.nil (w : World) (base : Nat) : Fr w base (.slice none 0 0) [] := ⟨[], rfl, World.ownsRow_nil _ _ _ _, by simp⟩
theorem Fr.new {w w' : World} {base : Nat} {v : Value} {l : List (Int × Int)} (h : Fr w base v l) (c : New w w') : Fr w' base v l := by
  obtain ⟨fvs, h1, h2, h3⟩ := h
  exact ⟨fvs, h1, ownsRow_chg h2 c (by simp), fun i fv x e1 e2 => (h3 i fv x e1 e2).new c⟩
theorem Fr.push {w w' : World} {base : Nat} {v v' : Value} {l : List (Int × Int)} {fvs : List Value} (h1 : fvs.length = l.length) (h2 : w.ownsRow base 126 1 v l.length fvs) (h3 : ∀ (i : Nat) (fv : Value) (x : Int × Int), fvs[i]? = some fv → l[i]? = some x → One w fv x) {fv : Value} {x : Int × Int} (ho : One w fv x)
    (hown : w'.ownsRow base 126 1 v' (l.length + 1) (fvs ++ [fv])) (c : Chg w w' (fun i => v.ownBlock = some i)) : Fr w' base v' (l ++ [x]) := by
  refine ⟨fvs ++ [fv], by simp [h1], by simpa using hown, fun i f y hp hy => ?_⟩
  by_cases hi : i < fvs.length
  · rw [List.getElem?_append_left hi] at hp
    rw [List.getElem?_append_left (by omega)] at hy
    exact (h3 i f y hp hy).row h2 c
  · have e : i = fvs.length := by
      have : i < (fvs ++ [fv]).length := (List.getElem?_eq_some_iff.1 hp).1
      simp at this; omega
    subst e
    simp at hp; subst hp
    rw [h1] at hy
    simp at hy; subst hy
    exact ho.row h2 c
theorem fs_of {w : World} {base : Nat} {v : Value} {ops : List COp} {fvs : List Value} (h2 : w.ownsRow base 126 1 v ops.length fvs) (h3 : ∀ (i : Nat) (fv : Value) (o : COp), fvs[i]? = some fv → ops[i]? = some o → OpV w fv o) : Fs w v ops := by
  rcases h2.2 with ⟨rfl, hn⟩ | ⟨g, cap, cur, rfl, hb, hgg, _⟩
  · exact ⟨none, 0, by rw [hn], fun i hi => by omega⟩
  · refine ⟨_, cap, rfl, fun i hi => ?_⟩
    obtain ⟨g', cap', e1, e2, e3, u, hu, hc⟩ := ownsRow_cell h2 hi
    cases e1
    exact ⟨g, 0, u, rfl, by simpa using hc, h3 i u ops[i] hu (List.getElem?_eq_getElem hi)⟩
theorem Fr.fs {w : World} {base : Nat} {v : Value} {l : List (Int × Int)} (h : Fr w base v l) : Fs w v (l.map .one) := by
  obtain ⟨fvs, _, h2, h3⟩ := h
  refine fs_of (base := base) (fvs := fvs) (by simpa using h2) fun i fv o e1 e2 => ?_
  rw [List.getElem?_map] at e2
  cases hl : l[i]? with
  | none => rw [hl] at e2; cases e2
  | some x => rw [hl] at e2; cases e2; exact (h3 i fv x e1 hl).opv
theorem Fr.fs_snoc {w w' : World} {base : Nat} {v v' : Value} {l : List (Int × Int)} {fvs : List Value} (h1 : fvs.length = l.length) (h2 : w.ownsRow base 126 1 v l.length fvs) (h3 : ∀ (i : Nat) (fv : Value) (x : Int × Int), fvs[i]? = some fv → l[i]? = some x → One w fv x) {fv : Value} {o : COp}
    (hown : w'.ownsRow base 126 1 v' (l.length + 1) (fvs ++ [fv])) (c : Chg w w' (fun i => v.ownBlock = some i)) (ho : OpV w' fv o) : Fs w' v' (l.map .one ++ [o]) := by
  refine fs_of (base := base) (fvs := fvs ++ [fv]) (by simpa using hown) fun i f y hp hy => ?_
  by_cases hi : i < fvs.length
  · rw [List.getElem?_append_left hi] at hp
    rw [List.getElem?_append_left (by simp; omega), List.getElem?_map] at hy
    cases hl : l[i]? with
    | none => rw [hl] at hy; cases hy
    | some x => rw [hl] at hy; cases hy; exact ((h3 i f x hp hl).row h2 c).opv
  · have e : i = fvs.length := by
      have : i < (fvs ++ [fv]).length := (List.getElem?_eq_some_iff.1 hp).1
      simp at this; omega
    subst e
    simp at hp; subst hp
    rw [h1] at hy
    have e2 : l.length = (l.map COp.one).length := by simp
    rw [e2] at hy
    simp at hy; subst hy
    exact ho
theorem Cr.at {w : World} {base : Nat} {v : Value} {l : List (Int × Int)} (h : Cr w base v l) {i : Nat} (hi : i < l.length) : ∃ g cap p, v = .slice (some ⟨g, 0, none⟩) l.length cap ∧ w.cell? ⟨g, i, none⟩ = some (.pointer (some ⟨p, 0, none⟩)) ∧ w.heap[p]? = some (.cells #[.int .i32 l[i].1, .int .u64 l[i].2] 104 (0, 0)) := by
  obtain ⟨ps, h1, h2, h3⟩ := h
  have hi' : i < ps.length := by omega
  obtain ⟨g, cap, e1, e2, e3, u, hu, hc⟩ := ownsRow_cell h2 hi
  rw [List.getElem?_map, List.getElem?_eq_getElem hi'] at hu
  simp only [Option.map_some, Option.some.injEq] at hu
  subst hu
  exact ⟨g, cap, ps[i], e1, hc, (h3 i ps[i] l[i] (List.getElem?_eq_getElem hi') (List.getElem?_eq_getElem hi)).2⟩
theorem Cr.slice {w : World} {base : Nat} {v : Value} {l : List (Int × Int)} (h : Cr w base v l) : ∃ ao cap, v = .slice ao l.length cap := by
  obtain ⟨ao, cap, e, _⟩ := h.ccs; exact ⟨ao, cap, e⟩

set_option maxRecDepth 100000 in
set_option maxHeartbeats 1600000 in
theorem restore_any (v0 v1 ln nx vt : Option Nat) (tk : Nat) (s0 : Cs) (T : List (Int × Nat × Bool)) (cb : Nat) (V VO L N : List Int) (al : Bool) (w : World)
    (hc : CfgV w v0 v1 ln nx s0.V0 s0.V1 s0.L s0.N) (h0 : v0 ≠ none) (ht : TrkV w (some tk) T) (hi : Inv s0.V0 s0.V1 s0.L s0.N T) (hcs : CsV w cb V VO L N al) (hn : V.length + VO.length + L.length + N.length ≤ 100000) (he : s0.V0 = []) :
    Calls Try.prog 52 #[chgOf v0 v1 s0.al ln nx (some tk) vt, .pointer (some ⟨cb, 0, none⟩)] w (Chained w s0 (restOps V VO L N al)) := by
  have n3 : ∀ o1 o2 o3, New w (((w.alloc o1).alloc o2).alloc o3) := fun o1 o2 o3 => ((Chg.alloc w _ _).then (Chg.alloc _ _ _)).then (Chg.alloc _ _ _)
  have hcs3 : ∀ o1 o2 o3, CsV (((w.alloc o1).alloc o2).alloc o3) cb V VO L N al := fun o1 o2 o3 => by
    obtain ⟨vV, vL, vO, vN, hb, uV, uO, uL, uN⟩ := hcs.ex
    exact ⟨vV, vL, vO, vN, (n3 _ _ _).keeps hb (by simp), uV.new (n3 _ _ _), uO.new (n3 _ _ _), uL.new (n3 _ _ _), uN.new (n3 _ _ _)⟩
  have hcl : w.cell? ⟨cb, 4, none⟩ = some (.bool al) := by
    obtain ⟨vV, vL, vO, vN, hb, _⟩ := hcs.ex
    exact cell_of_block hb rfl
  have hsm := restOps_small V VO L N al hn
  have hbd : ∀ i s, runOps s0 ((restOps V VO L N al).take i) = some s → s.V0.length ≤ 300000 := fun i s h => by
    have h1 := runOps_len _ h
    have h2 := wt_take (restOps V VO L N al) i
    rw [he, List.length_nil] at h1; omega
  have hok := restOps_ok V VO L N al hn
  have HC := Lib.hid hc; have HT := Lib.hid ht; have HI := Lib.hid hi; have H0 := Lib.hid h0; have HN := Lib.hid hn; have HN3 := Lib.hid n3; have HCS := Lib.hid hcs3; have HCL := Lib.hid hcl; have HSM := Lib.hid hsm; have HBD := Lib.hid hbd; have HOK := Lib.hid hok
  clear hc ht hi h0 hn n3 hcs3 hcs hcl hsm hbd hok he
  unfold chgOf
  go_enter Try.func52, Try.ntmps52
  go_wp2_with fail
  refine (toconf_any cb V VO L N al _ (HCS.out _ _ _) HN.out).mono ?_
  rintro e w4 ⟨ov, iv, rfl, hco, hci, hn4⟩
  obtain ⟨oo, oc, rfl⟩ := hco.slice
  obtain ⟨io, ic, rfl⟩ := hci.slice
  have hbx := hn4.keeps (block_alloc (block_alloc (block_new w _) _) _) (by simp)
  have hpb := hn4.keeps (block_alloc (block_new1 w _ _) _) (by simp)
  have hrs := hn4.keeps (block_new2 w _ _ _) (by simp)
  have hnw := (HN3.out _ _ _).then hn4
  have na : New w4 (w4.alloc (.cells #[.slice io (inL V VO L N).length ic] 100)) := Chg.alloc _ _ _
  have HBX := Lib.hid (block_alloc hbx (.cells #[.slice io (inL V VO L N).length ic] 100)); have HPB := Lib.hid (block_alloc hpb (.cells #[.slice io (inL V VO L N).length ic] 100)); have HRS := Lib.hid (block_alloc hrs (.cells #[.slice io (inL V VO L N).length ic] 100)); have HQB := Lib.hid (block_new w4 (.cells #[.slice io (inL V VO L N).length ic] 100)); have HNW := Lib.hid (hnw.then na); have HCO := Lib.hid (hco.new na); have HCI := Lib.hid (hci.new na); have HZ := Lib.hid hnw.size
  clear hbx hpb hrs hnw na hco hci hn4
  obtain ⟨w5, hw5⟩ : ∃ w5, w5 = w4.alloc (.cells #[.slice io (inL V VO L N).length ic] 100) := ⟨_, rfl⟩
  have HW5 := Lib.hid hw5
  rw [← hw5] at HBX HPB HRS HQB HNW HCO HCI
  have hz5 : w5.heap.size = w4.heap.size + 1 := by rw [hw5]; simp
  have HZ5 := Lib.hid hz5
  clear hz5 hw5
  by_cases hVO : VO = []
  · subst hVO
    go_wp2_with fail
    rw [← HW5.out]
    go_loopg [9, 11, 12, 26] (inL V [] L N).length (fun n v _ _ j wr => ∃ i : Nat, i ≤ (inL V [] L N).length ∧ (inL V [] L N).length ≤ n + i ∧ j = .int .i64 i ∧ Fr wr w5.heap.size v ((inL V [] L N).take i) ∧ New w5 wr)
    case atStart => exact ⟨0, by omega, by omega, rfl, Fr.nil _ _, Chg.refl _ _⟩
    case round =>
      obtain ⟨i, hi, hg, rfl, hfr, hnew⟩ := hrel
      have HG := Lib.hid hg; have HFR := Lib.hid hfr; have HNR := Lib.hid hnew
      clear hg hfr hnew
      by_cases hlt : i < (inL V [] L N).length
      · obtain ⟨g, cap, p, he, hcg, hp⟩ := (HCI.out.new HNR.out).at hlt
        simp only [Value.slice.injEq] at he
        obtain ⟨rfl, -, -⟩ := he
        have HP := Lib.hid hp; clear hp
        obtain ⟨fvs, h1, h2, h3⟩ := HFR.out
        have HP1 := Lib.hid h1; have HP2 := Lib.hid h2; have HP3 := Lib.hid h3; have HS2 := Lib.hid HNR.out.size
        clear h1 h2 h3
        have hsmall : (inL V [] L N).length ≤ 100000 := by have h1 := HN.out; have h2 := inL_len V [] L N; simp [outL, kin] at *; omega
        have htl : ((inL V [] L N).take i).length = i := by simp; omega
        have HTL := Lib.hid htl; clear htl
        go_wp2_with (first
          | (at_builtin; refine op_append1 rfl (.tmp 31) (.tmp 33) rfl st125 w5.heap.size ((inL V [] L N).take i).length u9 _ rfl (ownsRow_chg HP2.out ((Chg.alloc wr _ _).then (Chg.alloc _ _ (fun _ => False))) (by simp)) (wr.heap.size + 1) (.func (.func 71) #[] #[.pointer (some ⟨wr.heap.size, 0, none⟩)]) rfl (cell_of_block (block_new1 _ _ _) rfl) rfl (by rw [HTL.out]; omega) (by have h1 := HS2.out; simp; omega) ?_; intro v' wn hown hch)
          | fail)
        go_roundg (gk - 1)
        case measure => have := HG.out; omega
        case rel =>
          refine ⟨i + 1, by omega, by have := HG.out; omega, by go_num, ?_, ?_⟩
          · have n2 : New wr ((wr.alloc (.cells #[.pointer (some ⟨p, 0, none⟩)] 101)).alloc (.cells #[.func (.func 71) #[] #[.pointer (some ⟨wr.heap.size, 0, none⟩)]] 126)) := (Chg.alloc wr _ _).then (Chg.alloc _ _ _)
            have hp := Fr.push (x := (inL V [] L N)[i]) HP1.out (ownsRow_chg HP2.out n2 (by simp)) (fun i fv x e1 e2 => (HP3.out i fv x e1 e2).new n2) (fv := .func (.func 71) #[] #[.pointer (some ⟨wr.heap.size, 0, none⟩)]) ⟨71, wr.heap.size, p, by decide, rfl, block_alloc (block_new wr _) _, n2.keeps HP.out (by simp)⟩ hown hch
            rw [List.take_succ_eq_append_getElem hlt]
            exact hp
          · have hown0 := HP2.out
            exact ((HNR.out.then (Chg.alloc _ _ _)).then (Chg.alloc _ _ _)).trans hch (fun _ _ h => h) (fun i hi e => by have := (hown0.lt i e).1; omega)
      · have hil : i = (inL V [] L N).length := by omega
        subst hil
        have hfr : Fr wr w5.heap.size u9 (inL V [] L N) := by have := HFR.out; rwa [List.take_length] at this
        have HF := Lib.hid hfr
        clear hfr HFR HG hi hlt
        have b0' : wr.cell? ⟨w.heap.size, 0, none⟩ = some (.map v0) := cell_of_block (HNR.out.keeps HBX.out (by simp)) rfl
        have b1' : wr.cell? ⟨w.heap.size, 1, none⟩ = some (.map v1) := cell_of_block (HNR.out.keeps HBX.out (by simp)) rfl
        have b2' : wr.cell? ⟨w.heap.size, 2, none⟩ = some (.bool s0.al) := cell_of_block (HNR.out.keeps HBX.out (by simp)) rfl
        have b3' : wr.cell? ⟨w.heap.size, 3, none⟩ = some (.map ln) := cell_of_block (HNR.out.keeps HBX.out (by simp)) rfl
        have b4' : wr.cell? ⟨w.heap.size, 4, none⟩ = some (.map nx) := cell_of_block (HNR.out.keeps HBX.out (by simp)) rfl
        have b5' : wr.cell? ⟨w.heap.size, 5, none⟩ = some (.map (some tk)) := cell_of_block (HNR.out.keeps HBX.out (by simp)) rfl
        have b6' : wr.cell? ⟨w.heap.size, 6, none⟩ = some (.map vt) := cell_of_block (HNR.out.keeps HBX.out (by simp)) rfl
        have b7' : wr.cell? ⟨w.heap.size, 7, none⟩ = some (.int .i64 10) := cell_of_block (HNR.out.keeps HBX.out (by simp)) rfl
        have b8' : wr.cell? ⟨w.heap.size, 8, none⟩ = some (.int .u64 0) := cell_of_block (HNR.out.keeps HBX.out (by simp)) rfl
        have b9' : wr.cell? ⟨w.heap.size, 9, none⟩ = some (.int .u64 1) := cell_of_block (HNR.out.keeps HBX.out (by simp)) rfl
        go_wp2_with fail
        have hops : restOps V [] L N al = (inL V [] L N).map .one := by unfold restOps; rw [if_pos rfl]
        have hnw9 := HNW.out.then HNR.out
        refine (chain_any v0 v1 ln nx vt tk s0 T _ (restOps V [] L N al) wr (HC.out.new hnw9) H0.out (HT.out.new hnw9) HI.out (by rw [hops]; exact HF.out.fs) HOK.out HBD.out (by have := HSM.out.2; omega)).mono ?_
        have HNW9 := Lib.hid hnw9; have HRS9 := Lib.hid (HNR.out.keeps HRS.out (by simp))
        clear hnw9 hops
        rintro e w8 ⟨hn8, hres⟩
        have hrs8 := hn8.keeps HRS9.out (by simp)
        have r0 := cell_of_block (off := 0) hrs8 rfl; have r1 := cell_of_block (off := 1) hrs8 rfl; have r2 := cell_of_block (off := 2) hrs8 rfl; have r3 := cell_of_block (off := 3) hrs8 rfl; have r4 := cell_of_block (off := 4) hrs8 rfl
        have z0 := free_of_block (off := 0) hrs8; have z1 := free_of_block (off := 1) hrs8; have z2 := free_of_block (off := 2) hrs8; have z3 := free_of_block (off := 3) hrs8; have z4 := free_of_block (off := 4) hrs8
        have hnw8 := HNW9.out.then hn8
        have HNW8 := Lib.hid hnw8; have HRS8 := Lib.hid hrs8
        clear hn8 hnw8 hrs8 b0' b1' b2' b3' b4' b5' b6' b7' b8' b9'
        rcases hres with ⟨s, hs, c0, c1, cl, cn, ct, CT, rfl, g1, g2, g3, g4⟩ | ⟨hs, se, rfl⟩
        · have G1 := Lib.hid g1; have G2 := Lib.hid g2; have G3 := Lib.hid g3; have G4 := Lib.hid g4; have HS' := Lib.hid hs
          clear g1 g2 g3 g4 hs
          go_wp2_with fail
          refine bodyPost_ret (v := ?_) ?_ rfl ?_
          rotate_left 1
          · simp [results, Try.results52, go_sem, r0, r1, r2, r3, r4]
            rfl
          exact ⟨set5_new HNW8.out (by omega) _ _ _ _ _, .inl ⟨s, HS'.out, Good.set5 G1.out G2.out G3.out G4.out _ HRS8.out _ _ _ _ _⟩⟩
        · have HS' := Lib.hid hs
          clear hs
          go_wp2_with fail
          refine bodyPost_ret (v := ?_) ?_ rfl ?_
          rotate_left 1
          · simp [results, Try.results52, go_sem, r0, r1, r2, r3, r4]
            rfl
          exact ⟨set5_new HNW8.out (by omega) _ _ _ _ _, .inr ⟨HS'.out, _, rfl⟩⟩
  · have hlen : ((outL VO).length : Int) ≠ 0 := by simp [outL, kin]; exact hVO
    have hlb : (((outL VO).length : Int) == 0) = false := by simpa using hlen
    have HVO := Lib.hid hVO; clear hVO hlen
    go_wp2_with fail
    rw [← HW5.out]
    clear hlb
    go_loopg [9, 14, 15, 38] (outL VO).length (fun n v _ _ j wr => ∃ i : Nat, i ≤ (outL VO).length ∧ (outL VO).length ≤ n + i ∧ j = .int .i64 i ∧ Fr wr w5.heap.size v ((outL VO).take i) ∧ New w5 wr)
    case atStart => exact ⟨0, by omega, by omega, rfl, Fr.nil _ _, Chg.refl _ _⟩
    case round =>
      obtain ⟨i, hi, hg, rfl, hfr, hnew⟩ := hrel
      have HG := Lib.hid hg; have HFR := Lib.hid hfr; have HNR := Lib.hid hnew
      clear hg hfr hnew
      by_cases hlt : i < (outL VO).length
      · obtain ⟨g, cap, p, he, hcg, hp⟩ := (HCO.out.new HNR.out).at hlt
        simp only [Value.slice.injEq] at he
        obtain ⟨rfl, -, -⟩ := he
        have HP := Lib.hid hp; clear hp
        obtain ⟨fvs, h1, h2, h3⟩ := HFR.out
        have HP1 := Lib.hid h1; have HP2 := Lib.hid h2; have HP3 := Lib.hid h3; have HS2 := Lib.hid HNR.out.size
        clear h1 h2 h3
        have hsmall : (outL VO).length ≤ 100000 := by have h1 := HN.out; have h2 := inL_len V VO L N; simp [outL, kin] at *; omega
        have htl : ((outL VO).take i).length = i := by simp; omega
        have HTL := Lib.hid htl; clear htl
        go_wp2_with (first
          | (at_builtin; refine op_append1 rfl (.tmp 43) (.tmp 45) rfl st125 w5.heap.size ((outL VO).take i).length u9 _ rfl (ownsRow_chg HP2.out ((Chg.alloc wr _ _).then (Chg.alloc _ _ (fun _ => False))) (by simp)) (wr.heap.size + 1) (.func (.func 72) #[] #[.pointer (some ⟨wr.heap.size, 0, none⟩)]) rfl (cell_of_block (block_new1 _ _ _) rfl) rfl (by rw [HTL.out]; omega) (by have h1 := HS2.out; simp; omega) ?_; intro v' wn hown hch)
          | fail)
        go_roundg (gk - 1)
        case measure => have := HG.out; omega
        case rel =>
          refine ⟨i + 1, by omega, by have := HG.out; omega, by go_num, ?_, ?_⟩
          · have n2 : New wr ((wr.alloc (.cells #[.pointer (some ⟨p, 0, none⟩)] 101)).alloc (.cells #[.func (.func 72) #[] #[.pointer (some ⟨wr.heap.size, 0, none⟩)]] 126)) := (Chg.alloc wr _ _).then (Chg.alloc _ _ _)
            have hp := Fr.push (x := (outL VO)[i]) HP1.out (ownsRow_chg HP2.out n2 (by simp)) (fun i fv x e1 e2 => (HP3.out i fv x e1 e2).new n2) (fv := .func (.func 72) #[] #[.pointer (some ⟨wr.heap.size, 0, none⟩)]) ⟨72, wr.heap.size, p, by decide, rfl, block_alloc (block_new wr _) _, n2.keeps HP.out (by simp)⟩ hown hch
            rw [List.take_succ_eq_append_getElem hlt]
            exact hp
          · have hown0 := HP2.out
            exact ((HNR.out.then (Chg.alloc _ _ _)).then (Chg.alloc _ _ _)).trans hch (fun _ _ h => h) (fun i hi e => by have := (hown0.lt i e).1; omega)
      · have hil : i = (outL VO).length := by omega
        subst hil
        have hfr : Fr wr w5.heap.size u9 (outL VO) := by have := HFR.out; rwa [List.take_length] at this
        have HF := Lib.hid hfr
        clear hfr HFR HG hi hlt
        obtain ⟨fvs, h1, h2, h3⟩ := HF.out
        have HP1 := Lib.hid h1; have HP2 := Lib.hid h2; have HP3 := Lib.hid h3; have HS2 := Lib.hid HNR.out.size
        clear h1 h2 h3
        have HB' := Lib.hid (HNR.out.keeps HBX.out (by simp)); have HR' := Lib.hid (HNR.out.keeps HRS.out (by simp)); have HP' := Lib.hid (HNR.out.keeps HPB.out (by simp)); have HQ' := Lib.hid (HNR.out.keeps HQB.out (by simp)); have HCI' := Lib.hid (HCI.out.new HNR.out); have HNWR := Lib.hid (HNW.out.then HNR.out)
        go_wp2_with (first
          | (at_builtin; refine op_append1 rfl (.tmp 48) (.tmp 50) rfl st125 w5.heap.size (outL VO).length u9 _ rfl (ownsRow_chg HP2.out (Chg.alloc wr _ (fun _ => False)) (by simp)) wr.heap.size (.func (.func 73) #[] #[.pointer (some ⟨w.heap.size + 1, 0, none⟩), .pointer (some ⟨w4.heap.size, 0, none⟩)]) rfl (cell_of_block (block_new _ _) rfl) rfl (by have h1 := HN.out; simp [outL, kin]; omega) (by have h1 := HS2.out; simp; omega) ?_; intro v' wn hown hch; have HNEW := Lib.hid ((HNR.out.then (Chg.alloc wr _ _)).trans hch (fun _ _ h => h) (fun i hi e => by have h0 := HP2.out; have := (h0.lt i e).1; omega)); have HNW9 := Lib.hid (HNW.out.then HNEW.out); have HRS9 := Lib.hid (HNEW.out.keeps HRS.out (by simp)); have HBX9 := Lib.hid (HNEW.out.keeps HBX.out (by simp)); have b0' : wn.cell? ⟨w.heap.size, 0, none⟩ = some (.map v0) := cell_of_block HBX9.out rfl; have b1' : wn.cell? ⟨w.heap.size, 1, none⟩ = some (.map v1) := cell_of_block HBX9.out rfl; have b2' : wn.cell? ⟨w.heap.size, 2, none⟩ = some (.bool s0.al) := cell_of_block HBX9.out rfl; have b3' : wn.cell? ⟨w.heap.size, 3, none⟩ = some (.map ln) := cell_of_block HBX9.out rfl; have b4' : wn.cell? ⟨w.heap.size, 4, none⟩ = some (.map nx) := cell_of_block HBX9.out rfl; have b5' : wn.cell? ⟨w.heap.size, 5, none⟩ = some (.map (some tk)) := cell_of_block HBX9.out rfl; have b6' : wn.cell? ⟨w.heap.size, 6, none⟩ = some (.map vt) := cell_of_block HBX9.out rfl; have b7' : wn.cell? ⟨w.heap.size, 7, none⟩ = some (.int .i64 10) := cell_of_block HBX9.out rfl; have b8' : wn.cell? ⟨w.heap.size, 8, none⟩ = some (.int .u64 0) := cell_of_block HBX9.out rfl; have b9' : wn.cell? ⟨w.heap.size, 9, none⟩ = some (.int .u64 1) := cell_of_block HBX9.out rfl)
          | fail)
        have hops : restOps V VO L N al = (outL VO).map .one ++ [.enter al (inL V VO L N)] := by unfold restOps; rw [if_neg HVO.out]
        refine (chain_any v0 v1 ln nx vt tk s0 T _ (restOps V VO L N al) wn (HC.out.new HNW9.out) H0.out (HT.out.new HNW9.out) HI.out ?fs HOK.out HBD.out (by have := HSM.out.2; omega)).mono ?_
        case fs =>
          rw [hops]
          have n1 : New wr (wr.alloc (.cells #[.func (.func 73) #[] #[.pointer (some ⟨w.heap.size + 1, 0, none⟩), .pointer (some ⟨w4.heap.size, 0, none⟩)]] 126)) := Chg.alloc wr _ _
          refine Fr.fs_snoc HP1.out (ownsRow_chg HP2.out n1 (by simp)) (fun i fv x e1 e2 => (HP3.out i fv x e1 e2).new n1) hown hch ?_
          refine ⟨w.heap.size + 1, w4.heap.size, cb, _, rfl, cell_of_block (HNEW.out.keeps HPB.out (by simp)) rfl, cell_of_block (HNEW.out.keeps HQB.out (by simp)) rfl, HNW9.out.has HCL.out, (HCI.out.new HNEW.out).ccs⟩
        clear hops hown hch
        rintro e w8 ⟨hn8, hres⟩
        have hrs8 := hn8.keeps HRS9.out (by simp)
        have r0 := cell_of_block (off := 0) hrs8 rfl; have r1 := cell_of_block (off := 1) hrs8 rfl; have r2 := cell_of_block (off := 2) hrs8 rfl; have r3 := cell_of_block (off := 3) hrs8 rfl; have r4 := cell_of_block (off := 4) hrs8 rfl
        have z0 := free_of_block (off := 0) hrs8; have z1 := free_of_block (off := 1) hrs8; have z2 := free_of_block (off := 2) hrs8; have z3 := free_of_block (off := 3) hrs8; have z4 := free_of_block (off := 4) hrs8
        have hnw8 := HNW9.out.then hn8
        have HNW8 := Lib.hid hnw8; have HRS8 := Lib.hid hrs8
        clear hn8 hnw8 hrs8 b0' b1' b2' b3' b4' b5' b6' b7' b8' b9'
        rcases hres with ⟨s, hs, c0, c1, cl, cn, ct, CT, rfl, g1, g2, g3, g4⟩ | ⟨hs, se, rfl⟩
        · have G1 := Lib.hid g1; have G2 := Lib.hid g2; have G3 := Lib.hid g3; have G4 := Lib.hid g4; have HS' := Lib.hid hs
          clear g1 g2 g3 g4 hs
          go_wp2_with fail
          refine bodyPost_ret (v := ?_) ?_ rfl ?_
          rotate_left 1
          · simp [results, Try.results52, go_sem, r0, r1, r2, r3, r4]
            rfl
          exact ⟨set5_new HNW8.out (by omega) _ _ _ _ _, .inl ⟨s, HS'.out, Good.set5 G1.out G2.out G3.out G4.out _ HRS8.out _ _ _ _ _⟩⟩
        · have HS' := Lib.hid hs
          clear hs
          go_wp2_with fail
          refine bodyPost_ret (v := ?_) ?_ rfl ?_
          rotate_left 1
          · simp [results, Try.results52, go_sem, r0, r1, r2, r3, r4]
            rfl
          exact ⟨set5_new HNW8.out (by omega) _ _ _ _ _, .inr ⟨HS'.out, _, rfl⟩⟩
end Go.Proofs.Ytcgccoigjcdjeaa
