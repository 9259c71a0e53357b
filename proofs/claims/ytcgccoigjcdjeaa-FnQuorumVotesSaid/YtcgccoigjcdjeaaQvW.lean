/- The closure of laws.FnQuorumVotes that asks whether an index wins. Condition: at most 12 members a list, none twice, a million acknowledgements, none of a member twice. -/
import Derived.Test.YtcgccoigjcdjeaaQvA
import Derived.Test.YtcgccoigjcdjeaaQvB
import Derived.Test.YtcgccoigjcdjeaaCatA
namespace Go.Proofs.Ytcgccoigjcdjeaa
open Go.RowKit Go.Sort

@[go_sem] theorem yielded_undef (f : Bool → Option Bool) (g : Option Value → Option Bool) : yielded.match_1 (fun _ => Option Bool) (some undef) f g = g (some undef) := rfl
/-- one more pair, in a region that draws its order -/
theorem step_append2 {w : World} {ops : Array Oper} {o : Oper} {a : Act} {K : Act → World → Prop} {Q : Exit → Act → World → Prop} {E : Prop} {t e : TypeId} {z : Value} (hgd : o.guard = none) (s x : Operand)
    (ho : o.op = .call { callee := .builtin .append, args := #[s, x], argTypes := #[t, t] }) (T : ST2 t e z) (base n : Nat) (v : Value) (xs : List Value) (hs : a.eval s = v) (hown : w.ownsRow base e 2 v n xs)
    (nb : Nat) (u0 u1 : Value) (hx : a.eval x = .slice (some ⟨nb, 0, none⟩) 1 1) (hc : w.heap[nb]? = some (.cells #[u0, u1] e (0, 0))) (h1 : u0.oneCell' = true) (h2 : u1.oneCell' = true) (hn : n ≤ 1000000) (hbase : base ≤ w.heap.size)
    (hK : ∀ v' w', w'.ownsRow base e 2 v' (n + 1) (xs ++ [u0, u1]) → Chg w w' (fun i => v.ownBlock = some i) → K (a.put o.dst v') w') :
    if Region.wanted o (yielded ops a.tmps) = true then Oper.wp Try.prog o a w K Q else E := by
  have hw : Region.wanted o (yielded ops a.tmps) = true := by simp [Region.wanted, hgd]
  rw [if_pos hw]
  obtain ⟨i, h1', h2', h3, h4, h5, h6⟩ := T.ex
  refine wp_append_own w s x t ho base e i z 2 16 h1' h2' h3 h4 h5 h6 (by decide) v n xs hs hown ⟨nb, 0, none⟩ 1 1 [u0, u1] hx rfl ?_ ?_ (by unfold maxLen; omega) (by omega) hbase (fun v' w' r1 r2 _ => hK v' w' r1 (Chg.ofGrown r2))
  · intro j u hu
    have e2 : (⟨nb, 0, none⟩ : Addr).add j = ⟨nb, j, none⟩ := by unfold Addr.add; split <;> simp_all
    rw [e2]
    refine cell_of_block hc ?_
    simpa using hu
  · intro u hu
    simp only [List.mem_cons, List.not_mem_nil, or_false] at hu
    rcases hu with rfl | rfl <;> assumption

/-- a cell behind an alloc, a draw, and an append to a row that does not hold it -/
theorem cell_app {w w' : World} {o : Obj} {v : Value} {b off : Nat} {u : Value} (h : w.cell? ⟨b, off, none⟩ = some u) (c : Chg (w.alloc o).drew w' (fun i => v.ownBlock = some i)) (hn : v.ownBlock ≠ some b) : w'.cell? ⟨b, off, none⟩ = some u := by
  have h1 := ((Chg.alloc w o (fun _ => False)).then (Chg.drew _ _)).has h
  exact (c.cell (p := ⟨b, off, none⟩) (World.block_lt_of_cell? _ _ h1) hn).trans h1
theorem ackd_none {A : List (Int × Int)} {x : Int} (h : x ∉ A.map (·.1)) : ackd A x = none := by
  unfold ackd
  rw [Option.map_eq_none_iff, List.find?_eq_none]
  intro p hp hpx
  exact h (List.mem_map.2 ⟨p, hp, by simpa using hpx⟩)
theorem ackd_at {A : List (Int × Int)} (hd : (A.map (·.1)).Nodup) {i : Nat} {x v : Int} (h : A[i]? = some (x, v)) : ackd A x = some v := by
  have hm := List.mem_of_getElem? h
  clear h
  induction A with
  | nil => cases hm
  | cons p A ih =>
    simp only [List.map_cons, List.nodup_cons] at hd
    rcases List.mem_cons.1 hm with rfl | hm
    · unfold ackd; simp
    · have hne : p.1 ≠ x := fun e => hd.1 (by rw [e]; exact List.mem_map.2 ⟨_, hm, rfl⟩)
      have := ih hd.2 hm
      unfold ackd at this ⊢
      rw [List.find?_cons_of_neg (by simpa using hne)]
      exact this
def RowB (w : World) (base : Nat) (v : Value) (B : List (Int × Bool)) : Prop := w.ownsRow base 41 2 v B.length (pcs (fun p : Int × Bool => Value.int .u64 p.1) (fun p => Value.bool p.2) B)
theorem RowB.bas {w : World} {base : Nat} {v : Value} {B : List (Int × Bool)} (h : RowB w base v B) : Bas w v B := pairs_of_owns h
theorem RowB.chg {w w' : World} {S : Nat → Prop} {base : Nat} {v : Value} {B : List (Int × Bool)} (h : RowB w base v B) (c : Chg w w' S) (hS : ∀ i, v.ownBlock = some i → ¬ S i) : RowB w' base v B := ownsRow_chg h c hS
theorem RowB.new {w w' : World} {base : Nat} {v : Value} {B : List (Int × Bool)} (h : RowB w base v B) (c : New w w') : RowB w' base v B := ownsRow_chg h c (by simp)
theorem RowB.slice {w : World} {base : Nat} {v : Value} {B : List (Int × Bool)} (h : RowB w base v B) : ∃ ao cap, v = .slice ao B.length cap := ownsRow_slice h
theorem RowB.nil (w : World) (base : Nat) : RowB w base (.slice none 0 0) [] := World.ownsRow_nil _ _ _ _
theorem pcs_snoc {α : Type} (f g : α → Value) (B : List α) (p : α) : pcs f g (B ++ [p]) = pcs f g B ++ [f p, g p] := by unfold pcs; rw [List.flatMap_append]; simp

set_option maxRecDepth 100000 in
set_option linter.unusedSimpArgs false in
set_option maxHeartbeats 3200000 in
theorem win28_any (k : Int) (vb ab : Nat) (a b av : Value) (l0 l1 : List Int) (A : List (Int × Int)) (w : World) (hvb : w.heap[vb]? = some (.cells #[a, b] 23 (0, 0))) (hab : w.heap[ab]? = some (.cells #[av] 24 (0, 0)))
    (h0 : Us w a l0) (h1 : Us w b l1) (hA : Acs w av A) (m0 : NilOk a) (m1 : NilOk b) (d0 : l0.Nodup) (d1 : l1.Nodup) (n0 : l0.length ≤ 12) (n1 : l1.length ≤ 12) (hn : A.length ≤ 1000) (hd : (A.map (·.1)).Nodup) (hp : 0 < l0.length + l1.length) :
    Calls Try.prog 28 #[.int .u64 k, .pointer (some ⟨vb, 0, none⟩), .pointer (some ⟨ab, 0, none⟩)] w fun e w' => e = .returned (.bool (joinR (voteR (balB A k (l0 ++ l1)) l0) (voteR (balB A k (l0 ++ l1)) l1) == 3)) ∧ New w w' := by
  have HVB := Lib.hid hvb; have HAB := Lib.hid hab; have H0 := Lib.hid h0; have H1 := Lib.hid h1; have HA := Lib.hid hA; have M0 := Lib.hid m0; have M1 := Lib.hid m1; have D0 := Lib.hid d0; have D1 := Lib.hid d1; have N0 := Lib.hid n0; have N1 := Lib.hid n1; have HN := Lib.hid hn; have HD := Lib.hid hd; have HP := Lib.hid hp
  obtain ⟨oa, ca, rfl, _⟩ := h0
  obtain ⟨ob, cb, rfl, _⟩ := h1
  obtain ⟨ao, ac, rfl, _⟩ := hA
  clear hvb hab m0 m1 d0 d1 n0 n1 hn hd hp
  have q0 := cell_of_block (off := 0) HVB.out rfl; have q1 := cell_of_block (off := 1) HVB.out rfl
  simp only [List.getElem_toArray, List.getElem_cons_zero, List.getElem_cons_succ] at q0 q1
  have hfl : [l0, l1].flatten = l0 ++ l1 := by simp
  obtain ⟨c, hc⟩ : ∃ c, c = l0 ++ l1 := ⟨_, rfl⟩
  have hcl : c.length = l0.length + l1.length := by rw [hc, List.length_append]
  rw [← hc] at hfl
  have hcb : 0 < c.length ∧ c.length ≤ 24 := by have h1 := N0.out; have h2 := N1.out; have h3 := HP.out; omega
  have HFL := Lib.hid hfl; have HC := Lib.hid hc; have HCB := Lib.hid hcb
  rw [← hc]
  obtain ⟨r, hr⟩ : ∃ r, r = joinR (voteR (balB A k c) l0) (voteR (balB A k c) l1) := ⟨_, rfl⟩
  rw [← hr]
  have HRR := Lib.hid hr
  clear hr hfl hcl hc hcb
  go_enter Try.func28, Try.ntmps28
  go_wp2_with fail
  have hfl := HFL.out
  have hcb := HCB.out
  have hsl : Sls (w.alloc (.cells #[.slice oa l0.length ca, .slice ob l1.length cb] 22)) (.slice (some ⟨w.heap.size, 0, none⟩) 2 2) [l0, l1] := by
    have hb := block_new w (.cells #[.slice oa l0.length ca, .slice ob l1.length cb] 22)
    refine ⟨w.heap.size, 2, rfl, fun i hi => ?_⟩
    have : i = 0 ∨ i = 1 := by simp at hi; omega
    rcases this with rfl | rfl
    · exact ⟨_, cell_of_block hb rfl, H0.out.new (Chg.alloc _ _ _)⟩
    · exact ⟨_, cell_of_block hb rfl, H1.out.new (Chg.alloc _ _ _)⟩
  refine (concat29_any _ [l0, l1] _ hsl (by rw [hfl]; exact hcb.1) (by rw [hfl]; omega) (by simp)).mono ?_
  rw [hfl]
  rintro e w1 ⟨v1, rfl, ho, n1⟩
  have hu1 := us_of_owns ho
  have HU1 := Lib.hid hu1
  obtain ⟨oc, cc, rfl, hcs⟩ := hu1
  have NW1 := Lib.hid ((Chg.alloc w _ (fun _ => False)).then n1)
  have HCS := Lib.hid hcs
  clear hfl hsl ho hcs n1 hcb q0 q1
  go_wp2_with fail
  go_loopg [5, 16] c.length (fun n v j wr => ∃ i : Nat, i ≤ c.length ∧ c.length ≤ n + i ∧ j = .int .i64 i ∧ RowB wr w1.heap.size v (balB A k (c.take i)) ∧ New w1 wr)
  case atStart => exact ⟨0, by omega, by omega, rfl, RowB.nil _ _, Chg.refl _ _⟩
  case round =>
    obtain ⟨i, hi, hg, rfl, hrow, hnew⟩ := hrel
    have hcb := HCB.out
    by_cases hlt : i < c.length
    · obtain ⟨b1, off1, rfl, hc1⟩ := HCS.out i hlt
      have p1 := hnew.has hc1
      have htk := List.take_succ_eq_append_getElem hlt
      have hBl : (balB A k (c.take i)).length ≤ 24 := by rw [balB_length]; have := dd_le (c.take i); simp only [List.length_take] at this; omega
      have hks := balB_keys A k (c.take i)
      have hin : c[i] ∈ dd (c.take i) → balB A k (c.take i ++ [c[i]]) = balB A k (c.take i) := fun h => balB_in h
      have hout : c[i] ∉ dd (c.take i) → balB A k (c.take i ++ [c[i]]) = balB A k (c.take i) ++ [(c[i], yesA A k c[i])] := fun h => balB_out h
      rw [← htk] at hin hout
      obtain ⟨B, hB⟩ : ∃ B, B = balB A k (c.take i) := ⟨_, rfl⟩
      obtain ⟨B', hB'⟩ : ∃ B', B' = balB A k (c.take (i + 1)) := ⟨_, rfl⟩
      obtain ⟨x, hx⟩ : ∃ x, x = c[i] := ⟨_, rfl⟩
      obtain ⟨D, hD⟩ : ∃ D, D = dd (c.take i) := ⟨_, rfl⟩
      rw [← hB] at hrow hBl hks hin hout
      rw [← hx] at p1 hin hout
      rw [← hD] at hks hin hout
      rw [← hB'] at hin hout
      obtain ⟨o5, c5, rfl⟩ := hrow.slice
      have HG := Lib.hid hg; have HROW := Lib.hid hrow; have HNW := Lib.hid hnew; have HKS := Lib.hid hks; have HIN := Lib.hid hin; have HOUT := Lib.hid hout; have HB' := Lib.hid hB'; have HBL := Lib.hid hBl
      clear hg hrow hnew hc1 htk hBl hks hin hout hB hB' hx hD
      have NA : New wr (wr.alloc (.cells #[.int .u64 x] 28)) := Chg.alloc _ _ _
      have hbx := block_new wr (.cells #[.int .u64 x] 28)
      have NA' := Lib.hid NA; have HBX := Lib.hid hbx
      clear NA hbx
      by_cases hxD : x ∈ D
      · have hdx : decide (x ∈ B.map (·.1)) = true := by rw [HKS.out]; simpa using hxD
        have HDX := Lib.hid hdx; have HXD := Lib.hid hxD
        clear hdx hxD
        go_wp2_with (first
          | (go_at_call 30; refine (contains30b_any (.slice o5 B.length c5) B wr.heap.size x _ ((HROW.out.new NA'.out).bas) (cell_of_block HBX.out rfl) (by have := HBL.out; omega)).mono ?_; rw [HDX.out]; rintro e w2 ⟨rfl, m2⟩)
          | fail)
        go_roundg (gk - 1)
        case measure => have := HG.out; omega
        case rel => exact ⟨i + 1, by omega, by have := HG.out; omega, by go_num, by rw [← HB'.out, HIN.out HXD.out]; exact (HROW.out.new NA'.out).new m2, (HNW.out.then NA'.out).then m2⟩
      · have hdx : decide (x ∈ B.map (·.1)) = false := by rw [HKS.out]; simpa using hxD
        have hB'e := HOUT.out hxD
        have HDX := Lib.hid hdx; have HBE := Lib.hid hB'e
        clear hdx hxD hB'e
        go_wp2_with fail
        refine (contains30b_any (.slice o5 B.length c5) B wr.heap.size x _ ((HROW.out.new NA'.out).bas) (cell_of_block HBX.out rfl) (by have := HBL.out; omega)).mono ?_
        rw [HDX.out]; rintro e w2 ⟨rfl, m2⟩
        have N2 := Lib.hid (NA'.out.then m2); have N2w := Lib.hid (NW1.out.then (HNW.out.then (NA'.out.then m2)))
        have HBX2 := Lib.hid (m2.keeps HBX.out (by simp))
        have qa := cell_of_block (off := 0) (N2w.out.keeps HAB.out (by simp)) rfl
        simp only [List.getElem_toArray, List.getElem_cons_zero] at qa
        clear m2
        go_wp2_with fail
        refine (index32b_any (.slice ao A.length ac) A wr.heap.size x _ (HA.out.chg N2w.out) (cell_of_block HBX2.out rfl) (by have := HN.out; omega)).mono ?_
        rintro e w3 ⟨⟨r3, rfl, hat⟩, m3⟩
        have N3 := Lib.hid (N2.out.then m3); have N3w := Lib.hid (N2w.out.then m3)
        have hb3 := m3.keeps HBX2.out (by simp)
        have bx := cell_of_block (off := 0) hb3 rfl
        have ba := cell_of_block (off := 0) (N3w.out.keeps HAB.out (by simp)) rfl
        simp only [List.getElem_toArray, List.getElem_cons_zero] at bx ba
        have HROW3 := Lib.hid (HROW.out.new N3.out)
        have HBX3 := Lib.hid hb3
        have BXH := Lib.hid bx
        clear m3 hb3 qa
        have hsz := Lib.hid (show w1.heap.size ≤ w3.heap.size by have h1 := HNW.out.size; have h2 := N3.out.size; omega)
        have hbo := Lib.hid (show ∀ g, (Value.slice o5 B.length c5).ownBlock = some g → w1.heap.size ≤ g ∧ g < wr.heap.size from fun g h => HROW.out.lt g h)
        have hkx := Lib.hid (show (Value.slice o5 B.length c5).ownBlock ≠ some wr.heap.size from fun e => by have := (hbo.out _ e).2; omega)
        have hkw := Lib.hid (show ∀ g, g < w.heap.size → (Value.slice o5 B.length c5).ownBlock ≠ some g from fun g hg e => by have h1 := (hbo.out _ e).1; have h2 := NW1.out.size; omega)
        by_cases hk0 : k = 0
        · subst hk0
          have hy : yesA A 0 x = true := by unfold yesA; simp
          rw [hy] at HBE
          clear hat hy
          go_wp2_with fail
          refine wp_region_held_drew (S := fun w' => w'.cell? ⟨wr.heap.size, 0, none⟩ = some (.int .u64 x)) (by kernel_rfl) (by exact (Chg.drew w3 (fun _ => False)).has BXH.out) (fun hHeld => ?_)
          refine wpAnyH_take (i := 0) (v := .slice o5 B.length c5) rfl (by kernel_rfl) (by kernel_rfl) (by kernel_rfl) (fun _ _ _ h => h) (Or.inl ⟨by kernel_rfl, fun w hSw => by first | (go_simp; done) | (go_simp; rfl)⟩) hHeld ?_
          simp only [Act.put, List.setIfInBounds_toArray, List.set_cons_zero, List.set_cons_succ]
          refine wpAnyH_take (i := 1) (v := .int .u64 x) rfl (by kernel_rfl) (by kernel_rfl) (by kernel_rfl) (fun _ _ _ h => h) (Or.inl ⟨by kernel_rfl, fun w hSw => by first | (go_simp; done) | (go_simp; rfl)⟩) hHeld ?_
          simp only [Act.put, List.setIfInBounds_toArray, List.set_cons_zero, List.set_cons_succ]
          refine wpAnyH_take (i := 2) (v := .int .u64 0) rfl (by kernel_rfl) (by kernel_rfl) (by kernel_rfl) (fun _ _ _ h => h) (Or.inl ⟨by kernel_rfl, fun w hSw => by first | (go_simp; done) | (go_simp; rfl)⟩) hHeld ?_
          simp only [Act.put, List.setIfInBounds_toArray, List.set_cons_zero, List.set_cons_succ]
          refine wpAnyH_take (i := 3) (v := .bool true) rfl (by kernel_rfl) (by kernel_rfl) (by kernel_rfl) (fun _ _ _ h => h) (Or.inl ⟨by kernel_rfl, fun w hSw => by first | (go_simp; done) | (go_simp; rfl)⟩) hHeld ?_
          simp only [Act.put, List.setIfInBounds_toArray, List.set_cons_zero, List.set_cons_succ]
          refine wpAnyH_take (i := 4) (v := .bool true) rfl (by kernel_rfl) (by kernel_rfl) (by kernel_rfl) (fun _ _ _ h => h) (Or.inl ⟨by kernel_rfl, fun w hSw => by first | (go_simp; done) | (go_simp; rfl)⟩) hHeld ?_
          simp only [Act.put, List.setIfInBounds_toArray, List.set_cons_zero, List.set_cons_succ]
          refine wpAnyH_take (i := 5) (v := undef) rfl (by kernel_rfl) (by kernel_rfl) (by kernel_rfl) (fun _ _ _ h => h) (Or.inr ⟨by kernel_rfl, rfl⟩) hHeld ?_
          simp only [Act.put, List.setIfInBounds_toArray, List.set_cons_zero, List.set_cons_succ]
          refine wpAnyH_take (i := 6) (v := undef) rfl (by kernel_rfl) (by kernel_rfl) (by kernel_rfl) (fun _ _ _ h => h) (Or.inr ⟨by kernel_rfl, rfl⟩) hHeld ?_
          simp only [Act.put, List.setIfInBounds_toArray, List.set_cons_zero, List.set_cons_succ]
          refine wpAnyH_take (i := 7) (v := undef) rfl (by kernel_rfl) (by kernel_rfl) (by kernel_rfl) (fun _ _ _ h => h) (Or.inr ⟨by kernel_rfl, rfl⟩) hHeld ?_
          simp only [Act.put, List.setIfInBounds_toArray, List.set_cons_zero, List.set_cons_succ]
          refine wpAnyH_take (i := 8) (v := undef) rfl (by kernel_rfl) (by kernel_rfl) (by kernel_rfl) (fun _ _ _ h => h) (Or.inr ⟨by kernel_rfl, rfl⟩) hHeld ?_
          simp only [Act.put, List.setIfInBounds_toArray, List.set_cons_zero, List.set_cons_succ]
          refine wpAnyH_take (i := 9) (v := undef) rfl (by kernel_rfl) (by kernel_rfl) (by kernel_rfl) (fun _ _ _ h => h) (Or.inr ⟨by kernel_rfl, rfl⟩) hHeld ?_
          simp only [Act.put, List.setIfInBounds_toArray, List.set_cons_zero, List.set_cons_succ]
          refine wpAnyH_take (i := 10) (v := undef) rfl (by kernel_rfl) (by kernel_rfl) (by kernel_rfl) (fun _ _ _ h => h) (Or.inr ⟨by kernel_rfl, rfl⟩) hHeld ?_
          simp only [Act.put, List.setIfInBounds_toArray, List.set_cons_zero, List.set_cons_succ]
          refine wpAnyH_take (i := 11) (v := undef) rfl (by kernel_rfl) (by kernel_rfl) (by kernel_rfl) (fun _ _ _ h => h) (Or.inr ⟨by kernel_rfl, rfl⟩) hHeld ?_
          simp only [Act.put, List.setIfInBounds_toArray, List.set_cons_zero, List.set_cons_succ]
          refine wpAnyH_take (i := 12) (v := undef) rfl (by kernel_rfl) (by kernel_rfl) (by kernel_rfl) (fun _ _ _ h => h) (Or.inr ⟨by kernel_rfl, rfl⟩) hHeld ?_
          simp only [Act.put, List.setIfInBounds_toArray, List.set_cons_zero, List.set_cons_succ]
          refine wpAnyH_take (i := 13) (v := undef) rfl (by kernel_rfl) (by kernel_rfl) (by kernel_rfl) (fun _ _ _ h => h) (Or.inr ⟨by kernel_rfl, rfl⟩) hHeld ?_
          simp only [Act.put, List.setIfInBounds_toArray, List.set_cons_zero, List.set_cons_succ]
          refine wpAnyH_take (i := 14) (v := undef) rfl (by kernel_rfl) (by kernel_rfl) (by kernel_rfl) (fun _ _ _ h => h) (Or.inr ⟨by kernel_rfl, rfl⟩) hHeld ?_
          simp only [Act.put, List.setIfInBounds_toArray, List.set_cons_zero, List.set_cons_succ]
          refine wpAnyH_take (i := 15) (v := undef) rfl (by kernel_rfl) (by kernel_rfl) (by kernel_rfl) (fun _ _ _ h => h) (Or.inr ⟨by kernel_rfl, rfl⟩) hHeld ?_
          simp only [Act.put, List.setIfInBounds_toArray, List.set_cons_zero, List.set_cons_succ]
          refine wpAnyH_take (i := 16) (v := .bool true) rfl (by kernel_rfl) (by kernel_rfl) (by kernel_rfl) (fun _ _ _ h => h) (Or.inl ⟨by kernel_rfl, fun w hSw => by first | (go_simp; done) | (go_simp; rfl)⟩) hHeld ?_
          simp only [Act.put, List.setIfInBounds_toArray, List.set_cons_zero, List.set_cons_succ]
          refine wpAnyH_take (i := 17) (v := .agg #[.int .u64 x, .bool true]) rfl (by kernel_rfl) (by kernel_rfl) (by kernel_rfl) (fun _ _ _ h => h) (Or.inl ⟨by kernel_rfl, fun w hSw => by first | (go_simp; done) | (go_simp; rfl)⟩) hHeld ?_
          simp only [Act.put, List.setIfInBounds_toArray, List.set_cons_zero, List.set_cons_succ]
          refine wpAnyH_ready (rs := [18]) (by kernel_rfl) (by simp) (AllReadyH.cons rfl (fun K hK => ?_) AllReadyH.nil)
          go_simp
          refine hK.out _ _ (by exact ((Chg.alloc w3 _ (fun _ => False)).then (Chg.drew _ _)).has BXH.out) (fun hHeld => ?_)
          clear hK K
          try simp only [Act.put, List.setIfInBounds_toArray, List.set_cons_zero, List.set_cons_succ]
          refine wpAnyH_ready (rs := [19]) (by kernel_rfl) (by simp) (AllReadyH.cons rfl (fun K hK => ?_) AllReadyH.nil)
          refine step_append2 (by rfl) _ _ (by rfl) st36 w1.heap.size B.length (.slice o5 B.length c5) _ (by rfl) (ownsRow_chg HROW3.out ((Chg.alloc w3 _ (fun _ => False)).then (Chg.drew _ _)) (by simp)) w3.heap.size (.int .u64 x) (.bool true) (by rfl) (block_drew (block_new w3 _)) rfl rfl (by have := HBL.out; omega) (by have := hsz.out; simp; omega) ?_
          intro v5 w5 hown hch
          have HOWN := Lib.hid hown; have HCH := Lib.hid hch
          refine hK.out _ _ (by exact cell_app BXH.out HCH.out hkx.out) (fun hHeld => ?_)
          clear hK K
          try simp only [Act.put, List.setIfInBounds_toArray, List.set_cons_zero, List.set_cons_succ]
          refine wpAnyH_take (i := 20) (v := v5) rfl (by kernel_rfl) (by kernel_rfl) (by kernel_rfl) (fun _ _ _ h => h) (Or.inl ⟨by kernel_rfl, fun w hSw => by first | (go_simp; done) | (go_simp; rfl)⟩) hHeld ?_
          try simp only [Act.put, List.setIfInBounds_toArray, List.set_cons_zero, List.set_cons_succ]
          refine wpAnyH_done (by kernel_rfl) ?_ _
          clear hHeld hown hch bx ba p1
          go_wp2_with fail
          go_roundg (gk - 1)
          case measure => have := HG.out; omega
          case rel =>
            refine ⟨i + 1, by omega, by have := HG.out; omega, by go_num, ?_, (HNW.out.then N3.out).trans (((Chg.alloc w3 _ _).then (Chg.drew _ _)).then HCH.out) (fun _ _ h => h) (fun j hj e => by have := (hbo.out _ e).1; omega)⟩
            rw [← HB'.out, HBE.out]
            unfold RowB
            rw [List.length_append, pcs_snoc]
            exact HOWN.out
        · have hkb : (k == 0) = false := by simpa using hk0
          rcases hat with ⟨rfl, hno⟩ | ⟨i3, v3, rfl, hi3⟩
          · have hy : yesA A k x = false := by
              unfold yesA
              rw [show ackd A x = none from ackd_none hno]
              simpa using hk0
            rw [hy] at HBE
            clear hno hy hk0
            go_wp2_with fail
            refine wp_region_held_drew (S := fun w' => w'.cell? ⟨wr.heap.size, 0, none⟩ = some (.int .u64 x)) (by kernel_rfl) (by exact (Chg.drew w3 (fun _ => False)).has BXH.out) (fun hHeld => ?_)
            refine wpAnyH_take (i := 0) (v := .slice o5 B.length c5) rfl (by kernel_rfl) (by kernel_rfl) (by kernel_rfl) (fun _ _ _ h => h) (Or.inl ⟨by kernel_rfl, fun w hSw => by first | (go_simp; done) | (go_simp; rfl)⟩) hHeld ?_
            simp only [Act.put, List.setIfInBounds_toArray, List.set_cons_zero, List.set_cons_succ]
            refine wpAnyH_take (i := 1) (v := .int .u64 x) rfl (by kernel_rfl) (by kernel_rfl) (by kernel_rfl) (fun _ _ _ h => h) (Or.inl ⟨by kernel_rfl, fun w hSw => by first | (go_simp; done) | (go_simp; rfl)⟩) hHeld ?_
            simp only [Act.put, List.setIfInBounds_toArray, List.set_cons_zero, List.set_cons_succ]
            refine wpAnyH_take (i := 2) (v := .int .u64 k) rfl (by kernel_rfl) (by kernel_rfl) (by kernel_rfl) (fun _ _ _ h => h) (Or.inl ⟨by kernel_rfl, fun w hSw => by first | (go_simp; done) | (go_simp; rfl)⟩) hHeld ?_
            simp only [Act.put, List.setIfInBounds_toArray, List.set_cons_zero, List.set_cons_succ]
            refine wpAnyH_take (i := 3) (v := .bool false) rfl (by kernel_rfl) (by kernel_rfl) (by kernel_rfl) (fun _ _ _ h => h) (Or.inl ⟨by kernel_rfl, fun w hSw => by first | (go_simp; done) | (go_simp; rfl)⟩) hHeld ?_
            simp only [Act.put, List.setIfInBounds_toArray, List.set_cons_zero, List.set_cons_succ]
            refine wpAnyH_take (i := 4) (v := .bool false) rfl (by kernel_rfl) (by kernel_rfl) (by kernel_rfl) (fun _ _ _ h => h) (Or.inl ⟨by kernel_rfl, fun w hSw => by first | (go_simp; done) | (go_simp; rfl)⟩) hHeld ?_
            simp only [Act.put, List.setIfInBounds_toArray, List.set_cons_zero, List.set_cons_succ]
            refine wpAnyH_take (i := 5) (v := .int .i64 (-1)) rfl (by kernel_rfl) (by kernel_rfl) (by kernel_rfl) (fun _ _ _ h => h) (Or.inl ⟨by kernel_rfl, fun w hSw => by first | (go_simp; done) | (go_simp; rfl)⟩) hHeld ?_
            simp only [Act.put, List.setIfInBounds_toArray, List.set_cons_zero, List.set_cons_succ]
            refine wpAnyH_take (i := 6) (v := .bool false) rfl (by kernel_rfl) (by kernel_rfl) (by kernel_rfl) (fun _ _ _ h => h) (Or.inl ⟨by kernel_rfl, fun w hSw => by first | (go_simp; done) | (go_simp; rfl)⟩) hHeld ?_
            simp only [Act.put, List.setIfInBounds_toArray, List.set_cons_zero, List.set_cons_succ]
            refine wpAnyH_take (i := 7) (v := .bool false) rfl (by kernel_rfl) (by kernel_rfl) (by kernel_rfl) (fun _ _ _ h => h) (Or.inl ⟨by kernel_rfl, fun w hSw => by first | (go_simp; done) | (go_simp; rfl)⟩) hHeld ?_
            simp only [Act.put, List.setIfInBounds_toArray, List.set_cons_zero, List.set_cons_succ]
            refine wpAnyH_take (i := 8) (v := undef) rfl (by kernel_rfl) (by kernel_rfl) (by kernel_rfl) (fun _ _ _ h => h) (Or.inr ⟨by kernel_rfl, rfl⟩) hHeld ?_
            simp only [Act.put, List.setIfInBounds_toArray, List.set_cons_zero, List.set_cons_succ]
            refine wpAnyH_take (i := 9) (v := undef) rfl (by kernel_rfl) (by kernel_rfl) (by kernel_rfl) (fun _ _ _ h => h) (Or.inr ⟨by kernel_rfl, rfl⟩) hHeld ?_
            simp only [Act.put, List.setIfInBounds_toArray, List.set_cons_zero, List.set_cons_succ]
            refine wpAnyH_take (i := 10) (v := undef) rfl (by kernel_rfl) (by kernel_rfl) (by kernel_rfl) (fun _ _ _ h => h) (Or.inr ⟨by kernel_rfl, rfl⟩) hHeld ?_
            simp only [Act.put, List.setIfInBounds_toArray, List.set_cons_zero, List.set_cons_succ]
            refine wpAnyH_take (i := 11) (v := undef) rfl (by kernel_rfl) (by kernel_rfl) (by kernel_rfl) (fun _ _ _ h => h) (Or.inr ⟨by kernel_rfl, rfl⟩) hHeld ?_
            simp only [Act.put, List.setIfInBounds_toArray, List.set_cons_zero, List.set_cons_succ]
            refine wpAnyH_take (i := 12) (v := undef) rfl (by kernel_rfl) (by kernel_rfl) (by kernel_rfl) (fun _ _ _ h => h) (Or.inr ⟨by kernel_rfl, rfl⟩) hHeld ?_
            simp only [Act.put, List.setIfInBounds_toArray, List.set_cons_zero, List.set_cons_succ]
            refine wpAnyH_take (i := 13) (v := undef) rfl (by kernel_rfl) (by kernel_rfl) (by kernel_rfl) (fun _ _ _ h => h) (Or.inr ⟨by kernel_rfl, rfl⟩) hHeld ?_
            simp only [Act.put, List.setIfInBounds_toArray, List.set_cons_zero, List.set_cons_succ]
            refine wpAnyH_take (i := 14) (v := undef) rfl (by kernel_rfl) (by kernel_rfl) (by kernel_rfl) (fun _ _ _ h => h) (Or.inr ⟨by kernel_rfl, rfl⟩) hHeld ?_
            simp only [Act.put, List.setIfInBounds_toArray, List.set_cons_zero, List.set_cons_succ]
            refine wpAnyH_take (i := 15) (v := .bool false) rfl (by kernel_rfl) (by kernel_rfl) (by kernel_rfl) (fun _ _ _ h => h) (Or.inl ⟨by kernel_rfl, fun w hSw => by first | (go_simp; done) | (go_simp; rfl)⟩) hHeld ?_
            simp only [Act.put, List.setIfInBounds_toArray, List.set_cons_zero, List.set_cons_succ]
            refine wpAnyH_take (i := 16) (v := .bool false) rfl (by kernel_rfl) (by kernel_rfl) (by kernel_rfl) (fun _ _ _ h => h) (Or.inl ⟨by kernel_rfl, fun w hSw => by first | (go_simp; done) | (go_simp; rfl)⟩) hHeld ?_
            simp only [Act.put, List.setIfInBounds_toArray, List.set_cons_zero, List.set_cons_succ]
            refine wpAnyH_take (i := 17) (v := .agg #[.int .u64 x, .bool false]) rfl (by kernel_rfl) (by kernel_rfl) (by kernel_rfl) (fun _ _ _ h => h) (Or.inl ⟨by kernel_rfl, fun w hSw => by first | (go_simp; done) | (go_simp; rfl)⟩) hHeld ?_
            simp only [Act.put, List.setIfInBounds_toArray, List.set_cons_zero, List.set_cons_succ]
            refine wpAnyH_ready (rs := [18]) (by kernel_rfl) (by simp) (AllReadyH.cons rfl (fun K hK => ?_) AllReadyH.nil)
            go_simp
            refine hK.out _ _ (by exact ((Chg.alloc w3 _ (fun _ => False)).then (Chg.drew _ _)).has BXH.out) (fun hHeld => ?_)
            clear hK K
            try simp only [Act.put, List.setIfInBounds_toArray, List.set_cons_zero, List.set_cons_succ]
            refine wpAnyH_ready (rs := [19]) (by kernel_rfl) (by simp) (AllReadyH.cons rfl (fun K hK => ?_) AllReadyH.nil)
            refine step_append2 (by rfl) _ _ (by rfl) st36 w1.heap.size B.length (.slice o5 B.length c5) _ (by rfl) (ownsRow_chg HROW3.out ((Chg.alloc w3 _ (fun _ => False)).then (Chg.drew _ _)) (by simp)) w3.heap.size (.int .u64 x) (.bool false) (by rfl) (block_drew (block_new w3 _)) rfl rfl (by have := HBL.out; omega) (by have := hsz.out; simp; omega) ?_
            intro v5 w5 hown hch
            have HOWN := Lib.hid hown; have HCH := Lib.hid hch
            refine hK.out _ _ (by exact cell_app BXH.out HCH.out hkx.out) (fun hHeld => ?_)
            clear hK K
            try simp only [Act.put, List.setIfInBounds_toArray, List.set_cons_zero, List.set_cons_succ]
            refine wpAnyH_take (i := 20) (v := v5) rfl (by kernel_rfl) (by kernel_rfl) (by kernel_rfl) (fun _ _ _ h => h) (Or.inl ⟨by kernel_rfl, fun w hSw => by first | (go_simp; done) | (go_simp; rfl)⟩) hHeld ?_
            try simp only [Act.put, List.setIfInBounds_toArray, List.set_cons_zero, List.set_cons_succ]
            refine wpAnyH_done (by kernel_rfl) ?_ _
            clear hHeld hown hch bx ba p1
            go_wp2_with fail
            go_roundg (gk - 1)
            case measure => have := HG.out; omega
            case rel =>
              refine ⟨i + 1, by omega, by have := HG.out; omega, by go_num, ?_, (HNW.out.then N3.out).trans (((Chg.alloc w3 _ _).then (Chg.drew _ _)).then HCH.out) (fun _ _ h => h) (fun j hj e => by have := (hbo.out _ e).1; omega)⟩
              rw [← HB'.out, HBE.out]
              unfold RowB
              rw [List.length_append, pcs_snoc]
              exact HOWN.out
          · have hai : i3 < A.length := (List.getElem?_eq_some_iff.1 hi3).1
            have hax : ackd A x = some v3 := ackd_at HD.out hi3
            have hy : yesA A k x = decide (k ≤ v3) := by
              unfold yesA
              rw [hax]
              simp [hk0]
            rw [hy] at HBE
            obtain ⟨_, _, e3, hcs3⟩ := HA.out
            cases e3
            obtain ⟨b3, off3, rfl, _, hc3⟩ := hcs3 i3 hai
            have h3e : A[i3] = (x, v3) := by rw [List.getElem?_eq_getElem hai] at hi3; exact Option.some.inj hi3
            rw [h3e] at hc3
            have ce := Lib.hid hc3
            have be := N3w.out.has hc3
            have BEH := Lib.hid be; have BAH := Lib.hid ba
            have hA1 : (0 : Int) ≤ (i3 : Int) := by omega
            have hA2 : (i3 : Int) < (A.length : Int) := by omega
            have hge : decide ((0 : Int) ≤ (i3 : Int)) = true := by simp
            clear hi3 hax hy hcs3 hc3 h3e hk0
            go_wp2_with fail
            refine wp_region_held_drew (S := fun w' => w'.cell? ⟨wr.heap.size, 0, none⟩ = some (.int .u64 x) ∧ w'.cell? ⟨ab, 0, none⟩ = some (.slice (some ⟨b3, off3, none⟩) A.length ac) ∧ w'.cell? ⟨b3, off3 + i3 * 2 + 1, none⟩ = some (.int .u64 v3)) (by kernel_rfl) (by exact ⟨(Chg.drew w3 (fun _ => False)).has BXH.out, (Chg.drew w3 (fun _ => False)).has BAH.out, (Chg.drew w3 (fun _ => False)).has BEH.out⟩) (fun hHeld => ?_)
            refine wpAnyH_take (i := 0) (v := .slice o5 B.length c5) rfl (by kernel_rfl) (by kernel_rfl) (by kernel_rfl) (fun _ _ _ h => h) (Or.inl ⟨by kernel_rfl, fun w hSw => by first | (go_simp; done) | (go_simp; rfl)⟩) hHeld ?_
            simp only [Act.put, List.setIfInBounds_toArray, List.set_cons_zero, List.set_cons_succ]
            refine wpAnyH_take (i := 1) (v := .int .u64 x) rfl (by kernel_rfl) (by kernel_rfl) (by kernel_rfl) (fun _ _ _ h => h) (Or.inl ⟨by kernel_rfl, fun w hSw => by first | (go_simp; done) | (go_simp; rfl)⟩) hHeld ?_
            simp only [Act.put, List.setIfInBounds_toArray, List.set_cons_zero, List.set_cons_succ]
            refine wpAnyH_take (i := 2) (v := .int .u64 k) rfl (by kernel_rfl) (by kernel_rfl) (by kernel_rfl) (fun _ _ _ h => h) (Or.inl ⟨by kernel_rfl, fun w hSw => by first | (go_simp; done) | (go_simp; rfl)⟩) hHeld ?_
            simp only [Act.put, List.setIfInBounds_toArray, List.set_cons_zero, List.set_cons_succ]
            refine wpAnyH_take (i := 3) (v := .bool false) rfl (by kernel_rfl) (by kernel_rfl) (by kernel_rfl) (fun _ _ _ h => h) (Or.inl ⟨by kernel_rfl, fun w hSw => by first | (go_simp; done) | (go_simp; rfl)⟩) hHeld ?_
            simp only [Act.put, List.setIfInBounds_toArray, List.set_cons_zero, List.set_cons_succ]
            refine wpAnyH_take (i := 4) (v := .bool false) rfl (by kernel_rfl) (by kernel_rfl) (by kernel_rfl) (fun _ _ _ h => h) (Or.inl ⟨by kernel_rfl, fun w hSw => by first | (go_simp; done) | (go_simp; rfl)⟩) hHeld ?_
            simp only [Act.put, List.setIfInBounds_toArray, List.set_cons_zero, List.set_cons_succ]
            refine wpAnyH_take (i := 5) (v := .int .i64 i3) rfl (by kernel_rfl) (by kernel_rfl) (by kernel_rfl) (fun _ _ _ h => h) (Or.inl ⟨by kernel_rfl, fun w hSw => by first | (go_simp; done) | (go_simp; rfl)⟩) hHeld ?_
            simp only [Act.put, List.setIfInBounds_toArray, List.set_cons_zero, List.set_cons_succ]
            refine wpAnyH_take (i := 6) (v := .bool true) rfl (by kernel_rfl) (by kernel_rfl) (by kernel_rfl) (fun _ _ _ h => h) (Or.inl ⟨by kernel_rfl, fun w hSw => by first | (go_simp; done) | (go_simp; rfl)⟩) hHeld ?_
            simp only [Act.put, List.setIfInBounds_toArray, List.set_cons_zero, List.set_cons_succ]
            refine wpAnyH_take (i := 7) (v := .bool true) rfl (by kernel_rfl) (by kernel_rfl) (by kernel_rfl) (fun _ _ _ h => h) (Or.inl ⟨by kernel_rfl, fun w hSw => by first | (go_simp; done) | (go_simp; rfl)⟩) hHeld ?_
            simp only [Act.put, List.setIfInBounds_toArray, List.set_cons_zero, List.set_cons_succ]
            refine wpAnyH_take (i := 8) (v := .slice (some ⟨b3, off3, none⟩) A.length ac) rfl (by kernel_rfl) (by kernel_rfl) (by kernel_rfl) (fun _ _ _ h => h) (Or.inl ⟨by kernel_rfl, fun w hSw => by first | (go_simp; done) | (go_simp; rfl)⟩) hHeld ?_
            simp only [Act.put, List.setIfInBounds_toArray, List.set_cons_zero, List.set_cons_succ]
            refine wpAnyH_take (i := 9) (v := .int .i64 i3) rfl (by kernel_rfl) (by kernel_rfl) (by kernel_rfl) (fun _ _ _ h => h) (Or.inl ⟨by kernel_rfl, fun w hSw => by first | (go_simp; done) | (go_simp; rfl)⟩) hHeld ?_
            simp only [Act.put, List.setIfInBounds_toArray, List.set_cons_zero, List.set_cons_succ]
            refine wpAnyH_take (i := 10) (v := .pointer (some ⟨b3, off3 + i3 * 2, none⟩)) rfl (by kernel_rfl) (by kernel_rfl) (by kernel_rfl) (fun _ _ _ h => h) (Or.inl ⟨by kernel_rfl, fun w hSw => by first | (go_simp; done) | (go_simp; rfl)⟩) hHeld ?_
            simp only [Act.put, List.setIfInBounds_toArray, List.set_cons_zero, List.set_cons_succ]
            refine wpAnyH_take (i := 11) (v := .pointer (some ⟨b3, off3 + i3 * 2 + 1, none⟩)) rfl (by kernel_rfl) (by kernel_rfl) (by kernel_rfl) (fun _ _ _ h => h) (Or.inl ⟨by kernel_rfl, fun w hSw => by first | (go_simp; done) | (go_simp; rfl)⟩) hHeld ?_
            simp only [Act.put, List.setIfInBounds_toArray, List.set_cons_zero, List.set_cons_succ]
            refine wpAnyH_take (i := 12) (v := .int .u64 v3) rfl (by kernel_rfl) (by kernel_rfl) (by kernel_rfl) (fun _ _ _ h => h) (Or.inl ⟨by kernel_rfl, fun w hSw => by first | (go_simp; done) | (go_simp; rfl)⟩) hHeld ?_
            simp only [Act.put, List.setIfInBounds_toArray, List.set_cons_zero, List.set_cons_succ]
            refine wpAnyH_take (i := 13) (v := .int .u64 k) rfl (by kernel_rfl) (by kernel_rfl) (by kernel_rfl) (fun _ _ _ h => h) (Or.inl ⟨by kernel_rfl, fun w hSw => by first | (go_simp; done) | (go_simp; rfl)⟩) hHeld ?_
            simp only [Act.put, List.setIfInBounds_toArray, List.set_cons_zero, List.set_cons_succ]
            refine wpAnyH_take (i := 14) (v := .bool (decide (k ≤ v3))) rfl (by kernel_rfl) (by kernel_rfl) (by kernel_rfl) (fun _ _ _ h => h) (Or.inl ⟨by kernel_rfl, fun w hSw => by first | (go_simp; done) | (go_simp; rfl)⟩) hHeld ?_
            simp only [Act.put, List.setIfInBounds_toArray, List.set_cons_zero, List.set_cons_succ]
            refine wpAnyH_take (i := 15) (v := .bool (decide (k ≤ v3))) rfl (by kernel_rfl) (by kernel_rfl) (by kernel_rfl) (fun _ _ _ h => h) (Or.inl ⟨by kernel_rfl, fun w hSw => by first | (go_simp; done) | (go_simp; rfl)⟩) hHeld ?_
            simp only [Act.put, List.setIfInBounds_toArray, List.set_cons_zero, List.set_cons_succ]
            refine wpAnyH_take (i := 16) (v := .bool (decide (k ≤ v3))) rfl (by kernel_rfl) (by kernel_rfl) (by kernel_rfl) (fun _ _ _ h => h) (Or.inl ⟨by kernel_rfl, fun w hSw => by first | (go_simp; done) | (go_simp; rfl)⟩) hHeld ?_
            simp only [Act.put, List.setIfInBounds_toArray, List.set_cons_zero, List.set_cons_succ]
            refine wpAnyH_take (i := 17) (v := .agg #[.int .u64 x, .bool (decide (k ≤ v3))]) rfl (by kernel_rfl) (by kernel_rfl) (by kernel_rfl) (fun _ _ _ h => h) (Or.inl ⟨by kernel_rfl, fun w hSw => by first | (go_simp; done) | (go_simp; rfl)⟩) hHeld ?_
            simp only [Act.put, List.setIfInBounds_toArray, List.set_cons_zero, List.set_cons_succ]
            refine wpAnyH_ready (rs := [18]) (by kernel_rfl) (by simp) (AllReadyH.cons rfl (fun K hK => ?_) AllReadyH.nil)
            go_simp
            refine hK.out _ _ (by exact ⟨((Chg.alloc w3 _ (fun _ => False)).then (Chg.drew _ _)).has BXH.out, ((Chg.alloc w3 _ (fun _ => False)).then (Chg.drew _ _)).has BAH.out, ((Chg.alloc w3 _ (fun _ => False)).then (Chg.drew _ _)).has BEH.out⟩) (fun hHeld => ?_)
            clear hK K
            try simp only [Act.put, List.setIfInBounds_toArray, List.set_cons_zero, List.set_cons_succ]
            refine wpAnyH_ready (rs := [19]) (by kernel_rfl) (by simp) (AllReadyH.cons rfl (fun K hK => ?_) AllReadyH.nil)
            refine step_append2 (by rfl) _ _ (by rfl) st36 w1.heap.size B.length (.slice o5 B.length c5) _ (by rfl) (ownsRow_chg HROW3.out ((Chg.alloc w3 _ (fun _ => False)).then (Chg.drew _ _)) (by simp)) w3.heap.size (.int .u64 x) (.bool (decide (k ≤ v3))) (by rfl) (block_drew (block_new w3 _)) rfl rfl (by have := HBL.out; omega) (by have := hsz.out; simp; omega) ?_
            intro v5 w5 hown hch
            have HOWN := Lib.hid hown; have HCH := Lib.hid hch
            refine hK.out _ _ (by exact ⟨cell_app BXH.out HCH.out hkx.out, cell_app BAH.out HCH.out (hkw.out _ (World.block_lt_of_cell? w _ (cell_of_block (off := 0) HAB.out rfl))), cell_app BEH.out HCH.out (hkw.out _ (World.block_lt_of_cell? w _ ce.out))⟩) (fun hHeld => ?_)
            clear hK K
            try simp only [Act.put, List.setIfInBounds_toArray, List.set_cons_zero, List.set_cons_succ]
            refine wpAnyH_take (i := 20) (v := v5) rfl (by kernel_rfl) (by kernel_rfl) (by kernel_rfl) (fun _ _ _ h => h) (Or.inl ⟨by kernel_rfl, fun w hSw => by first | (go_simp; done) | (go_simp; rfl)⟩) hHeld ?_
            try simp only [Act.put, List.setIfInBounds_toArray, List.set_cons_zero, List.set_cons_succ]
            refine wpAnyH_done (by kernel_rfl) ?_ _
            clear hHeld hown hch bx ba p1 be
            go_wp2_with fail
            go_roundg (gk - 1)
            case measure => have := HG.out; omega
            case rel =>
              refine ⟨i + 1, by omega, by have := HG.out; omega, by go_num, ?_, (HNW.out.then N3.out).trans (((Chg.alloc w3 _ _).then (Chg.drew _ _)).then HCH.out) (fun _ _ h => h) (fun j hj e => by have := (hbo.out _ e).1; omega)⟩
              rw [← HB'.out, HBE.out]
              unfold RowB
              rw [List.length_append, pcs_snoc]
              exact HOWN.out
    · have hil : i = c.length := by omega
      subst hil
      rw [List.take_length] at hrow
      have hkl : (balB A k c).length ≤ 24 := by rw [balB_length]; have := dd_le c; omega
      have hkd : ((balB A k c).map (·.1)).Nodup := by rw [balB_keys]; exact nodup_dd c
      obtain ⟨B, hB⟩ : ∃ B, B = balB A k c := ⟨_, rfl⟩
      have hrr := HRR.out
      rw [← hB] at hrow hkl hkd hrr
      obtain ⟨o5, c5, rfl⟩ := hrow.slice
      have HROW := Lib.hid hrow; have NW := Lib.hid (NW1.out.then hnew); have HKL := Lib.hid hkl; have HKD := Lib.hid hkd; have HR2 := Lib.hid hrr
      have HVB2 := Lib.hid ((NW1.out.then hnew).keeps HVB.out (by simp))
      clear hrow hnew hkl hkd hB hg hrr
      have q0 := cell_of_block (off := 0) HVB2.out rfl; have q1 := cell_of_block (off := 1) HVB2.out rfl
      simp only [List.getElem_toArray, List.getElem_cons_zero, List.getElem_cons_succ] at q0 q1
      go_wp2_with fail
      refine (pivoters_any (.slice oa l0.length ca) (.slice ob l1.length cb) l0 l1 _ (H0.out.new NW.out) (H1.out.new NW.out) M0.out M1.out (Nat.le_trans N0.out (by decide)) (Nat.le_trans N1.out (by decide))).mono ?_
      rintro e w5 ⟨oa5, ca5, ob5, cb5, rfl, u5, v5, m5⟩
      have U5 := Lib.hid u5; have V5 := Lib.hid v5; have B5 := Lib.hid (HROW.out.bas.chg m5)
      have NW5 := Lib.hid (NW.out.then m5)
      clear m5 u5 v5 q0 q1
      go_wp2_with fail
      refine (voted_any (.slice oa5 l0.length ca5) (.slice ob5 l1.length cb5) (.slice o5 B.length c5) l0 l1 B _ U5.out V5.out B5.out D0.out D1.out HKD.out (Nat.le_trans N0.out (by decide)) (Nat.le_trans N1.out (by decide)) (Nat.le_trans HKL.out (by decide))).mono ?_
      rw [← HR2.out]
      rintro e w6 ⟨rfl, m6⟩
      have NW6 := Lib.hid (NW5.out.then m6)
      clear m6
      go_wp2_with fail
      refine bodyPost_ret (results_tmp rfl _ _ _) rfl ⟨rfl, NW6.out⟩
end Go.Proofs.Ytcgccoigjcdjeaa
