/- append of a slice of numbers; slices.Grow at nil, slices.Concat. Condition: at least one number, at most a million. -/
import Derived.Test.YtcgccoigjcdjeaaChZa
import Derived.Lib.SlicesCompact
import Derived.Test.YtcgccoigjcdjeaaSortGm
import Derived.Test.YtcgccoigjcdjeaaQuZ
import Derived.Test.YtcgccoigjcdjeaaOvZa
import Derived.Lib.AppendZerosOnto
namespace Go.Proofs.Ytcgccoigjcdjeaa
open Go.RowKit Go.Sort Go.Lib

set_option maxRecDepth 100000 in
set_option maxHeartbeats 3200000 in
theorem compact35_any (v : Value) (l : List Int) (base : Nat) (w : World) (h : Ow w base v l) (hn : l.length ≤ 100000) :
    Calls Try.prog 35 #[v] w fun e w' => (∃ v', e = .returned v' ∧ Ow w' base v' (Lib.compact l)) ∧ Chg w w' (fun i => base ≤ i) := by
  have hus := h.us
  have H := Lib.hid h; have HN := Lib.hid hn
  have hrow := row_of_owns h
  obtain ⟨ao, cap0, rfl, _⟩ := hus
  have hall : (∀ j, j < l.length → keeps l.toArray j = true) → Lib.compact l = l := compact_all l
  have HALL := Lib.hid hall
  clear h hall
  by_cases h2 : l.length < 2
  · have he := HALL.out (fun j hj => keeps_lt_one _ j (by omega))
    have HE := Lib.hid he
    clear hrow he
    go_enter Try.func35, Try.ntmps35
    go_wp2_with fail
    go_ret
    exact ⟨⟨_, rfl, by rw [HE.out]; exact H.out⟩, Chg.refl _ _⟩
  · rcases hrow with ⟨_, rfl⟩ | ⟨g, cap, rest, hv, hg, h1, hh2, h3, hrw⟩
    · simp at h2
    cases hv
    obtain ⟨d, hd⟩ : ∃ d : Array Int, d = l.toArray := ⟨_, rfl⟩
    have hds : d.size = l.length := by rw [hd]; simp
    rw [← hd] at hrw
    have hcm : Lib.compact l = compactUpTo d d.size := by unfold Lib.compact; rw [hd]; simp
    have HCM := Lib.hid hcm; have HROW := Lib.hid hrw; have HD := Lib.hid hd; have HH1 := Lib.hid h1; have HH2 := Lib.hid hh2; have HH3 := Lib.hid h3; have HGB := Lib.hid hg; have HDS := Lib.hid hds
    have hcapI : l.length ≤ cap0 := h1
    clear hcm hrw hd h1 hh2 h3 hg hds
    go_enter Try.func35, Try.ntmps35
    go_wp2_with fail
    go_loopg [3] l.length (fun n s3 wr => ∃ k : Nat, 1 ≤ k ∧ k ≤ l.length ∧ l.length ≤ n + k ∧ s3 = .int .i64 k ∧ (∀ j, j < k → keeps d j = true) ∧ RowV wr g 28 d rest ∧ Chg w wr (fun i => i = g))
    case atStart => exact ⟨1, by omega, by omega, by omega, rfl, keeps_lt_one d, HROW.out, Chg.refl _ _⟩
    case round =>
      obtain ⟨k, hk1, hk, hg, rfl, hkp, hr, hc⟩ := hrel
      have HG := Lib.hid hg; have HKP := Lib.hid hkp; have HR := Lib.hid hr; have HC := Lib.hid hc
      clear hg hkp hr hc
      by_cases hlt : k < l.length
      · have c1 := HR.out.cell (t := k) (by have := HDS.out; omega)
        have c0 := HR.out.cell (t := k - 1) (by have := HDS.out; omega)
        obtain ⟨x, hx⟩ : ∃ x, x = d[k]! := ⟨_, rfl⟩
        obtain ⟨y, hy⟩ : ∃ y, y = d[k - 1]! := ⟨_, rfl⟩
        rw [← hx] at c1; rw [← hy] at c0
        have HX := Lib.hid hx; have HY := Lib.hid hy
        clear hx hy
        by_cases hdup : x = y
        · subst hdup
          have hst := CompInv.start HKP.out (keeps_neg (d := d) (m := k) (by omega) (by rw [← HX.out, ← HY.out]))
          have HST := Lib.hid hst
          clear hst
          go_wp2_with fail
          go_quiet (fail)
          go_wp2_with fail
          clear c0 c1
          have hkle : k ≤ l.length := by omega
          go_loopg [3, 5] l.length (fun n s3 s5 wq => ∃ (kk k2 : Nat) (dk : Array Int), s3 = .int .i64 kk ∧ s5 = .int .i64 k2 ∧ 1 ≤ k2 ∧ k + k2 ≤ l.length ∧ l.length ≤ n + (k + k2) ∧ CompInv d (k + k2) kk dk ∧ RowV wq g 28 dk rest ∧ Chg w wq (fun i => i = g))
          case atStart => exact ⟨k, 1, d, rfl, rfl, by omega, by omega, by omega, HST.out, HR.out.chg (Chg.drewN _ _ (fun _ => False)) (by simp), HC.out.then (Chg.drewN _ _ _)⟩
          case round =>
            obtain ⟨kk, k2, dk, rfl, rfl, hk21, hk2l, hg2, hki, hrk, hck⟩ := hrel
            have hkz := hki.size
            have hkkl := hki.lt
            have HKI := Lib.hid hki; have HRK := Lib.hid hrk; have HCK := Lib.hid hck; have HG2 := Lib.hid hg2; have HKZ := Lib.hid hkz
            clear hki hrk hck hg2 hkz
            by_cases hlt2 : k + k2 < l.length
            · have cm := HRK.out.cell (t := k + k2) (by have := HKZ.out; have := HDS.out; omega)
              have cp := HRK.out.cell (t := k + (k2 - 1)) (by have := HKZ.out; have := HDS.out; omega)
              have ck := HRK.out.cell (t := kk) (by have := HKZ.out; have := HDS.out; omega)
              have fk := HRK.out.free kk
              rw [HKI.out.high (k + k2) (by omega)] at cm
              rw [HKI.out.high (k + (k2 - 1)) (by omega)] at cp
              obtain ⟨u, hu⟩ : ∃ u, u = d[k + k2]! := ⟨_, rfl⟩
              obtain ⟨v, hv⟩ : ∃ v, v = d[k + (k2 - 1)]! := ⟨_, rfl⟩
              obtain ⟨old, ho⟩ : ∃ old, old = dk[kk]! := ⟨_, rfl⟩
              rw [← hu] at cm; rw [← hv] at cp; rw [← ho] at ck
              have HU := Lib.hid hu; have HV := Lib.hid hv
              clear hu hv ho
              by_cases huv : u = v
              · subst huv
                have hkn := keeps_neg (d := d) (m := k + k2) (by omega) (by rw [show k + k2 - 1 = k + (k2 - 1) by omega, ← HU.out, ← HV.out])
                have HKN := Lib.hid hkn
                clear hkn
                go_wp2_with fail
                go_quiet (fail)
                go_wp2_with fail
                go_roundg (gk - 1)
                case measure => have := HG2.out; omega
                case rel => exact ⟨kk, k2 + 1, dk, rfl, by go_num, by omega, by omega, by have := HG2.out; omega, HKI.out.skip HKN.out, HRK.out.chg (Chg.drewN _ _ (fun _ => False)) (by simp), HCK.out.then (Chg.drewN _ _ _)⟩
              · have hkp := keeps_pos (d := d) (m := k + k2) (by rw [show k + k2 - 1 = k + (k2 - 1) by omega, ← HU.out, ← HV.out]; exact huv)
                have HKP2 := Lib.hid hkp
                clear hkp
                go_wp2_with fail
                go_quiet (fail)
                go_wp2_with fail
                go_roundg (gk - 1)
                case measure => have := HG2.out; omega
                case rel =>
                  refine ⟨kk + 1, k2 + 1, dk.setIfInBounds kk u, by go_num, by go_num, by omega, by omega, by have := HG2.out; omega, ?_, (HRK.out.chg (Chg.drewN _ _ (fun _ => False)) (by simp)).set (by have := HKZ.out; have := HDS.out; omega) u, (HCK.out.then (Chg.drewN _ _ _)).then (Chg.setCell _ _ _ _ (fun _ => rfl))⟩
                  have := HKI.out.keep (by have := HDS.out; omega) HKP2.out
                  rwa [← HU.out] at this
            · have hend : k + k2 = l.length := by omega
              have hcl : ∀ ty c, (Builtin.clear_ #[22] ty #[.slice (some ⟨g, kk, none⟩) (l.length - kk) c]).run Try.prog wr = .ok (.tuple #[]) (wr.setCells g kk (List.replicate (l.length - kk) (.int .u64 0))) :=
                fun ty c => Lib.run_clear_slice wr _ _ ty _ Try.underlying22 zero28 rfl rfl g kk _ _ (by omega) (fun t ht => by rw [HRK.out.cell (t := kk + t) (by have := HKZ.out; have := HDS.out; omega)]; rfl) (fun t ht => HRK.out.free (kk + t))
              obtain ⟨f1, f2⟩ := RowV.fill (l.length - kk) kk HRK.out (by have := HKZ.out; have := HDS.out; omega)
              have hown : Ow (wr.setCells g kk (List.replicate (l.length - kk) (.int .u64 0))) base (.slice (some ⟨g, 0, none⟩) kk cap0) (Lib.compact l) := by
                have hz := HKZ.out; have hs := HDS.out; have hq := HKI.out
                rw [hend, ← hs] at hq
                refine own_prefix f1 HGB.out (by rw [fillZ_size]; omega) ?_ (fun j hj => ?_) (by rw [fillZ_size]; omega) HH2.out (by rw [fillZ_size]; have := HH3.out; omega)
                · rw [HCM.out]; exact hq.len
                · rw [HCM.out, fillZ_low _ _ _ _ hj]; exact hq.low j hj
              have HOWN := Lib.hid hown; have F2 := Lib.hid (HCK.out.then f2)
              clear f1 f2 hown
              go_wp2_with fail
              go_ret
              exact ⟨⟨_, rfl, HOWN.out⟩, F2.out.mono (fun i _ hi => by have := HGB.out; omega)⟩
        · have hkk := keeps_pos (d := d) (m := k) (by rw [← HX.out, ← HY.out]; exact hdup)
          have HKK := Lib.hid hkk
          clear hkk
          go_wp2_with fail
          go_quiet (fail)
          go_wp2_with fail
          go_roundg (gk - 1)
          case measure => have := HG.out; omega
          case rel =>
            refine ⟨k + 1, by omega, by omega, by have := HG.out; omega, by go_num, fun j hj => ?_, HR.out.chg (Chg.drewN _ _ (fun _ => False)) (by simp), HC.out.then (Chg.drewN _ _ _)⟩
            by_cases e : j = k
            · rw [e]; exact HKK.out
            · exact HKP.out j (by omega)
      · obtain rfl : k = l.length := by omega
        have he := HALL.out (fun j hj => by rw [← HD.out]; exact HKP.out j hj)
        have HE := Lib.hid he
        clear he
        go_wp2_with fail
        go_ret
        refine ⟨⟨_, rfl, ?_⟩, HC.out.mono (fun i _ hi => by have := HGB.out; omega)⟩
        rw [HE.out]
        refine own_prefix HR.out HGB.out (i := l.length) (by have := HDS.out; omega) rfl (fun j hj => ?_) (by have := HDS.out; omega) HH2.out (by have := HH3.out; have := HDS.out; omega)
        rw [HD.out, getElem!_pos l.toArray j (by simpa using hj)]
        simp [hj]
end Go.Proofs.Ytcgccoigjcdjeaa
namespace Go.Proofs.Ytcgccoigjcdjeaa
open Go.RowKit Go.Sort Go.Lib

theorem sort_own (v : Value) (l : List Int) (base : Nat) (w : World) (h : Ow w base v l) (hne : l ≠ []) (hn : l.length ≤ 49) :
    Calls Try.prog 34 #[v] w fun e w' => e = .returned (.tuple #[]) ∧ ∃ d : List Int, Ow w' base v d ∧ d.Perm l ∧ d.Pairwise (· ≤ ·) ∧ Chg w w' (fun i => base ≤ i) := by
  rcases row_of_owns h with ⟨_, rfl⟩ | ⟨g, cap, rest, rfl, hg, h1, h2, h3, hrw⟩
  · exact absurd rfl hne
  have hs := sort_any g 28 cap l.toArray rest w hrw (by simpa using hn)
  have e0 : l.toArray.size = l.length := by simp
  rw [e0] at hs
  refine hs.mono ?_
  rintro e w' ⟨rfl, d', hr, hsz, hp, hso, hc⟩
  refine ⟨rfl, d'.toList, ?_, by simpa using hp, hso, hc.mono (fun i _ e => by omega)⟩
  have hl : d'.toList.length = l.length := by simpa using hsz
  have := owns_of_row (base := base) (g := g) (cap := cap) (d := d'.toList) (rest := rest) (by simpa using hr) hg (by omega) h2 (by omega)
  rw [hl] at this
  show Ow w' base (.slice (some ⟨g, 0, none⟩) l.length cap) d'.toList
  unfold Ow
  rw [hl]
  exact this

/-- a row of ballots that the call made -/
def RowP (w : World) (base : Nat) (v : Value) (B : List (Int × Bool)) : Prop := w.ownsRow base 41 2 v B.length (pcs (fun p : Int × Bool => Value.int .u64 p.1) (fun p => Value.bool p.2) B)
theorem RowP.bas {w : World} {base : Nat} {v : Value} {B : List (Int × Bool)} (h : RowP w base v B) : Bas w v B := pairs_of_owns h
theorem RowP.chg {w w' : World} {S : Nat → Prop} {base : Nat} {v : Value} {B : List (Int × Bool)} (h : RowP w base v B) (c : Chg w w' S) (hS : ∀ i, v.ownBlock = some i → ¬ S i) : RowP w' base v B := ownsRow_chg h c hS
theorem RowP.new {w w' : World} {base : Nat} {v : Value} {B : List (Int × Bool)} (h : RowP w base v B) (c : New w w') : RowP w' base v B := ownsRow_chg h c (by simp)
theorem RowP.slice {w : World} {base : Nat} {v : Value} {B : List (Int × Bool)} (h : RowP w base v B) : ∃ ao cap, v = .slice ao B.length cap := by obtain ⟨ao, cap, e, _⟩ := h.bas; exact ⟨ao, cap, e⟩
theorem RowP.nil (w : World) (base : Nat) : RowP w base (.slice none 0 0) [] := World.ownsRow_nil _ _ _ _
theorem pcs_last {α : Type} (f g : α → Value) (B : List α) (p : α) : pcs f g (B ++ [p]) = pcs f g B ++ [f p, g p] := by unfold pcs; rw [List.flatMap_append]; simp
/-- rows whose first ballots differ lie apart -/
theorem RowP.apart {w : World} {base base' : Nat} {v v' : Value} {A B : List (Int × Bool)} (h : RowP w base v A) (h' : RowP w base' v' B) {x y : Int} {c : Bool} (hA : A[0]? = some (x, c)) (hB : B[0]? = some (y, !c)) (g : Nat) (e : v.ownBlock = some g) : v'.ownBlock ≠ some g := by
  intro e'
  obtain ⟨hAl, hAe⟩ := List.getElem?_eq_some_iff.1 hA
  obtain ⟨hBl, hBe⟩ := List.getElem?_eq_some_iff.1 hB
  obtain ⟨e1, e2⟩ := pcs_get (fun p : Int × Bool => Value.int .u64 p.1) (fun p => Value.bool p.2) A 0
  obtain ⟨e3, e4⟩ := pcs_get (fun p : Int × Bool => Value.int .u64 p.1) (fun p => Value.bool p.2) B 0
  rw [hA] at e2
  rw [hB] at e4
  rcases h.2 with ⟨rfl, _⟩ | ⟨g1, cap, cur, rfl, _⟩
  · cases e
  rcases h'.2 with ⟨rfl, _⟩ | ⟨g2, cap', cur', rfl, _⟩
  · cases e'
  have c1 := World.ownsRow.cells h (g := g) e _ _ e2
  have c2 := World.ownsRow.cells h' (g := g) e' _ _ e4
  rw [c1] at c2
  cases c <;> cases c2
section
variable {w : World} {ops : Array Oper} {rest : List Oper} {o : Oper} {a : Act} {Q : Exit → Act → World → Prop}
/-- one more ballot -/
theorem op_ballot (hg : o.guard = none) (s x : Operand) (hop : o.op = Op.call { callee := Callee.builtin Builtin.append, args := #[s, x], argTypes := #[36, 36] }) (base : Nat) (v : Value) (B : List (Int × Bool)) (hs : a.eval s = v) (hown : RowP w base v B)
    (nb : Nat) (k : Int) (c : Bool) (hx : a.eval x = .slice (some ⟨nb, 0, none⟩) 1 1) (hc : w.heap[nb]? = some (.cells #[.int .u64 k, .bool c] 41 (0, 0))) (hn : B.length ≤ 1000) (hbase : base ≤ w.heap.size)
    (hK : ∀ v' w', RowP w' base v' (B ++ [(k, c)]) → Chg w w' (fun i => v.ownBlock = some i) → wpList Try.prog ops Q rest (a.put o.dst v') w') : wpList Try.prog ops Q (o :: rest) a w := by
  refine op_appends2 hg s x hop st36 base B.length v _ hs hown ⟨nb, 0, none⟩ 1 1 [.int .u64 k, .bool c] hx rfl ?_ ?_ (by omega) hbase (fun v' w' r1 r2 => hK v' w' ?_ r2)
  · intro j u hu
    have e2 : (⟨nb, 0, none⟩ : Addr).add j = ⟨nb, j, none⟩ := by unfold Addr.add; split <;> simp_all
    rw [e2]
    refine cell_of_block hc ?_
    simpa using hu
  · intro u hu
    simp only [List.mem_cons, List.not_mem_nil, or_false] at hu
    rcases hu with rfl | rfl <;> rfl
  · unfold RowP
    rw [pcs_last, List.length_append]
    exact r1
end
theorem setB_zero {b : Nat → Bool} {ids : List Int} {x : Int} (h : ids[0]? = some x) (i : Nat) (hi : 0 < i) : (setB b (ids.take i))[0]? = some (x, b 0) := by
  unfold setB
  rw [List.getElem?_map, List.getElem?_zipIdx, List.getElem?_take, if_pos hi, h]
  simp
end Go.Proofs.Ytcgccoigjcdjeaa
namespace Go.Proofs.Ytcgccoigjcdjeaa
open Go.RowKit Go.Sort

section
variable {w : World} {ops : Array Oper} {rest : List Oper} {o : Oper} {a : Act} {Q : Exit → Act → World → Prop}
theorem run_append_nil22 (ty : TypeId) {base n : Nat} {v : Value} {xs : List Value} (hown : w.ownsRow base 28 1 v n xs) (c : Nat) : (Builtin.append_ #[22, 22] ty #[v, .slice none 0 c]).run Try.prog w = .ok v w := by
  obtain ⟨i, h1', h2, h3, h4, h5, h6⟩ := st22.ex
  rcases hown.2 with ⟨rfl, rfl⟩ | ⟨g, cap, cur, rfl, _, _, hnc, _⟩
  · simp [Builtin.append_, run_underlying h1', sizeOf, typeInfo, h2, Builtin.lenOf, Builtin.firstCells]
  · simp [Builtin.append_, run_underlying h1', sizeOf, typeInfo, h2, Builtin.lenOf, Builtin.firstCells, hnc, storeCells]
/-- 's = append(s, l...)', whatever slice l is -/
theorem op_append_us (hg : o.guard = none) (s x : Operand) (hop : o.op = Op.call { callee := Callee.builtin Builtin.append, args := #[s, x], argTypes := #[22, 22] }) (base n : Nat) (v : Value) (xs : List Value) (hs : a.eval s = v) (hown : w.ownsRow base 28 1 v n xs)
    (u : Value) (l : List Int) (hx : a.eval x = u) (hu : Us w u l) (hn : n + l.length ≤ 2000000) (hbase : base ≤ w.heap.size)
    (hK : ∀ v' w', w'.ownsRow base 28 1 v' (n + l.length) (xs ++ l.map (Value.int .u64)) → Chg w w' (fun i => v.ownBlock = some i) → wpList Try.prog ops Q rest (a.put o.dst v') w') : wpList Try.prog ops Q (o :: rest) a w := by
  obtain ⟨ao, cap, rfl, hc⟩ := hu
  cases ao with
  | none =>
    have hl : l = [] := by
      cases l with
      | nil => rfl
      | cons y l => obtain ⟨b, off, e, _⟩ := hc 0 (by simp); cases e
    subst hl
    refine Lib.wpList_append_run w hg s x 22 22 hop v (.slice none 0 cap) hs hx v w (run_append_nil22 _ hown cap) (hK v w ?_ (Chg.refl _ _))
    simpa using hown
  | some ad =>
    refine op_appends hg s x hop st22 base n v xs hs hown ad l.length cap (l.map (Value.int .u64)) hx (by simp) ?_ (by intro u hu; obtain ⟨y, _, rfl⟩ := List.mem_map.1 hu; rfl) hn hbase hK
    intro j u hu
    have hj : j < l.length := by have := (List.getElem?_eq_some_iff.1 hu).1; simpa using this
    obtain ⟨b, off, e, h1⟩ := hc j hj
    cases e
    rw [List.getElem?_map, List.getElem?_eq_getElem hj] at hu
    simp only [Option.map_some, Option.some.injEq] at hu
    subst hu
    have e2 : (⟨b, off, none⟩ : Addr).add j = ⟨b, off + j, none⟩ := by unfold Addr.add; split <;> simp_all
    rw [e2]
    exact h1
end

set_option maxRecDepth 100000 in
set_option maxHeartbeats 1600000 in
theorem grow58_any (n : Nat) (w : World) (h0 : 0 < n) (hn : n ≤ 1000000) :
    Calls Try.prog 58 #[.slice none 0 0, .int .i64 n] w fun e w' => ∃ v, e = .returned v ∧ w'.ownsRow w.heap.size 28 1 v 0 [] ∧ New w w' := by
  obtain ⟨i, h1', h2, h3, h4, h5, h6⟩ := st22.ex
  have hr : ∀ ty, (Builtin.append_ #[22, 3] ty #[.slice none 0 0, .int .i64 n]).run Try.prog w = .ok (.slice (some ⟨w.heap.size, 0, none⟩) n (grownCap w n 0 28)) (w.drew.alloc (.cells (Builtin.zeroCells (Value.int .u64 0).cells n ++ Builtin.zeroCells (Value.int .u64 0).cells (grownCap w n 0 28 - n)) 28)) :=
    fun ty => Lib.run_append_nil_zeros w 22 3 ty 28 i (.int .u64 0) .i64 .i64 h1' Try.underlying3 h2 h3 n h0 (by omega) (by omega) (by rw [h5]; omega)
  have hge : n ≤ grownCap w n 0 28 := grownCap_ge w n 0 28
  have hle := grownCap_le_maxLen w n 0 28 (by unfold maxLen; omega)
  have hz : (Builtin.zeroCells (Value.int .u64 0).cells n ++ Builtin.zeroCells (Value.int .u64 0).cells (grownCap w n 0 28 - n)).size = grownCap w n 0 28 * 1 := by
    rw [Array.size_append, size_zeroCells, size_zeroCells]
    simp [Value.cells]; omega
  obtain ⟨zc, hzc⟩ : ∃ zc, zc = (Builtin.zeroCells (Value.int .u64 0).cells n ++ Builtin.zeroCells (Value.int .u64 0).cells (grownCap w n 0 28 - n)) := ⟨_, rfl⟩
  rw [← hzc] at hr hz
  obtain ⟨G, hG⟩ : ∃ G, G = grownCap w n 0 28 := ⟨_, rfl⟩
  rw [← hG] at hr hge hle hz
  have HZ := Lib.hid hz; have HLE := Lib.hid hle
  have hG63 : G ≤ 9223372036854775807 := by unfold maxLen at hle; omega
  clear hzc hG hz hle
  have h2 : decide ((n : Int) < 0) = false := by simp
  have h3 : decide ((0 : Int) < (n : Int)) = true := by simpa using h0
  go_enter Try.func58, Try.ntmps58
  go_wp2_with (first
    | (at_builtin; refine Lib.wpList_append_run _ rfl _ _ _ _ rfl _ _ rfl rfl _ _ (hr _) ?_)
    | fail)
  refine bodyPost_ret (results_tmp rfl _ _ _) rfl ⟨_, rfl, ?_, (Chg.alloc _ _ _).then (Chg.drew _ _)⟩
  exact ownsRow_chg (World.ownsRow_made w zc G (Nat.le_refl _) HLE.out HZ.out) (Chg.drew _ (fun _ => False)) (by simp)

/-- slices of numbers, in a slice that is read -/
def Sls (w : World) (v : Value) (ls : List (List Int)) : Prop :=
  ∃ g cap, v = .slice (some ⟨g, 0, none⟩) ls.length cap ∧ ∀ i (hi : i < ls.length), ∃ u, w.cell? ⟨g, i, none⟩ = some u ∧ Us w u (ls[i]'hi)
theorem Sls.new {w w' : World} {v : Value} {ls : List (List Int)} (h : Sls w v ls) (c : New w w') : Sls w' v ls := by
  obtain ⟨g, cap, rfl, h⟩ := h
  exact ⟨g, cap, rfl, fun i hi => by obtain ⟨u, h1, h2⟩ := h i hi; exact ⟨u, c.has h1, h2.new c⟩⟩
theorem flat_take (ls : List (List Int)) (i : Nat) (h : i < ls.length) : (ls.take (i + 1)).flatten = (ls.take i).flatten ++ ls[i] := by
  rw [List.take_succ_eq_append_getElem h, List.flatten_append]; simp
theorem flat_le (ls : List (List Int)) (i : Nat) : ((ls.take i).flatten).length ≤ ls.flatten.length := by
  have e : ls = ls.take i ++ ls.drop i := (List.take_append_drop _ _).symm
  have h : ls.flatten.length = (ls.take i).flatten.length + (ls.drop i).flatten.length := by
    rw [← List.length_append, ← List.flatten_append, ← e]
  omega
theorem ownsRow_slice {w : World} {base e size : Nat} {v : Value} {n : Nat} {xs : List Value} (h : w.ownsRow base e size v n xs) : ∃ ao cap, v = .slice ao n cap := by
  rcases h.2 with ⟨rfl, rfl⟩ | ⟨g, cap, cur, rfl, _⟩
  · exact ⟨_, _, rfl⟩
  · exact ⟨_, _, rfl⟩
def flen (ls : List (List Int)) (i : Nat) : Nat := ((ls.take i).flatten).length
def CatTo (w : World) (base : Nat) (v : Value) (ls : List (List Int)) (i : Nat) : Prop := w.ownsRow base 28 1 v ((ls.take i).flatten).length (((ls.take i).flatten).map (Value.int .u64))
set_option maxRecDepth 100000 in
set_option maxHeartbeats 1600000 in
theorem concat29_any (v : Value) (ls : List (List Int)) (w : World) (h : Sls w v ls) (hp : 0 < ls.flatten.length) (hn : ls.flatten.length ≤ 1000000) (hm : ls.length ≤ 1000) :
    Calls Try.prog 29 #[v] w fun e w' => ∃ v', e = .returned v' ∧ w'.ownsRow w.heap.size 28 1 v' ls.flatten.length (ls.flatten.map (Value.int .u64)) ∧ New w w' := by
  obtain ⟨g, cap, rfl, h⟩ := h
  have H := Lib.hid h; have HP := Lib.hid hp; have HN := Lib.hid hn
  have hfl := Lib.hid (flat_le ls)
  clear h hp hn
  go_enter Try.func29, Try.ntmps29
  go_wp2_with fail
  go_loopg [3, 11] ls.length (fun n s j wr => ∃ i : Nat, i ≤ ls.length ∧ ls.length ≤ n + i ∧ j = .int .i64 i ∧ s = .int .i64 (flen ls i : Nat) ∧ w = wr)
  case atStart => exact ⟨0, by omega, by omega, rfl, rfl, rfl⟩
  case round =>
    obtain ⟨i, hi, hg, rfl, rfl, rfl⟩ := hrel
    have HG := Lib.hid hg
    clear hg
    by_cases hlt : i < ls.length
    · obtain ⟨u, hc, hu⟩ := H.out i hlt
      obtain ⟨ao, cu, rfl, _⟩ := hu
      have ht := flat_take ls i hlt
      have h1 := hfl.out (i + 1)
      have hN : ls.flatten.length ≤ 1000000 := HN.out
      obtain ⟨l, hl⟩ : ∃ l, l = ls[i] := ⟨_, rfl⟩
      rw [← hl] at hc ht
      rw [ht, List.length_append] at h1
      obtain ⟨s0, hs0⟩ : ∃ s0, s0 = flen ls i := ⟨_, rfl⟩
      have hs1 : flen ls (i + 1) = s0 + l.length := by unfold flen; rw [ht, List.length_append, hs0]; rfl
      have h1 : s0 + l.length ≤ ls.flatten.length := by rw [hs0]; exact h1
      have h1 : s0 + l.length ≤ 1000000 := by omega
      rw [← hs0]
      have HS1 := Lib.hid hs1
      clear hl ht hs0 hs1 hN
      have hd : decide ((s0 : Int) + (l.length : Int) < 0) = false := by simp; omega
      go_wp2_with fail
      go_roundg (gk - 1)
      case measure => have := HG.out; omega
      case rel => exact ⟨i + 1, by omega, by have := HG.out; omega, by go_num, by rw [HS1.out]; go_num, rfl⟩
    · have hil : i = ls.length := by omega
      subst hil
      obtain ⟨n0, hn0⟩ : ∃ n0, n0 = flen ls ls.length := ⟨_, rfl⟩
      have hn1 : n0 = ls.flatten.length := by rw [hn0]; unfold flen; rw [List.take_length]
      have hp0 : 0 < n0 := by rw [hn1]; exact HP.out
      have hN : n0 ≤ 1000000 := by rw [hn1]; exact HN.out
      rw [← hn0]
      clear hn0 hn1
      go_wp2_with fail
      refine (grow58_any n0 _ hp0 hN).mono ?_
      rintro e w1 ⟨v1, rfl, ho, n1⟩
      have HO := Lib.hid ho; have N1 := Lib.hid n1
      have HSZ := Lib.hid n1.size
      clear ho n1 hi HG
      go_wp2_with fail
      go_loopg [6, 27] ls.length (fun n s j wr => ∃ i : Nat, i ≤ ls.length ∧ ls.length ≤ n + i ∧ j = .int .i64 i ∧ CatTo wr w.heap.size s ls i ∧ New w wr)
      case atStart => exact ⟨0, by omega, by omega, rfl, HO.out, N1.out⟩
      case round =>
        obtain ⟨i, hi, hg, rfl, ho, hnw⟩ := hrel
        obtain ⟨ao6, cap6, rfl⟩ := ownsRow_slice ho
        obtain ⟨n6, hn6⟩ : ∃ n6, n6 = ((ls.take i).flatten).length := ⟨_, rfl⟩
        rw [← hn6]
        rw [← hn6] at ho
        have HN6 := Lib.hid hn6; clear hn6
        have HG := Lib.hid hg; have HW := Lib.hid ho; have HNW := Lib.hid hnw
        clear hg ho hnw
        by_cases hlt : i < ls.length
        · obtain ⟨u, hc, hu⟩ := H.out i hlt
          have ht := flat_take ls i hlt
          have h1 := hfl.out (i + 1)
          obtain ⟨l, hl⟩ : ∃ l, l = ls[i] := ⟨_, rfl⟩
          rw [← hl] at ht hu
          obtain ⟨aou, capu, rfl, hu2⟩ := hu
          have HU := Lib.hid (Us.new (w := w) ⟨aou, capu, rfl, hu2⟩ HNW.out)
          have hc' := HNW.out.has hc
          rw [ht, List.length_append, ← HN6.out] at h1
          have HO := Lib.hid (show wr.ownsRow w.heap.size 28 1 (.slice ao6 n6 cap6) n6 (((ls.take i).flatten).map (Value.int .u64)) by have h := HW.out; unfold CatTo at h; rw [← HN6.out] at h; exact h)
          have HT := Lib.hid ht; have H1 := Lib.hid h1
          clear hc hl hu2 ht h1
          go_wp2_with (first
            | (at_builtin; refine op_append_us rfl (.tmp 31) (.tmp 32) rfl w.heap.size n6 (.slice ao6 n6 cap6) _ rfl HO.out (.slice aou l.length capu) l rfl HU.out (by have := H1.out; have := HN.out; omega) HNW.out.size ?_; intro v' w3 hown hch)
            | fail)
          go_roundg (gk - 1)
          case measure => have := HG.out; omega
          case rel =>
            refine ⟨i + 1, by omega, by have := HG.out; omega, by go_num, ?_, HNW.out.trans hch (fun _ _ h => h) (fun j hj e => by have := (HO.out.lt _ e).1; omega)⟩
            unfold CatTo
            rw [HT.out, List.length_append, ← HN6.out, List.map_append]
            exact hown
        · have hil : i = ls.length := by omega
          subst hil
          have ho := HW.out
          unfold CatTo at ho
          rw [List.take_length] at ho
          have HO2 := Lib.hid ho
          clear ho
          go_wp2_with fail
          go_ret
          exact ⟨_, rfl, HO2.out, HNW.out⟩
end Go.Proofs.Ytcgccoigjcdjeaa
