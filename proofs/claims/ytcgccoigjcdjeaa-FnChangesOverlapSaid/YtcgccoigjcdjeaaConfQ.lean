/- confchange.toConfChangeSingle. Condition: at most 100000 members a list. -/
import Derived.Test.YtcgccoigjcdjeaaOwn
namespace Go.Proofs.Ytcgccoigjcdjeaa
open Go.RowKit

abbrev kin (c : Int) (l : List Int) : List (Int × Int) := l.map fun x => (c, x)
theorem kin_take (c : Int) (l : List Int) (i : Nat) (h : i < l.length) : kin c (l.take (i + 1)) = kin c (l.take i) ++ [(c, l[i])] := by
  unfold kin
  rw [List.take_succ_eq_append_getElem h, List.map_append]; rfl
/-- a ConfState -/
structure CsV (w : World) (cb : Nat) (V VO L N : List Int) (al : Bool) : Prop where
  ex : ∃ vV vL vO vN, w.heap[cb]? = some (.cells #[vV, vL, vO, vN, .bool al] 99 (0, 0)) ∧ Us w vV V ∧ Us w vO VO ∧ Us w vL L ∧ Us w vN N
def outL (VO : List Int) : List (Int × Int) := kin 0 VO
def inL (V VO L N : List Int) : List (Int × Int) := kin 1 VO ++ kin 0 V ++ kin 3 L ++ kin 3 N

set_option maxRecDepth 100000 in
set_option maxHeartbeats 1600000 in
theorem toconf_any (cb : Nat) (V VO L N : List Int) (al : Bool) (w : World) (h : CsV w cb V VO L N al) (hn : V.length + VO.length + L.length + N.length ≤ 100000) :
    Calls Try.prog 70 #[.pointer (some ⟨cb, 0, none⟩)] w fun e w' => ∃ ov iv, e = .returned (.tuple #[ov, iv]) ∧ Cr w' w.heap.size ov (outL VO) ∧ Cr w' w.heap.size iv (inL V VO L N) ∧ New w w' := by
  obtain ⟨vV, vL, vO, vN, hb, uV, uO, uL, uN⟩ := h.ex
  obtain ⟨aV, cV, rfl, hV⟩ := uV
  obtain ⟨aO, cO, rfl, hO⟩ := uO
  obtain ⟨aL, cL, rfl, hL⟩ := uL
  obtain ⟨aN, cN, rfl, hN⟩ := uN
  have HB := Lib.hid hb; have HV := Lib.hid hV; have HO := Lib.hid hO; have HL := Lib.hid hL; have HN := Lib.hid hN; have HS := Lib.hid hn
  clear hb hV hO hL hN hn h
  go_enter Try.func70, Try.ntmps70
  have q : w.cell? ⟨cb, 2, none⟩ = some (.slice aO VO.length cO) := cell_of_block HB.out rfl
  go_wp2_with fail
  clear q
  go_loopg [2, 5, 19] VO.length (fun n v _ j wr => ∃ i : Nat, i ≤ VO.length ∧ VO.length ≤ n + i ∧ j = .int .i64 i ∧ Cr wr w.heap.size v (kin 0 (VO.take i)) ∧ New w wr)
  case atStart => exact ⟨0, by omega, by omega, rfl, Cr.nil _ _, Chg.refl _ _⟩
  case round =>
    obtain ⟨i, hi, hg, rfl, hcr, hnew⟩ := hrel
    have HG := Lib.hid hg; have HCR := Lib.hid hcr; have HNW := Lib.hid hnew
    clear hg hcr hnew
    by_cases hlt : i < VO.length
    · obtain ⟨b, off, hao, hc⟩ := HO.out i hlt
      subst hao
      have hblt := World.block_lt_of_cell? w _ hc
      have hc' : wr.cell? ⟨b, off + i, none⟩ = some (.int .u64 VO[i]) := (HNW.out.cell hblt (by simp)).trans hc
      obtain ⟨ps, h1, h2, h3⟩ := HCR.out
      have HP1 := Lib.hid h1; have HP2 := Lib.hid h2; have HP3 := Lib.hid h3; have HS2 := Lib.hid HNW.out.size
      clear h1 h2 h3 hc hblt
      have hsmall : V.length + VO.length + L.length + N.length ≤ 100000 := HS.out
      go_wp2_with (first
        | (at_builtin; refine op_append1 rfl (.tmp 23) (.tmp 27) rfl st100 w.heap.size (kin 0 (VO.take i)).length u2 _ rfl (ownsRow_chg HP2.out ((Chg.alloc wr _ _).then (Chg.alloc _ _ (fun _ => False))) (by simp)) (wr.heap.size + 1) (.pointer (some ⟨wr.heap.size, 0, none⟩)) rfl (cell_of_block (block_new1 _ _ _) rfl) rfl (by simp; omega) (by have h1 := HS2.out; simp; omega) ?_; intro v' wn hown hch)
        | fail)
      go_roundg (gk - 1)
      case measure => have := HG.out; omega
      case rel =>
        refine ⟨i + 1, by omega, by have := HG.out; omega, by go_num, ?_, ?_⟩
        · have h2' := ownsRow_chg HP2.out ((Chg.alloc wr (.cells #[.int .i32 0, .int .u64 VO[i]] 104) _).then (Chg.alloc _ (.cells #[.pointer (some ⟨wr.heap.size, 0, none⟩)] 101) (fun _ => False))) (by simp)
          have hp := Cr.push (x := (0, VO[i])) HP1.out h2' (fun i p x e1 e2 => ⟨(HP3.out i p x e1 e2).1, block_alloc (block_alloc (HP3.out i p x e1 e2).2 _) _⟩) (nb := wr.heap.size) HS2.out (block_alloc (block_new _ _) _) hown hch
          rw [kin_take 0 VO i hlt]
          simpa using hp
        · have hown0 := HP2.out
          exact ((HNW.out.then (Chg.alloc _ _ _)).then (Chg.alloc _ _ _)).trans hch (fun _ _ h => h) (fun i hi e => by have := (hown0.lt i e).1; omega)
    · have hil : i = VO.length := by omega
      subst hil
      have hcr : Cr wr w.heap.size u2 (kin 0 VO) := by have := HCR.out; simpa only [List.take_length] using this
      have HCO := Lib.hid hcr; have HNW1 := HNW
      clear hcr HCR HNW HG hlt hi
      obtain ⟨w1, rfl⟩ : ∃ x : World, x = wr := ⟨_, rfl⟩
      obtain ⟨ov, rfl⟩ : ∃ x : Value, x = u2 := ⟨_, rfl⟩
      have q : w1.cell? ⟨cb, 2, none⟩ = some (.slice aO VO.length cO) := cell_of_block (HNW1.out.keeps HB.out (by simp)) rfl
      go_wp2_with fail
      clear q
      go_loopg [3, 7, 35] VO.length (fun n v _ j wr => ∃ i : Nat, i ≤ VO.length ∧ VO.length ≤ n + i ∧ j = .int .i64 i ∧ Cr wr w1.heap.size v (kin 1 (VO.take i)) ∧ New w1 wr)
      case atStart => exact ⟨0, by omega, by omega, rfl, Cr.nil _ _, Chg.refl _ _⟩
      case round =>
        obtain ⟨i, hi, hg, rfl, hcr, hnew⟩ := hrel
        have HG := Lib.hid hg; have HCR := Lib.hid hcr; have HNW := Lib.hid hnew
        clear hg hcr hnew
        by_cases hlt : i < VO.length
        · obtain ⟨b, off, hao, hc⟩ := HO.out i hlt
          subst hao
          have hblt := World.block_lt_of_cell? w _ hc
          have hc' : wr.cell? ⟨b, off + i, none⟩ = some (.int .u64 VO[i]) := ((HNW1.out.then HNW.out).cell hblt (by simp)).trans hc
          obtain ⟨ps, h1, h2, h3⟩ := HCR.out
          have HP1 := Lib.hid h1; have HP2 := Lib.hid h2; have HP3 := Lib.hid h3; have HS2 := Lib.hid HNW.out.size
          clear h1 h2 h3 hc hblt
          have hsmall : V.length + VO.length + L.length + N.length ≤ 100000 := HS.out
          go_wp2_with (first
            | (at_builtin; refine op_append1 rfl (.tmp 39) (.tmp 43) rfl st100 w1.heap.size (kin 1 (VO.take i)).length u3 _ rfl (ownsRow_chg HP2.out ((Chg.alloc wr _ _).then (Chg.alloc _ _ (fun _ => False))) (by simp)) (wr.heap.size + 1) (.pointer (some ⟨wr.heap.size, 0, none⟩)) rfl (cell_of_block (block_new1 _ _ _) rfl) rfl (by simp; omega) (by have h1 := HS2.out; simp; omega) ?_; intro v' wn hown hch)
            | fail)
          go_roundg (gk - 1)
          case measure => have := HG.out; omega
          case rel =>
            refine ⟨i + 1, by omega, by have := HG.out; omega, by go_num, ?_, ?_⟩
            · have h2' := ownsRow_chg HP2.out ((Chg.alloc wr (.cells #[.int .i32 1, .int .u64 VO[i]] 104) _).then (Chg.alloc _ (.cells #[.pointer (some ⟨wr.heap.size, 0, none⟩)] 101) (fun _ => False))) (by simp)
              have hp := Cr.push (x := (1, VO[i])) HP1.out h2' (fun i p x e1 e2 => ⟨(HP3.out i p x e1 e2).1, block_alloc (block_alloc (HP3.out i p x e1 e2).2 _) _⟩) (nb := wr.heap.size) HS2.out (block_alloc (block_new _ _) _) hown hch
              rw [kin_take 1 VO i hlt]
              simpa using hp
            · have hown0 := HP2.out
              exact ((HNW.out.then (Chg.alloc _ _ _)).then (Chg.alloc _ _ _)).trans hch (fun _ _ h => h) (fun i hi e => by have := (hown0.lt i e).1; omega)
        · have hil : i = VO.length := by omega
          subst hil
          have hcr : Cr wr w1.heap.size u3 (kin 1 VO) := by have := HCR.out; simpa only [List.take_length] using this
          clear HG hlt hi HCR
          have HCP := Lib.hid hcr; have HNWP := HNW
          clear hcr HNW
          obtain ⟨wp, rfl⟩ : ∃ x : World, x = wr := ⟨_, rfl⟩
          obtain ⟨iv, rfl⟩ : ∃ x : Value, x = u3 := ⟨_, rfl⟩
          have q : wp.cell? ⟨cb, 0, none⟩ = some (.slice aV V.length cV) := cell_of_block ((HNW1.out.then HNWP.out).keeps HB.out (by simp)) rfl
          go_wp2_with fail
          clear q
          go_loopg [3, 9, 51] V.length (fun n v _ j wr => ∃ i : Nat, i ≤ V.length ∧ V.length ≤ n + i ∧ j = .int .i64 i ∧ Cr wr w1.heap.size v (kin 1 VO ++ kin 0 (V.take i)) ∧ New w1 wr)
          case atStart => exact ⟨0, by omega, by omega, rfl, by simpa using HCP.out, HNWP.out⟩
          case round =>
            obtain ⟨i, hi, hg, rfl, hcr, hnew⟩ := hrel
            have HG := Lib.hid hg; have HCR := Lib.hid hcr; have HNW := Lib.hid hnew
            clear hg hcr hnew
            by_cases hlt : i < V.length
            · obtain ⟨b, off, hao, hc⟩ := HV.out i hlt
              subst hao
              have hblt := World.block_lt_of_cell? w _ hc
              have hc' : wr.cell? ⟨b, off + i, none⟩ = some (.int .u64 V[i]) := ((HNW1.out.then HNW.out).cell hblt (by simp)).trans hc
              obtain ⟨ps, h1, h2, h3⟩ := HCR.out
              have HP1 := Lib.hid h1; have HP2 := Lib.hid h2; have HP3 := Lib.hid h3; have HS2 := Lib.hid HNW.out.size
              clear h1 h2 h3 hc hblt
              have hsmall : V.length + VO.length + L.length + N.length ≤ 100000 := HS.out
              go_wp2_with (first
                | (at_builtin; refine op_append1 rfl (.tmp 55) (.tmp 59) rfl st100 w1.heap.size (kin 1 VO ++ kin 0 (V.take i)).length u3 _ rfl (ownsRow_chg HP2.out ((Chg.alloc wr _ _).then (Chg.alloc _ _ (fun _ => False))) (by simp)) (wr.heap.size + 1) (.pointer (some ⟨wr.heap.size, 0, none⟩)) rfl (cell_of_block (block_new1 _ _ _) rfl) rfl (by simp; omega) (by have h1 := HS2.out; simp; omega) ?_; intro v' wn hown hch)
                | fail)
              go_roundg (gk - 1)
              case measure => have := HG.out; omega
              case rel =>
                refine ⟨i + 1, by omega, by have := HG.out; omega, by go_num, ?_, ?_⟩
                · have h2' := ownsRow_chg HP2.out ((Chg.alloc wr (.cells #[.int .i32 0, .int .u64 V[i]] 104) _).then (Chg.alloc _ (.cells #[.pointer (some ⟨wr.heap.size, 0, none⟩)] 101) (fun _ => False))) (by simp)
                  have hp := Cr.push (x := (0, V[i])) HP1.out h2' (fun i p x e1 e2 => ⟨(HP3.out i p x e1 e2).1, block_alloc (block_alloc (HP3.out i p x e1 e2).2 _) _⟩) (nb := wr.heap.size) HS2.out (block_alloc (block_new _ _) _) hown hch
                  rw [kin_take 0 V i hlt]
                  simpa using hp
                · have hown0 := HP2.out
                  exact ((HNW.out.then (Chg.alloc _ _ _)).then (Chg.alloc _ _ _)).trans hch (fun _ _ h => h) (fun i hi e => by have := (hown0.lt i e).1; omega)
            · have hil : i = V.length := by omega
              subst hil
              have hcr : Cr wr w1.heap.size u3 (kin 1 VO ++ kin 0 V) := by have := HCR.out; simpa only [List.take_length] using this
              clear HG hlt hi HCR HCP HNWP
              have HCP := Lib.hid hcr; have HNWP := HNW
              clear hcr HNW
              obtain ⟨wp, rfl⟩ : ∃ x : World, x = wr := ⟨_, rfl⟩
              obtain ⟨iv, rfl⟩ : ∃ x : Value, x = u3 := ⟨_, rfl⟩
              have q : wp.cell? ⟨cb, 1, none⟩ = some (.slice aL L.length cL) := cell_of_block ((HNW1.out.then HNWP.out).keeps HB.out (by simp)) rfl
              go_wp2_with fail
              clear q
              go_loopg [3, 11, 67] L.length (fun n v _ j wr => ∃ i : Nat, i ≤ L.length ∧ L.length ≤ n + i ∧ j = .int .i64 i ∧ Cr wr w1.heap.size v (kin 1 VO ++ kin 0 V ++ kin 3 (L.take i)) ∧ New w1 wr)
              case atStart => exact ⟨0, by omega, by omega, rfl, by simpa using HCP.out, HNWP.out⟩
              case round =>
                obtain ⟨i, hi, hg, rfl, hcr, hnew⟩ := hrel
                have HG := Lib.hid hg; have HCR := Lib.hid hcr; have HNW := Lib.hid hnew
                clear hg hcr hnew
                by_cases hlt : i < L.length
                · obtain ⟨b, off, hao, hc⟩ := HL.out i hlt
                  subst hao
                  have hblt := World.block_lt_of_cell? w _ hc
                  have hc' : wr.cell? ⟨b, off + i, none⟩ = some (.int .u64 L[i]) := ((HNW1.out.then HNW.out).cell hblt (by simp)).trans hc
                  obtain ⟨ps, h1, h2, h3⟩ := HCR.out
                  have HP1 := Lib.hid h1; have HP2 := Lib.hid h2; have HP3 := Lib.hid h3; have HS2 := Lib.hid HNW.out.size
                  clear h1 h2 h3 hc hblt
                  have hsmall : V.length + VO.length + L.length + N.length ≤ 100000 := HS.out
                  go_wp2_with (first
                    | (at_builtin; refine op_append1 rfl (.tmp 71) (.tmp 75) rfl st100 w1.heap.size (kin 1 VO ++ kin 0 V ++ kin 3 (L.take i)).length u3 _ rfl (ownsRow_chg HP2.out ((Chg.alloc wr _ _).then (Chg.alloc _ _ (fun _ => False))) (by simp)) (wr.heap.size + 1) (.pointer (some ⟨wr.heap.size, 0, none⟩)) rfl (cell_of_block (block_new1 _ _ _) rfl) rfl (by simp; omega) (by have h1 := HS2.out; simp; omega) ?_; intro v' wn hown hch)
                    | fail)
                  go_roundg (gk - 1)
                  case measure => have := HG.out; omega
                  case rel =>
                    refine ⟨i + 1, by omega, by have := HG.out; omega, by go_num, ?_, ?_⟩
                    · have h2' := ownsRow_chg HP2.out ((Chg.alloc wr (.cells #[.int .i32 3, .int .u64 L[i]] 104) _).then (Chg.alloc _ (.cells #[.pointer (some ⟨wr.heap.size, 0, none⟩)] 101) (fun _ => False))) (by simp)
                      have hp := Cr.push (x := (3, L[i])) HP1.out h2' (fun i p x e1 e2 => ⟨(HP3.out i p x e1 e2).1, block_alloc (block_alloc (HP3.out i p x e1 e2).2 _) _⟩) (nb := wr.heap.size) HS2.out (block_alloc (block_new _ _) _) hown hch
                      rw [kin_take 3 L i hlt]
                      simpa using hp
                    · have hown0 := HP2.out
                      exact ((HNW.out.then (Chg.alloc _ _ _)).then (Chg.alloc _ _ _)).trans hch (fun _ _ h => h) (fun i hi e => by have := (hown0.lt i e).1; omega)
                · have hil : i = L.length := by omega
                  subst hil
                  have hcr : Cr wr w1.heap.size u3 (kin 1 VO ++ kin 0 V ++ kin 3 L) := by have := HCR.out; simpa only [List.take_length] using this
                  clear HG hlt hi HCR HCP HNWP
                  have HCP := Lib.hid hcr; have HNWP := HNW
                  clear hcr HNW
                  obtain ⟨wp, rfl⟩ : ∃ x : World, x = wr := ⟨_, rfl⟩
                  obtain ⟨iv, rfl⟩ : ∃ x : Value, x = u3 := ⟨_, rfl⟩
                  have q : wp.cell? ⟨cb, 3, none⟩ = some (.slice aN N.length cN) := cell_of_block ((HNW1.out.then HNWP.out).keeps HB.out (by simp)) rfl
                  go_wp2_with fail
                  clear q
                  go_loopg [3, 13, 83] N.length (fun n v _ j wr => ∃ i : Nat, i ≤ N.length ∧ N.length ≤ n + i ∧ j = .int .i64 i ∧ Cr wr w1.heap.size v (kin 1 VO ++ kin 0 V ++ kin 3 L ++ kin 3 (N.take i)) ∧ New w1 wr)
                  case atStart => exact ⟨0, by omega, by omega, rfl, by simpa using HCP.out, HNWP.out⟩
                  case round =>
                    obtain ⟨i, hi, hg, rfl, hcr, hnew⟩ := hrel
                    have HG := Lib.hid hg; have HCR := Lib.hid hcr; have HNW := Lib.hid hnew
                    clear hg hcr hnew
                    by_cases hlt : i < N.length
                    · obtain ⟨b, off, hao, hc⟩ := HN.out i hlt
                      subst hao
                      have hblt := World.block_lt_of_cell? w _ hc
                      have hc' : wr.cell? ⟨b, off + i, none⟩ = some (.int .u64 N[i]) := ((HNW1.out.then HNW.out).cell hblt (by simp)).trans hc
                      obtain ⟨ps, h1, h2, h3⟩ := HCR.out
                      have HP1 := Lib.hid h1; have HP2 := Lib.hid h2; have HP3 := Lib.hid h3; have HS2 := Lib.hid HNW.out.size
                      clear h1 h2 h3 hc hblt
                      have hsmall : V.length + VO.length + L.length + N.length ≤ 100000 := HS.out
                      go_wp2_with (first
                        | (at_builtin; refine op_append1 rfl (.tmp 87) (.tmp 91) rfl st100 w1.heap.size (kin 1 VO ++ kin 0 V ++ kin 3 L ++ kin 3 (N.take i)).length u3 _ rfl (ownsRow_chg HP2.out ((Chg.alloc wr _ _).then (Chg.alloc _ _ (fun _ => False))) (by simp)) (wr.heap.size + 1) (.pointer (some ⟨wr.heap.size, 0, none⟩)) rfl (cell_of_block (block_new1 _ _ _) rfl) rfl (by simp; omega) (by have h1 := HS2.out; simp; omega) ?_; intro v' wn hown hch)
                        | fail)
                      go_roundg (gk - 1)
                      case measure => have := HG.out; omega
                      case rel =>
                        refine ⟨i + 1, by omega, by have := HG.out; omega, by go_num, ?_, ?_⟩
                        · have h2' := ownsRow_chg HP2.out ((Chg.alloc wr (.cells #[.int .i32 3, .int .u64 N[i]] 104) _).then (Chg.alloc _ (.cells #[.pointer (some ⟨wr.heap.size, 0, none⟩)] 101) (fun _ => False))) (by simp)
                          have hp := Cr.push (x := (3, N[i])) HP1.out h2' (fun i p x e1 e2 => ⟨(HP3.out i p x e1 e2).1, block_alloc (block_alloc (HP3.out i p x e1 e2).2 _) _⟩) (nb := wr.heap.size) HS2.out (block_alloc (block_new _ _) _) hown hch
                          rw [kin_take 3 N i hlt]
                          simpa using hp
                        · have hown0 := HP2.out
                          exact ((HNW.out.then (Chg.alloc _ _ _)).then (Chg.alloc _ _ _)).trans hch (fun _ _ h => h) (fun i hi e => by have := (hown0.lt i e).1; omega)
                    · have hil : i = N.length := by omega
                      subst hil
                      have hcr : Cr wr w1.heap.size u3 (kin 1 VO ++ kin 0 V ++ kin 3 L ++ kin 3 N) := by have := HCR.out; simpa only [List.take_length] using this
                      have HCP := Lib.hid hcr
                      clear hcr HCR HG hlt hi
                      go_wp2_with fail
                      go_ret2
                      exact ⟨_, _, rfl, HCO.out.new HNW.out, HCP.out.base HNW1.out.size, HNW1.out.then HNW.out⟩
end Go.Proofs.Ytcgccoigjcdjeaa
