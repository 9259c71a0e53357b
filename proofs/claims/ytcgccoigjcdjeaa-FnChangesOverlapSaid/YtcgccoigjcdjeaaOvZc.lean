/- Whatever the configuration, the way and the changes: laws.FnChangesOverlap returns true, and its arguments read behind the call as they read before. No condition. -/
import Derived.Test.YtcgccoigjcdjeaaChWm
import Derived.Test.YtcgccoigjcdjeaaOvZa
import Derived.Test.YtcgccoigjcdjeaaOvZb
import Derived.Test.YtcgccoigjcdjeaaVoWm
import Derived.Test.YtcgccoigjcdjeaaOpZ
import Derived.Test.YtcgccoigjcdjeaaQuZb
namespace Go.Proofs.Ytcgccoigjcdjeaa
open Go.RowKit Go.Sort

theorem pow_wrap (n : Nat) (h : n ≤ 8) : ∃ M : Nat, wrap64 (2 ^ n) = (M : Int) ∧ M ≤ 256 := by
  have h1 : ∀ n, n < 9 → wrap64 (2 ^ n) = ((2 ^ n : Nat) : Int) ∧ 2 ^ n ≤ 256 := by decide +kernel
  exact ⟨2 ^ n, h1 n (by omega)⟩
/-- who is in set i -/
def inSet (i : Nat) (k : Nat) : Bool := (bits BinOp.and IntKind.i64 ((i : Int) / 2 ^ k) 1 == 1)
theorem RowP.lt' {w : World} {base : Nat} {v : Value} {B : List (Int × Bool)} (h : RowP w base v B) (g : Nat) (e : v.ownBlock = some g) : base ≤ g ∧ g < w.heap.size := World.ownsRow.lt h g e
set_option linter.unusedSimpArgs false in
set_option maxRecDepth 100000 in
set_option maxHeartbeats 6400000 in
theorem ov_walk (hlive : LiveOk) (cv sv : Value) (V VO L N : List Int) (al : Bool) (way : Int) (l : List (Int × Int)) (w : World) (h : Cfv w cv V VO L N al) (hl : Chs w sv l) (hns : NilOk sv) (hl0 : ∀ x ∈ l, 0 ≤ x.2) (hlm : l.length ≤ maxLen) :
    Calls Try.prog 7 #[cv, .int .i64 way, sv] w (Held w) := by
  unfold maxLen at hlm
  obtain ⟨a, b, c, d, rfl, ⟨h0, m0⟩, ⟨h1, m1⟩, ⟨h2, m2⟩, ⟨h3, m3⟩⟩ := h
  have H0 := Lib.hid h0; have H1 := Lib.hid h1; have H2 := Lib.hid h2; have H3 := Lib.hid h3; have M0 := Lib.hid m0; have M1 := Lib.hid m1; have M2 := Lib.hid m2; have M3 := Lib.hid m3
  have HL := Lib.hid hl; have HNS := Lib.hid hns; have HL0 := Lib.hid hl0; have HLV := Lib.hid hlive
  obtain ⟨oa, ca, rfl, -⟩ := h0
  obtain ⟨ob, cb, rfl, -⟩ := h1
  obtain ⟨oc, cc, rfl, -⟩ := h2
  obtain ⟨od, cd, rfl, -⟩ := h3
  obtain ⟨ol, cl, rfl, -⟩ := hl
  have B0 := Lib.hid (block_new w (.cells #[.slice oa V.length ca, .slice ob VO.length cb, .slice oc L.length cc, .slice od N.length cd, .bool al] 44))
  have NA := Lib.hid (show New w (w.alloc (.cells #[.slice oa V.length ca, .slice ob VO.length cb, .slice oc L.length cc, .slice od N.length cd, .bool al] 44)) from Chg.alloc _ _ _)
  clear m0 m1 m2 m3 hns hl0 hlive
  have hfits : decide (V.length ≤ 2147483647 ∧ VO.length ≤ 2147483647 ∧ L.length ≤ 2147483647 ∧ N.length ≤ 2147483647) = true ∨ decide (V.length ≤ 2147483647 ∧ VO.length ≤ 2147483647 ∧ L.length ≤ 2147483647 ∧ N.length ≤ 2147483647) = false := by cases decide (V.length ≤ 2147483647 ∧ VO.length ≤ 2147483647 ∧ L.length ≤ 2147483647 ∧ N.length ≤ 2147483647) <;> simp
  have HFT := Lib.hid hfits; clear hfits
  go_enter Try.func7, Try.ntmps7
  go_wp2_with fail
  refine (fits23_any _ _ _ _ V VO L N al _ (H0.out.new NA.out) (H1.out.new NA.out) (H2.out.new NA.out) (H3.out.new NA.out)).mono ?_
  rcases HFT.out with hf | hf
  · have HFL := Lib.hid (of_decide_eq_true hf)
    rw [hf]
    clear hf HFT
    rintro e w1 ⟨rfl, p1⟩
    have B1 := Lib.hid (p1.keeps B0.out (by simp)); have NW1 := Lib.hid (NA.out.then p1)
    clear p1
    have q0 := cell_of_block (off := 0) B1.out rfl; have q1 := cell_of_block (off := 1) B1.out rfl; have q2 := cell_of_block (off := 2) B1.out rfl; have q3 := cell_of_block (off := 3) B1.out rfl; have q4 := cell_of_block (off := 4) B1.out rfl
    simp only [List.getElem_toArray, List.getElem_cons_zero, List.getElem_cons_succ] at q0 q1 q2 q3 q4
    by_cases hb : l.length ≤ 2147483647
    · have hbd : decide ((2147483647 : Int) < (l.length : Int)) = false := decide_eq_false (by omega)
      go_wp2_with fail
      refine (asked21_any _ _ _ _ _ V VO L N al way l _ (H0.out.new NW1.out) (H1.out.new NW1.out) (H2.out.new NW1.out) (H3.out.new NW1.out) (HL.out.new NW1.out) HFL.out.1 HFL.out.2.1 HFL.out.2.2.1 HFL.out.2.2.2 hb).mono ?_
      rintro e w2 ⟨⟨r, rfl, hr⟩, p2⟩
      have B2 := Lib.hid (p2.keeps B1.out (by simp)); have NW2 := Lib.hid (NW1.out.then p2); have HR := Lib.hid hr
      clear p2 q0 q1 q2 q3 q4 hr
      have q0 := cell_of_block (off := 0) B2.out rfl; have q1 := cell_of_block (off := 1) B2.out rfl; have q2 := cell_of_block (off := 2) B2.out rfl; have q3 := cell_of_block (off := 3) B2.out rfl; have q4 := cell_of_block (off := 4) B2.out rfl
      simp only [List.getElem_toArray, List.getElem_cons_zero, List.getElem_cons_succ] at q0 q1 q2 q3 q4
      cases r
      · clear HR
        go_wp2_with fail
        refine bodyPost_ret (results_tmp rfl _ _ _) rfl ⟨rfl, NW2.out⟩
      · have HA := Lib.hid (HR.out.1 rfl)
        clear HR hbd
        by_cases hV : V = []
        · have hVl : V.length = 0 := by rw [hV]; rfl
          have HV := Lib.hid hV
          clear hV
          go_wp2_with fail
          all_goals first | (rename_i hq; exact absurd HV.out hq) | skip
          refine bodyPost_ret (results_tmp rfl _ _ _) rfl ⟨rfl, NW2.out⟩
        have hVl : 0 < V.length := List.length_pos_iff.2 hV
        have HV := Lib.hid hV
        clear hV
        go_wp2_with fail
        all_goals first | (rename_i hq; exact absurd hq HV.out) | skip
        refine (piconf_any _ V VO L N al _ ⟨_, _, _, _, rfl, ⟨H0.out.new NW2.out, M0.out⟩, ⟨H1.out.new NW2.out, M1.out⟩, ⟨H2.out.new NW2.out, M2.out⟩, ⟨H3.out.new NW2.out, M3.out⟩⟩ (Nat.le_trans HA.out.v (by decide)) (Nat.le_trans HA.out.vo (by decide)) (Nat.le_trans HA.out.lr (by decide)) (Nat.le_trans HA.out.n (by decide))).mono ?_
        rintro e w3 ⟨cv3, rfl, k3, p3⟩
        have K3 := Lib.hid k3.cfv; have B3 := Lib.hid (p3.keeps B2.out (by simp)); have NW3 := Lib.hid (NW2.out.then p3)
        clear k3 p3 q0 q1 q2 q3 q4
        go_wp2_with fail
        refine (clone25_any _ l _ (HL.out.new NW3.out) (Nat.le_trans HA.out.ln (by decide)) HNS.out).mono ?_
        rintro e w4 ⟨sv4, rfl, k4, p4⟩
        have K4 := Lib.hid k4; have B4 := Lib.hid (p4.keeps B3.out (by simp)); have NW4 := Lib.hid (NW3.out.then p4); have P4 := Lib.hid p4
        clear k4 p4
        go_wp2_with fail
        obtain ⟨a3, b3, c3, d3, rfl, t0, t1, t2, t3⟩ := id K3.out
        refine (impl_ask HA.out HL0.out _ sv4 _ ⟨a3, b3, c3, d3, rfl, ⟨t0.1.new P4.out, t0.2⟩, ⟨t1.1.new P4.out, t1.2⟩, ⟨t2.1.new P4.out, t2.2⟩, ⟨t3.1.new P4.out, t3.2⟩⟩ K4.out).mono ?_
        clear t0 t1 t2 t3
        rintro e w5 ⟨p5, hres⟩
        have B5 := Lib.hid (p5.keeps B4.out (by simp)); have NW5 := Lib.hid (NW4.out.then p5)
        clear p5
        have q0 := cell_of_block (off := 0) B5.out rfl; have q1 := cell_of_block (off := 1) B5.out rfl; have q2 := cell_of_block (off := 2) B5.out rfl; have q3 := cell_of_block (off := 3) B5.out rfl; have q4 := cell_of_block (off := 4) B5.out rfl
        simp only [List.getElem_toArray, List.getElem_cons_zero, List.getElem_cons_succ] at q0 q1 q2 q3 q4
        rcases hres with ⟨cf, cw, hc, rfl, hcw⟩ | ⟨hc, rfl⟩
        · obtain ⟨a1, b1, c1, d1, rfl, g0, g1, g2, g3⟩ := hcw
          have G0 := Lib.hid g0; have G1 := Lib.hid g1; have HC := Lib.hid hc
          obtain ⟨oa1, ca1, rfl, -⟩ := g0.us
          obtain ⟨ob1, cb1, rfl, -⟩ := g1.us
          obtain ⟨oc1, cc1, rfl, -⟩ := g2.us
          obtain ⟨od1, cd1, rfl, -⟩ := g3.us
          clear hc g0 g1 g2 g3
          go_upto_region 6 with fail
          have NZ := Lib.hid (show New w5 (w5.alloc (.cells #[.slice oa1 cf.V.length ca1, .slice ob1 cf.VO.length cb1, .slice oc1 cf.L.length cc1, .slice od1 cf.N.length cd1, .bool cf.al] 44)) from Chg.alloc _ _ _)
          have BW := Lib.hid (block_new w5 (.cells #[.slice oa1 cf.V.length ca1, .slice ob1 cf.VO.length cb1, .slice oc1 cf.L.length cc1, .slice od1 cf.N.length cd1, .bool cf.al] 44))
          obtain ⟨w6, hw6⟩ : ∃ w6, w6 = w5.alloc (.cells #[.slice oa1 cf.V.length ca1, .slice ob1 cf.VO.length cb1, .slice oc1 cf.L.length cc1, .slice od1 cf.N.length cd1, .bool cf.al] 44) := ⟨_, rfl⟩
          rw [← hw6] at NZ BW ⊢
          clear hw6 q0 q1 q2 q3 q4
          have B6 := Lib.hid (NZ.out.keeps B5.out (by simp)); have NW6 := Lib.hid (NW5.out.then NZ.out)
          have E0 := Lib.hid (G0.out.us.new NZ.out); have E1 := Lib.hid (G1.out.us.new NZ.out); have F0 := Lib.hid G0.out.nilok; have F1 := Lib.hid G1.out.nilok
          obtain ⟨xb, hxb⟩ : ∃ xb, xb = w5.heap.size := ⟨_, rfl⟩
          rw [← hxb] at BW ⊢
          clear hxb G0 G1
          have q0 := cell_of_block (off := 0) B6.out rfl; have q1 := cell_of_block (off := 1) B6.out rfl
          have r0 := cell_of_block (off := 0) BW.out rfl; have r1 := cell_of_block (off := 1) BW.out rfl
          simp only [List.getElem_toArray, List.getElem_cons_zero, List.getElem_cons_succ] at q0 q1 r0 r1
          have hfl : [V, VO, cf.V, cf.VO].flatten = V ++ VO ++ cf.V ++ cf.VO := by simp
          obtain ⟨cat, hcat⟩ : ∃ cat, cat = V ++ VO ++ cf.V ++ cf.VO := ⟨_, rfl⟩
          rw [← hcat] at hfl
          have hcl : 0 < cat.length ∧ cat.length ≤ 48 := by
            have h1 := ov_size HA.out HL0.out HC.out
            rw [hcat]
            simp only [List.length_append]
            omega
          have hsub : ∀ x ∈ V, x ∈ cat := fun x hx => by rw [hcat]; simp [hx]
          have HFT := Lib.hid hfl; have HCL := Lib.hid hcl; have HSUB := Lib.hid hsub
          clear hfl hcl hsub hcat
          go_wp2_with fail
          have NS := Lib.hid (show New w6 (w6.alloc (.cells #[.slice oa V.length ca, .slice ob VO.length cb, .slice oa1 cf.V.length ca1, .slice ob1 cf.VO.length cb1] 22)) from Chg.alloc _ _ _)
          have hsl : Sls (w6.alloc (.cells #[.slice oa V.length ca, .slice ob VO.length cb, .slice oa1 cf.V.length ca1, .slice ob1 cf.VO.length cb1] 22)) (.slice (some ⟨w6.heap.size, 0, none⟩) 4 4) [V, VO, cf.V, cf.VO] := by
            have hb := block_new w6 (.cells #[.slice oa V.length ca, .slice ob VO.length cb, .slice oa1 cf.V.length ca1, .slice ob1 cf.VO.length cb1] 22)
            refine ⟨w6.heap.size, 4, rfl, fun i hi => ?_⟩
            have : i = 0 ∨ i = 1 ∨ i = 2 ∨ i = 3 := by simp at hi; omega
            rcases this with rfl | rfl | rfl | rfl
            · exact ⟨_, cell_of_block hb rfl, (H0.out.new NW6.out).new NS.out⟩
            · exact ⟨_, cell_of_block hb rfl, (H1.out.new NW6.out).new NS.out⟩
            · exact ⟨_, cell_of_block hb rfl, E0.out.new NS.out⟩
            · exact ⟨_, cell_of_block hb rfl, E1.out.new NS.out⟩
          refine (concat29_any _ [V, VO, cf.V, cf.VO] _ hsl (by rw [HFT.out]; exact HCL.out.1) (by rw [HFT.out]; have := HCL.out.2; omega) (by simp)).mono ?_
          rw [HFT.out]
          rintro e w7 ⟨v1, rfl, ho, p7⟩
          have NW7 := Lib.hid ((NW6.out.then NS.out).then p7); have N67 := Lib.hid (NS.out.then p7)
          have hbs : w6.heap.size ≤ (w6.alloc (.cells #[.slice oa V.length ca, .slice ob VO.length cb, .slice oa1 cf.V.length ca1, .slice ob1 cf.VO.length cb1] 22)).heap.size := NS.out.size
          obtain ⟨base, hbase⟩ : ∃ base, base = (w6.alloc (.cells #[.slice oa V.length ca, .slice ob VO.length cb, .slice oa1 cf.V.length ca1, .slice ob1 cf.VO.length cb1] 22)).heap.size := ⟨_, rfl⟩
          rw [← hbase] at ho hbs
          have HO := Lib.hid (show Ow w7 base v1 cat from ho); have HBS := Lib.hid hbs
          have hz7 : base ≤ w7.heap.size := by rw [hbase]; exact p7.size
          have HZ7 := Lib.hid hz7
          clear hsl ho p7 hbs hbase hz7 q0 q1 r0 r1
          go_wp2_with fail
          refine (sort_own v1 cat base _ HO.out (fun e => by have := HCL.out.1; rw [e] at this; simp at this) (by have := HCL.out.2; omega)).mono ?_
          rintro e w8 ⟨rfl, ds, ho8, hp8, hs8, p8⟩
          have HO8 := Lib.hid ho8; have HP8 := Lib.hid hp8; have HS8 := Lib.hid hs8
          have N68 := Lib.hid (show New w6 w8 from N67.out.trans p8 (fun _ _ h => h) (fun i hi e => by have := HBS.out; omega))
          have HZ8 := Lib.hid (Nat.le_trans HZ7.out p8.size)
          clear ho8 hp8 hs8 p8
          go_wp2_with fail
          refine (compact35_any v1 ds base _ HO8.out (by have := HP8.out.length_eq; have := HCL.out.2; omega)).mono ?_
          rintro e w9 ⟨⟨v2, rfl, ho9⟩, p9⟩
          have hcs := compact_sorted HS8.out
          obtain ⟨ids, hids⟩ : ∃ ids, ids = Lib.compact ds := ⟨_, rfl⟩
          rw [← hids] at hcs ho9
          have N69 := Lib.hid (show New w6 w9 from N68.out.trans p9 (fun _ _ h => h) (fun i hi e => by have := HBS.out; omega))
          have HU := Lib.hid ho9.us; have HND := Lib.hid (show ids.Nodup from hcs.2.imp (fun h e => by omega)); have HIN := Lib.hid (show ∀ x ∈ V, x ∈ ids from fun x hx => (hcs.1 x).2 (HP8.out.mem_iff.2 (HSUB.out x hx)))
          have NW9 := Lib.hid (NW6.out.then N69.out)
          clear ho9 p9 hcs hids HO HO8 HP8 HS8 HSUB HZ7 HZ8 HBS N67 N68 HFT HCL NS NW7
          obtain ⟨oi, ci, rfl, -⟩ := id HU.out
          have B9 := Lib.hid (N69.out.keeps B6.out (by simp)); have BW9 := Lib.hid (N69.out.keeps BW.out (by simp))
          by_cases h8 : ids.length ≤ 8
          · have h8d : decide ((8 : Int) < (ids.length : Int)) = false := decide_eq_false (by omega)
            have H8 := Lib.hid h8
            obtain ⟨M, hM, hMle⟩ := pow_wrap ids.length h8
            have HM := Lib.hid hM; have HML := Lib.hid hMle
            clear hM hMle
            go_wp2_with fail
            rw [HM.out]
            clear h8 h8d
            go_loopg [10, 11, 12, 13, 14, 15, 72] M (fun n s10 s11 s12 s13 s14 s15 j wr => ∃ i : Nat, i ≤ M ∧ M ≤ n + i ∧ j = .int .i64 i ∧ New w9 wr)
            case atStart => exact ⟨0, by omega, by omega, rfl, Chg.refl _ _⟩
            case round =>
              obtain ⟨i, hi, hg, rfl, hnew⟩ := hrel
              have HG := Lib.hid hg; have HNW := Lib.hid hnew
              clear hg hnew
              have hM256 : M ≤ 256 := HML.out
              by_cases hlt : i < M
              · obtain ⟨wo, hwo⟩ : ∃ wo, wo = wr := ⟨_, rfl⟩
                subst hwo
                obtain ⟨gko, hgko⟩ : ∃ g, g = gk := ⟨_, rfl⟩
                subst hgko
                go_wp2_with fail
                have hki8 : ids.length ≤ 8 := H8.out
                go_loopg [11, 12, 13, 14, 15, 77] ids.length (fun n a11 a12 s13 s14 s15 j wq => ∃ k : Nat, k ≤ ids.length ∧ ids.length ≤ n + k ∧ j = .int .i64 k ∧ RowP wq wo.heap.size a11 (setB (inSet i) (ids.take k)) ∧ RowP wq wo.heap.size a12 (setB (fun m => !inSet i m) (ids.take k)) ∧ (k = 0 → a12 = .slice none 0 0) ∧ New wo wq)
                case atStart => exact ⟨0, by omega, by omega, rfl, RowP.nil _ _, RowP.nil _ _, fun _ => rfl, Chg.refl _ _⟩
                case round =>
                  obtain ⟨k, hk, hg, rfl, hra, hrb, hz, hnew⟩ := hrel
                  by_cases hlk : k < ids.length
                  · have HGK := Lib.hid hg; have HRA := Lib.hid hra; have HRB := Lib.hid hrb; have HZ := Lib.hid hz; have HNK := Lib.hid hnew
                    clear hg hra hrb hz hnew
                    obtain ⟨ao, cap, e1, hu⟩ := HU.out.new (HNW.out.then HNK.out)
                    cases e1
                    obtain ⟨bb, off, rfl, hck⟩ := hu k hlk
                    obtain ⟨x, hx⟩ : ∃ x, x = ids[k] := ⟨_, rfl⟩
                    rw [← hx] at hck
                    have HX := Lib.hid hx
                    clear hx hu
                    go_upto_region 21 with fail
                    obtain ⟨bv, hbv⟩ : ∃ bv, bv = (bits BinOp.and IntKind.i64 ((i : Int) / 2 ^ k) 1 == 1) := ⟨_, rfl⟩
                    rw [← hbv]
                    have HBV := Lib.hid (show bv = inSet i k from hbv)
                    have hA' : setB (inSet i) (ids.take (k + 1)) = setB (inSet i) (ids.take k) ++ [(x, bv)] := by rw [setB_succ _ _ _ hlk, HBV.out, HX.out]
                    have hB' : setB (fun m => !inSet i m) (ids.take (k + 1)) = setB (fun m => !inSet i m) (ids.take k) ++ [(x, !bv)] := by rw [setB_succ _ _ _ hlk, HBV.out, HX.out]
                    obtain ⟨y, hy⟩ : ∃ y, ids[0]? = some y := ⟨ids[0], by rw [List.getElem?_eq_getElem (by omega)]⟩
                    have hA0 : ∀ m, 0 < m → (setB (inSet i) (ids.take m))[0]? = some (y, inSet i 0) := fun m hm => setB_zero hy m hm
                    have hB0 : ∀ m, 0 < m → (setB (fun m => !inSet i m) (ids.take m))[0]? = some (y, !inSet i 0) := fun m hm => setB_zero hy m hm
                    have hlA : (setB (inSet i) (ids.take k)).length ≤ 1000 := by rw [setB_len]; simp; omega
                    have hlB : (setB (fun m => !inSet i m) (ids.take k)).length ≤ 1000 := by rw [setB_len]; simp; omega
                    have HA' := Lib.hid hA'; have HB' := Lib.hid hB'; have HA0 := Lib.hid hA0; have HB0 := Lib.hid hB0; have HLA := Lib.hid hlA; have HLB := Lib.hid hlB
                    have hap : ∀ g, u12.ownBlock = some g → ¬ u11.ownBlock = some g := by
                      by_cases hk0 : k = 0
                      · rw [HZ.out hk0]; intro g e; cases e
                      · exact fun g e e' => RowP.apart HRA.out HRB.out (HA0.out k (by omega)) (HB0.out k (by omega)) g e' e
                    have HAP := Lib.hid hap
                    clear hbv hA' hB' hy hA0 hB0 hlA hlB hap hck
                    have hsz0 := HNK.out.size
                    have NL1 := Lib.hid (show New wr (wr.alloc (.cells #[.int .u64 x, .bool bv] 41)) from Chg.alloc _ _ _)
                    go_upto_region 22 with (first
                      | (at_builtin; refine op_ballot rfl (.tmp 87) (.tmp 91) rfl wo.heap.size u11 (setB (inSet i) (ids.take k)) rfl (HRA.out.new NL1.out) wr.heap.size x bv rfl (block_new wr _) HLA.out (by simp; omega) ?_; intro v11 wa hra' hca)
                      | fail)
                    have HRA1 := Lib.hid (show RowP wa wo.heap.size v11 (setB (inSet i) (ids.take (k + 1))) by rw [HA'.out]; exact hra')
                    have HRB1 := Lib.hid ((HRB.out.new NL1.out).chg hca HAP.out)
                    have HC1 := Lib.hid (show New wo wa from (HNK.out.then NL1.out).trans hca (fun _ _ h => h) (fun g hg e => by have := (HRA.out.lt' g e).1; omega))
                    clear hra' hca HAP
                    have hap : ∀ g, v11.ownBlock = some g → ¬ u12.ownBlock = some g := by
                      by_cases hk0 : k = 0
                      · rw [HZ.out hk0]; intro g e e'; cases e'
                      · exact fun g e => RowP.apart HRA1.out HRB1.out (HA0.out (k + 1) (by omega)) (HB0.out k (by omega)) g e
                    have HAP := Lib.hid hap
                    clear hap
                    have hsz1 := HC1.out.size
                    have NL2 := Lib.hid (show New wa (wa.alloc (.cells #[.int .u64 x, .bool (!bv)] 41)) from Chg.alloc _ _ _)
                    go_wp2_with (first
                      | (at_builtin; refine op_ballot rfl (.tmp 93) (.tmp 98) rfl wo.heap.size u12 (setB (fun m => !inSet i m) (ids.take k)) rfl (HRB1.out.new NL2.out) wa.heap.size x (!bv) rfl (block_new wa _) HLB.out (by simp; omega) ?_; intro v12 wb hrb' hcb)
                      | fail)
                    have HRB2 := Lib.hid (show RowP wb wo.heap.size v12 (setB (fun m => !inSet i m) (ids.take (k + 1))) by rw [HB'.out]; exact hrb')
                    have HRA2 := Lib.hid ((HRA1.out.new NL2.out).chg hcb HAP.out)
                    have HC2 := Lib.hid (show New wo wb from (HC1.out.then NL2.out).trans hcb (fun _ _ h => h) (fun g hg e => by have := (HRB1.out.lt' g e).1; omega))
                    clear hrb' hcb HAP
                    go_roundg (gk - 1)
                    case measure => have := HGK.out; omega
                    case rel => exact ⟨k + 1, by omega, by have := HGK.out; omega, by go_num, HRA2.out, HRB2.out, fun e => by omega, HC2.out⟩
                  · have hkl : k = ids.length := by omega
                    subst hkl
                    rw [List.take_length] at hra hrb
                    obtain ⟨A, hA⟩ : ∃ A, A = setB (inSet i) ids := ⟨_, rfl⟩
                    obtain ⟨B, hB⟩ : ∃ B, B = setB (fun m => !inSet i m) ids := ⟨_, rfl⟩
                    have hopp : Opp ids A B := by rw [hA, hB]; exact setB_opp _ _ HND.out
                    have hka : (A.map (·.1)).Nodup := by rw [hA, setB_keys]; exact HND.out
                    have hkb : (B.map (·.1)).Nodup := by rw [hB, setB_keys]; exact HND.out
                    have hla : A.length ≤ 8 := by rw [hA, setB_len]; exact H8.out
                    have hlb : B.length ≤ 8 := by rw [hB, setB_len]; exact H8.out
                    rw [← hA] at hra
                    rw [← hB] at hrb
                    have HBA := Lib.hid hra.bas; have HBB := Lib.hid hrb.bas
                    have HOPP := Lib.hid hopp; have HKA := Lib.hid hka; have HKB := Lib.hid hkb; have HLA := Lib.hid hla; have HLB := Lib.hid hlb
                    have N9 := Lib.hid (HNW.out.then hnew)
                    clear hra hrb hA hB hopp hka hkb hla hlb hnew hz hg
                    have NWR := Lib.hid (NW9.out.then N9.out); have N6R := Lib.hid (N69.out.then N9.out)
                    have BR := Lib.hid (N9.out.keeps B9.out (by simp)); have BWR := Lib.hid (N9.out.keeps BW9.out (by simp))
                    have UV := Lib.hid (okS_up HA.out.prop.s0).nodup; have UO := Lib.hid (okS_up HA.out.prop.s1).nodup
                    have SO := Lib.hid (spec_ok HA.out HL0.out HC.out)
                    have CV := Lib.hid (okS_up SO.out.1.s0).nodup; have CO := Lib.hid (okS_up SO.out.1.s1).nodup
                    have q0 := cell_of_block (off := 0) BR.out rfl; have q1 := cell_of_block (off := 1) BR.out rfl
                    simp only [List.getElem_toArray, List.getElem_cons_zero, List.getElem_cons_succ] at q0 q1
                    obtain ⟨ou, cu, rfl, -⟩ := id HBA.out
                    obtain ⟨ou2, cu2, rfl, -⟩ := id HBB.out
                    go_wp2_with fail
                    refine (pivoters_any (.slice oa V.length ca) (.slice ob VO.length cb) V VO _ (H0.out.new NWR.out) (H1.out.new NWR.out) M0.out M1.out (Nat.le_trans HA.out.v (by decide)) (Nat.le_trans HA.out.vo (by decide))).mono ?_
                    rintro e w10 ⟨oa5, ca5, ob5, cb5, rfl, u5, v5, m5⟩
                    have U5 := Lib.hid u5; have V5 := Lib.hid v5; have A5 := Lib.hid (HBA.out.chg m5); have N10 := Lib.hid m5
                    clear u5 v5 m5 q0 q1
                    go_wp2_with fail
                    refine (voted_any (.slice oa5 V.length ca5) (.slice ob5 VO.length cb5) (.slice ou A.length cu) V VO A _ U5.out V5.out A5.out UV.out UO.out HKA.out (Nat.le_trans HA.out.v (by decide)) (Nat.le_trans HA.out.vo (by decide)) (Nat.le_trans HLA.out (by decide))).mono ?_
                    obtain ⟨r1, hr1⟩ : ∃ r, r = joinR (voteR A V) (voteR A VO) := ⟨_, rfl⟩
                    rw [← hr1]
                    have HR1 := Lib.hid hr1
                    clear hr1
                    rintro e w11 ⟨rfl, m11⟩
                    have N11 := Lib.hid (N10.out.then m11)
                    have BW11 := Lib.hid (N11.out.keeps BWR.out (by simp))
                    clear m11
                    have r0 := cell_of_block (off := 0) BW11.out rfl; have r1' := cell_of_block (off := 1) BW11.out rfl
                    simp only [List.getElem_toArray, List.getElem_cons_zero, List.getElem_cons_succ] at r0 r1'
                    by_cases h1 : r1 = 3
                    · have h1b : (r1 == 3) = true := by simpa using h1
                      have HR1' := Lib.hid (show joinR (voteR A V) (voteR A VO) = 3 by rw [← HR1.out]; exact h1)
                      clear h1
                      go_wp2_with fail
                      refine (pivoters_any (.slice oa1 cf.V.length ca1) (.slice ob1 cf.VO.length cb1) cf.V cf.VO _ (E0.out.new (N6R.out.then N11.out)) (E1.out.new (N6R.out.then N11.out)) F0.out F1.out (Nat.le_trans SO.out.2.1 (by decide)) (Nat.le_trans SO.out.2.2.1 (by decide))).mono ?_
                      rintro e w12 ⟨oa6, ca6, ob6, cb6, rfl, u6, v6, m6⟩
                      have U6 := Lib.hid u6; have V6 := Lib.hid v6; have N12 := Lib.hid (N11.out.then m6); have A6 := Lib.hid (HBB.out.chg N12.out)
                      clear u6 v6 m6 r0 r1'
                      go_wp2_with fail
                      refine (voted_any (.slice oa6 cf.V.length ca6) (.slice ob6 cf.VO.length cb6) (.slice ou2 B.length cu2) cf.V cf.VO B _ U6.out V6.out A6.out CV.out CO.out HKB.out (Nat.le_trans SO.out.2.1 (by decide)) (Nat.le_trans SO.out.2.2.1 (by decide)) (Nat.le_trans HLB.out (by decide))).mono ?_
                      obtain ⟨r2, hr2⟩ : ∃ r, r = joinR (voteR B cf.V) (voteR B cf.VO) := ⟨_, rfl⟩
                      rw [← hr2]
                      have h2 : (r2 == 3) = false := by
                        refine beq_eq_false_iff_ne.2 (fun e => ?_)
                        exact overlap HA.out HL0.out HV.out HC.out HOPP.out HIN.out HR1'.out (by rw [← hr2]; exact e)
                      have H2 := Lib.hid h2
                      clear hr2
                      rintro e w13 ⟨rfl, m13⟩
                      have N13 := Lib.hid (N12.out.then m13)
                      clear m13
                      go_wp2_with fail
                      go_roundg (gko - 1)
                      case measure => have := HG.out; omega
                      case rel => exact ⟨i + 1, by omega, by have := HG.out; omega, by go_num, N9.out.then N13.out⟩
                    · have h1b : (r1 == 3) = false := by simpa using h1
                      clear h1
                      go_wp2_with fail
                      go_roundg (gko - 1)
                      case measure => have := HG.out; omega
                      case rel => exact ⟨i + 1, by omega, by have := HG.out; omega, by go_num, N9.out.then N11.out⟩
              · have hil : i = M := by omega
                go_wp2_with fail
                refine (HLV.out _).mono ?_
                rintro e w12 ⟨rfl, p12⟩
                have NW12 := Lib.hid ((NW9.out.then HNW.out).then p12)
                clear p12
                go_wp2_with fail
                refine bodyPost_ret (results_tmp rfl _ _ _) rfl ⟨rfl, NW12.out⟩
          · have h8d : decide ((8 : Int) < (ids.length : Int)) = true := decide_eq_true (by omega)
            have h8n : 8 < ids.length := by omega
            clear h8
            go_wp2_with fail
            refine bodyPost_ret (results_tmp rfl _ _ _) rfl ⟨rfl, NW9.out⟩
        · clear hc
          go_wp2_with fail
          refine (HLV.out _).mono ?_
          rintro e w12 ⟨rfl, p12⟩
          have NW12 := Lib.hid ((NW5.out.then (show New w5 (w5.alloc zeroCells) from Chg.alloc _ _ _)).then p12)
          clear p12
          go_wp2_with fail
          refine bodyPost_ret (results_tmp rfl _ _ _) rfl ⟨rfl, NW12.out⟩
    · have hbd : decide ((2147483647 : Int) < (l.length : Int)) = true := decide_eq_true (by omega)
      go_wp2_with fail
      refine bodyPost_ret (results_tmp rfl _ _ _) rfl ⟨rfl, NW1.out⟩
  · rw [hf]
    clear hf HFT
    rintro e w1 ⟨rfl, p1⟩
    have NW1 := Lib.hid (NA.out.then p1)
    clear p1
    go_wp2_with fail
    refine bodyPost_ret (results_tmp rfl _ _ _) rfl ⟨rfl, NW1.out⟩
end Go.Proofs.Ytcgccoigjcdjeaa
namespace Go.Proofs.Ytcgccoigjcdjeaa
open Go.ChangeShapes Go.WideShapes Go.ChangeAt Go.RowKit
open Go.ChangeMaps (open_string shut_string)
set_option linter.unusedVariables false

theorem Held.belowO {w w' : World} {e : Ending} (h : Held w e w') : Below w.heap.size w w' := h.2.below (Nat.le_refl _) (by simp)
set_option maxRecDepth 100000 in
theorem ov_lifted (os : Os) (started : os.Started) (H : Type) (enc : TypeId × Value → H) :
    ReturnsInHanded {} Try.checked os 7 .any (Rows.fnChangesOverlapSpec.pre6 enc Try.prog Try.f7 Rows.fnChangesOverlapRow.domain false) (Rows.fnChangesOverlapSpec.post enc Try.prog Try.f7 false true false false) := by
  refine returnsInHanded_of_change (C := Try.checked) own started (by kernel_rfl) Try.func7
    (ChangeSpec.witness6 (enc := enc) (C := Try.checked) false ⟨#[], #[.agg #[.slice none 0 0, .slice none 0 0, .slice none 0 0, .slice none 0 0, .bool false], .int .i64 0, .slice none 0 0], []⟩ 8 (by kernel_rfl) (by kernel_rfl) (by kernel_rfl) (by kernel_rfl)) ?_
  intro W base args ds gs before hval0 hW hcnd _
  have hval : ∀ (j : Nat) t v, Try.f7.params[j]? = some t → args[j]? = some v → Value.okWide Try.prog W .any base t v := hval0
  have hW' := hW
  obtain ⟨p, q, hA0, hV, rfl, hfz, hnd⟩ := hW
  have hA : DataW.TrodAll enc Try.prog W 0 (fun _ => true) true Try.f7.params.toList args.toList ds p := hA0
  rw [Try.params7] at hA hval
  obtain ⟨v0, vs0, d0, ds0, p0, q0, hargs, rfl, rfl, h0, r0⟩ := trodAll_cons hA
  obtain ⟨v1, vs1, d1, ds1, p1, q1, rfl, rfl, rfl, h1, r1⟩ := trodAll_cons r0
  obtain ⟨v2, vs2, d2, ds2, p2, q2, rfl, rfl, rfl, h2, r2⟩ := trodAll_cons r1
  obtain ⟨rfl, rfl, rfl⟩ := trodAll_nil r2
  obtain rfl : args = #[v0, v1, v2] := by cases args; simp_all
  obtain ⟨rfl, rfl⟩ := trodVars_none hV
  have k0 := h0
  have lt0 : ∀ x ∈ p0, x.block < W.heap.size := by obtain ⟨m, hm⟩ := k0; exact DataW.trod_lt m _ _ _ hm
  have k1 := h1
  have lt1 : ∀ x ∈ p1, x.block < W.heap.size := by obtain ⟨m, hm⟩ := k1; exact DataW.trod_lt m _ _ _ hm
  have k2 := h2
  have lt2 : ∀ x ∈ p2, x.block < W.heap.size := by obtain ⟨m, hm⟩ := k2; exact DataW.trod_lt m _ _ _ hm
  obtain ⟨V, VO, L, N, al, hci⟩ := conf_in (hval 0 44 v0 rfl rfl) h0
  obtain ⟨a, b, c, d, rfl, u0, u1, u2, u3⟩ := hci.ex
  obtain ⟨way, rfl⟩ := okWide_int Try.underlying3 (hval 1 3 v1 rfl rfl)
  obtain ⟨ov, len, cap, rfl⟩ := okWide_slice Try.underlying45 (hval 2 45 v2 rfl rfl)
  obtain ⟨B, hB⟩ : ∃ B, PairsIn (fun p : Int × Int => .int .i64 p.1) (fun p => .int .u64 p.2) (fun p => (Lit.int .i64 p.1).wf = true ∧ (Lit.int .u64 p.2).wf = true) W (.slice ov len cap) B := by
    obtain ⟨fuel, hf⟩ := h2
    obtain ⟨v, B, e, hB⟩ := pairs_in Try.underlying45 cells53 dec53 hf
    simp [Value.cells] at e
    subst e
    exact ⟨B, hB⟩
  clear hA0 hval0
  refine (ov_walk live_any _ _ V VO L N al way B W ⟨a, b, c, d, rfl, ⟨u0.us, u0.nil⟩, ⟨u1.us, u1.nil⟩, ⟨u2.us, u2.nil⟩, ⟨u3.us, u3.nil⟩⟩ hB.cells hB.nil (fun p hp => (wf_u64 (hB.ok p hp).2).1) hB.len).mono fun e W' hh => ?_
  have bel := hh.belowO
  obtain ⟨rfl, _⟩ := hh
  exact ⟨_, rfl, _, _, _, [], _, [], hW', trodAll_mk1 (shut_bool Try.underlying4 _), (trodAll_cons_mk (Below.trod laidOut (by kernel_rfl) (of_decide_eq_true (by kernel_rfl)) k0 bel lt0) (trodAll_cons_mk (Below.trod laidOut (by kernel_rfl) (of_decide_eq_true (by kernel_rfl)) k1 bel lt1) (trodAll_cons_mk (Below.trod laidOut (by kernel_rfl) (of_decide_eq_true (by kernel_rfl)) k2 bel lt2) trodAll_mk0))), rfl, bel.frame _, fun h => by cases h⟩

theorem ov_over : Rows.fnChangesOverlapRow.holds Try.pinned (OpenSpec.ofChange Rows.fnChangesOverlapSpec) :=
  OpenClaim.holds_of_wide 7 Try.f7 rfl rfl rfl rfl rfl rfl rfl ⟨rfl, rfl, rfl, rfl, rfl⟩ rfl rfl rfl rfl rfl (by kernel_rfl) Try.func7 (by kernel_rfl)
    (of_decide_eq_true (by kernel_rfl)) (by unfold Func.isWrapper; first | (rw [if_pos (by decide +kernel)]; kernel_rfl) | (rw [if_neg (by decide +kernel)]; exact ⟨rfl, rfl⟩))
    (fun os started H enc _ => ov_lifted os started H enc)
/-- the statement -/
theorem overlap_hold : Rows.FnChangesOverlapSaid := ov_over
#print axioms overlap_hold
end Go.Proofs.Ytcgccoigjcdjeaa
