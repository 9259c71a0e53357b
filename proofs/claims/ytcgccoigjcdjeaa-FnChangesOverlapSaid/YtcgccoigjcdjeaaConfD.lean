/- The progress map, and what confchange.checkInvariants finds of a configuration that is sound: no error. No condition. -/
import Derived.Test.YtcgccoigjcdjeaaConfC
namespace Go.Proofs.Ytcgccoigjcdjeaa
open Go.RowKit

/-- the cells of a Progress -/
def pcells (q : Addr) (l : Bool) : Array Value := #[.int .u64 0, .int .u64 1, .int .u64 0, .int .u64 0, .int .u64 0, .bool true, .bool false, .pointer (some q), .bool l]
/-- the entries of a progress map: a member, its block, whether it learns -/
def tents (T : List (Int × Nat × Bool)) : List (Int × Value) := T.map fun t => (t.1, .pointer (some ⟨t.2.1, 0, none⟩))
structure TrkV (w : World) (o : Option Nat) (T : List (Int × Nat × Bool)) : Prop where
  map : MapV w o (tents T)
  prog : ∀ t ∈ T, ∃ q, w.heap[t.2.1]? = some (.cells (pcells q t.2.2) 145 (0, 0))
  apart : (T.map (·.2.1)).Nodup
theorem look_tents (T : List (Int × Nat × Bool)) (k : Int) : ((∀ t ∈ T, t.1 ≠ k) ∧ look (tents T) k = none) ∨ ∃ t ∈ T, t.1 = k ∧ look (tents T) k = some (.pointer (some ⟨t.2.1, 0, none⟩)) := by
  induction T with
  | nil => left; exact ⟨by simp, rfl⟩
  | cons t T ih =>
    by_cases h : t.1 = k
    · right
      exact ⟨t, .head _, h, by simp [look, tents, h]⟩
    · have e : look (tents (t :: T)) k = look (tents T) k := by
        unfold look tents
        rw [List.map_cons, List.find?_cons_of_neg (by simpa using h)]
      rw [e]
      rcases ih with ⟨h1, h2⟩ | ⟨t', h1, h2, h3⟩
      · left; exact ⟨fun x hx => by rcases List.mem_cons.1 hx with rfl | hx; exact h; exact h1 x hx, h2⟩
      · right; exact ⟨t', .tail _ h1, h2, h3⟩
theorem TrkV.chg {w w' : World} {S : Nat → Prop} {o : Option Nat} {T : List (Int × Nat × Bool)} (h : TrkV w o T) (c : Chg w w' S) (hS : ∀ i, o = some i → ¬ S i) (hp : ∀ t ∈ T, ¬ S t.2.1) : TrkV w' o T :=
  ⟨h.map.chg c hS, fun t ht => by obtain ⟨q, hq⟩ := h.prog t ht; exact ⟨q, c.keeps hq (hp t ht)⟩, h.apart⟩
theorem TrkV.new {w w' : World} {o : Option Nat} {T : List (Int × Nat × Bool)} (h : TrkV w o T) (c : New w w') : TrkV w' o T := h.chg c (by simp) (by simp)
theorem TrkV.alloc {w : World} {o : Option Nat} {T : List (Int × Nat × Bool)} (h : TrkV w o T) (ob : Obj) : TrkV (w.alloc ob) o T := h.new (Chg.alloc w ob _)
theorem TrkV.keys {w : World} {o : Option Nat} {T : List (Int × Nat × Bool)} (h : TrkV w o T) : (T.map (·.1)).Nodup := by
  have := h.map.keys
  simpa [tents, Function.comp_def] using this

/-- what a configuration's sets and its progress map have to do with each other -/
structure Inv (V0 V1 L N : List Int) (T : List (Int × Nat × Bool)) : Prop where
  sub : ∀ x, x ∈ V0 ∨ x ∈ V1 ∨ x ∈ L → ∃ t ∈ T, t.1 = x
  sup : ∀ t ∈ T, t.1 ∈ V0 ∨ t.1 ∈ V1 ∨ t.1 ∈ L
  flag : ∀ t ∈ T, t.2.2 = decide (t.1 ∈ L)
  next : ∀ x ∈ N, x ∈ V1 ∧ x ∉ V0
  learn : ∀ x ∈ L, x ∉ V0 ∧ x ∉ V1
/-- a configuration by value -/
structure CfgV (w : World) (v0 v1 ln nx : Option Nat) (V0 V1 L N : List Int) : Prop where
  s0 : SetV w v0 V0
  s1 : NSet w v1 V1
  sl : NSet w ln L
  sn : NSet w nx N

theorem TrkV.at {w : World} {o : Option Nat} {T : List (Int × Nat × Bool)} {V0 V1 L N : List Int} (h : TrkV w o T) (hi : Inv V0 V1 L N T) {x : Int} (hx : x ∈ V0 ∨ x ∈ V1 ∨ x ∈ L) :
    ∃ p, look (tents T) x = some (.pointer (some ⟨p, 0, none⟩)) ∧ w.cell? ⟨p, 8, none⟩ = some (.bool (decide (x ∈ L))) := by
  obtain ⟨t, ht, rfl⟩ := hi.sub x hx
  rcases look_tents T t.1 with ⟨h1, _⟩ | ⟨t', h1, h2, h3⟩
  · exact absurd rfl (h1 t ht)
  · obtain ⟨q, hq⟩ := h.prog t' h1
    refine ⟨_, h3, cell_of_block hq ?_⟩
    rw [hi.flag t' h1, h2]; rfl

set_option maxRecDepth 100000 in
set_option maxHeartbeats 1600000 in
theorem inv_any (v0 v1 ln nx tk : Option Nat) (al : Bool) (V0 V1 L N : List Int) (T : List (Int × Nat × Bool)) (w : World) (hc : CfgV w v0 v1 ln nx V0 V1 L N) (ht : TrkV w tk T) (hi : Inv V0 V1 L N T) (ha : V1 = [] → al = false) :
    Calls Try.prog 106 #[.agg #[.map v0, .map v1, .bool al, .map ln, .map nx], .map tk] w fun e w' => e = .returned .nilIface ∧ New w w' := by
  have HC := Lib.hid hc; have HT := Lib.hid ht; have HI := Lib.hid hi; have HA := Lib.hid ha; clear hc ht hi ha
  go_enter Try.func106, Try.ntmps106
  go_wp2_with fail
  go_region_held3 (fun w' => w'.cell? ⟨w.heap.size, 0, none⟩ = some (.map v0) ∧ w'.cell? ⟨w.heap.size, 1, none⟩ = some (.map v1) ∧ w'.cell? ⟨w.heap.size, 3, none⟩ = some (.map ln) ∧ w'.cell? ⟨w.heap.size, 4, none⟩ = some (.map nx)) (go_keep)
    (first | (go_at_call 117; refine (ids_any v0 v1 V0 V1 _ ((HC.out.s0.alloc _).drew) ((HC.out.s1.1.alloc _).drew)).mono ?_; rintro e w1 ⟨b, t, rfl, ht, hm, hb, hn⟩; have e0 := hn.cell (p := ⟨w.heap.size, 0, none⟩) (by simp) (by simp); have e1 := hn.cell (p := ⟨w.heap.size, 1, none⟩) (by simp) (by simp); have e3 := hn.cell (p := ⟨w.heap.size, 3, none⟩) (by simp) (by simp); have e4 := hn.cell (p := ⟨w.heap.size, 4, none⟩) (by simp) (by simp)))
  have hnw : New w w1 := ((Chg.alloc w _ _).then (Chg.drew _ _)).then hn
  have hbx : w1.heap[w.heap.size]? = some (.cells #[.map v0, .map v1, .bool al, .map ln, .map nx] 85 (0, 0)) := hn.keeps (block_new w _) (by simp)
  have hblt : b < w1.heap.size := ht.lt
  obtain ⟨wa, hwa⟩ : ∃ wa, wa = w1.alloc (.cells #[.map (some b), .map ln, .map nx] 69) := ⟨_, rfl⟩
  rw [← hwa]
  have hna : New w wa := by rw [hwa]; exact hnw.then (Chg.alloc _ _ _)
  have hba : wa.heap[w.heap.size]? = some (.cells #[.map v0, .map v1, .bool al, .map ln, .map nx] 85 (0, 0)) := by rw [hwa]; exact block_alloc hbx _
  have hpa : wa.heap[w1.heap.size]? = some (.cells #[.map (some b), .map ln, .map nx] 69 (0, 0)) := by rw [hwa]; exact block_new w1 _
  have hta : SetV wa (some b) t := by rw [hwa]; exact ht.alloc _
  rename_i hH
  clear hH e0 e1 e3 e4 hb hn hnw hbx ht hblt hwa
  generalize w1.heap.size = pb at hpa ⊢
  have HNA := Lib.hid hna; have HBA := Lib.hid hba; have HPA := Lib.hid hpa; have HTA := Lib.hid hta; have HM := Lib.hid hm
  clear hna hba hpa hta hm
  go_wp2
  go_loopg [27] 4 (fun n j wr => ∃ i : Int, (i = 0 ∨ i = 1 ∨ i = 2 ∨ i = 3) ∧ 4 ≤ n + i.toNat ∧ j = .int .i64 i ∧ New wa wr)
  case atStart => exact ⟨0, .inl rfl, by omega, rfl, Chg.refl _ _⟩
  case round =>
    obtain ⟨i, hi, hn, rfl, hnew⟩ := hrel
    have HN := Lib.hid hnew; have HG := Lib.hid hn; clear hnew hn
    obtain ⟨wo, rfl⟩ : ∃ wo : World, wo = wr := ⟨_, rfl⟩
    obtain ⟨g0, rfl⟩ : ∃ g0 : Nat, g0 = gk := ⟨_, rfl⟩
    have hwo : New w wo := HNA.out.then HN.out
    have HWO := Lib.hid hwo; clear hwo
    have htk : TrkV wo tk T := HT.out.new HWO.out
    have HTK := Lib.hid htk; clear htk
    by_cases h3 : i = 3
    · subst h3
      have hbx := HN.out.keeps HBA.out (by simp)
      have b0 := cell_of_block (off := 0) hbx rfl
      have b1 := cell_of_block (off := 1) hbx rfl
      have b2 := cell_of_block (off := 2) hbx rfl
      have b3 := cell_of_block (off := 3) hbx rfl
      have b4 := cell_of_block (off := 4) hbx rfl
      have HBX := Lib.hid hbx; clear hbx hi
      have hsn : SetV wo nx N := HC.out.sn.1.chg HWO.out (by simp)
      have HSN := Lib.hid hsn; clear hsn
      go_wp2_with (first | (at_range; refine set_range rfl _ _ rfl mt69 rfl HSN.out ?_; intro w1 r1 s1 z1) | go_in)
      go_frame
      go_loopg [10] N.length (fun n _ wr => ∃ done : List Int, N.length ≤ done.length + n ∧ RangS wr wo.heap.size nx N done ∧ New wo wr)
      case atStart => exact ⟨[], by simp, r1, s1.chg⟩
      case round =>
        obtain ⟨done, hn, hr, hnew⟩ := hrel
        have HN1 := Lib.hid hnew; have HR := Lib.hid hr; have HL1 := Lib.hid hn
        have q0 := hnew.cell (p := ⟨w.heap.size, 0, none⟩) (lt_of_block HBX.out) (by simp)
        have q1 := hnew.cell (p := ⟨w.heap.size, 1, none⟩) (lt_of_block HBX.out) (by simp)
        have q2 := hnew.cell (p := ⟨w.heap.size, 2, none⟩) (lt_of_block HBX.out) (by simp)
        have q3 := hnew.cell (p := ⟨w.heap.size, 3, none⟩) (lt_of_block HBX.out) (by simp)
        have q4 := hnew.cell (p := ⟨w.heap.size, 4, none⟩) (lt_of_block HBX.out) (by simp)
        have hsl : SetV wr ln L := HC.out.sl.1.chg (HWO.out.then hnew) (by simp)
        have HSL := Lib.hid hsl; clear hsl
        clear hnew hr hn r1 s1 z1
        go_wp2_with (first
          | (at_next; refine set_next rfl _ rfl rfl HR.out ?_ ?_)
          | (at_range; refine set_range rfl _ _ rfl mt69 rfl HSL.out ?_; intro w1 r1 s1 z1)
          | go_in)
        · intro hp
          go_wp2_with (first
            | (at_range; refine set_range rfl _ _ rfl mt69 rfl HSL.out ?_; intro w1 r1 s1 z1)
            | go_in)
          go_frame
          go_loopg [13] L.length (fun n _ wq => ∃ done : List Int, L.length ≤ done.length + n ∧ RangS wq wr.heap.size ln L done ∧ New wr wq)
          case atStart => exact ⟨[], by simp, r1, s1.chg⟩
          case round =>
            obtain ⟨wp, rfl⟩ : ∃ wp : World, wp = wr := ⟨_, rfl⟩
            obtain ⟨done, hn, hr, hnew⟩ := hrel
            have HN2 := Lib.hid hnew; have HR2 := Lib.hid hr; have HL2 := Lib.hid hn
            have q0 := hnew.cell (p := ⟨w.heap.size, 0, none⟩) (Nat.lt_of_lt_of_le (lt_of_block HBX.out) HN1.out.size) (by simp)
            have q1 := hnew.cell (p := ⟨w.heap.size, 1, none⟩) (Nat.lt_of_lt_of_le (lt_of_block HBX.out) HN1.out.size) (by simp)
            have q2 := hnew.cell (p := ⟨w.heap.size, 2, none⟩) (Nat.lt_of_lt_of_le (lt_of_block HBX.out) HN1.out.size) (by simp)
            have q3 := hnew.cell (p := ⟨w.heap.size, 3, none⟩) (Nat.lt_of_lt_of_le (lt_of_block HBX.out) HN1.out.size) (by simp)
            have q4 := hnew.cell (p := ⟨w.heap.size, 4, none⟩) (Nat.lt_of_lt_of_le (lt_of_block HBX.out) HN1.out.size) (by simp)
            clear hnew hr hn r1 s1 z1
            go_wp2_with (first
              | (at_next; refine set_next rfl _ rfl rfl HR2.out ?_ ?_)
              | go_in)
            · intro hp
              have hnq : New w wp := (HWO.out.then HN1.out).then HN2.out
              have hv1 : SetV wp v1 V1 := HC.out.s1.1.chg hnq (by simp)
              have HV1 := Lib.hid hv1; have HNQ := Lib.hid hnq; clear hv1 hnq
              by_cases hV : V1 = []
              · have hv1n : v1 = none := HC.out.s1.2.2 hV
                have hNn : N = [] := by
                  cases hN : N with
                  | nil => rfl
                  | cons x xs =>
                    have := (HI.out.next x (by rw [hN]; exact .head _)).1
                    rw [hV] at this; cases this
                have hnxn : nx = none := HC.out.sn.2.2 hNn
                have hal := HA.out hV
                subst hv1n; subst hnxn; subst hal
                have hbp := HN2.out.keeps (HN1.out.keeps HBX.out (by simp)) (by simp)
                have HBP := Lib.hid hbp; clear hbp
                go_wp2_with (first
                  | (go_at_call 78; refine (joint_any v0 none ln none false V1 false _ HV1.out (by simp [hV])).mono ?_; rintro e w5 ⟨rfl, h5⟩; have p0 := cell_of_block (off := 0) (h5.keeps HBP.out (by simp)) rfl; have p1 := cell_of_block (off := 1) (h5.keeps HBP.out (by simp)) rfl; have p2 := cell_of_block (off := 2) (h5.keeps HBP.out (by simp)) rfl; have p3 := cell_of_block (off := 3) (h5.keeps HBP.out (by simp)) rfl; have p4 := cell_of_block (off := 4) (h5.keeps HBP.out (by simp)) rfl)
                  | go_in)
                go_ret
                exact ⟨rfl, (((HNQ.out.then h5)).then (Chg.alloc _ _ _))⟩
              · go_wp2_with (first
                  | (go_at_call 78; refine (joint_any v0 v1 ln nx al V1 true _ HV1.out (by simp [hV])).mono ?_; rintro e w5 ⟨rfl, h5⟩)
                  | go_in)
                go_ret
                exact ⟨rfl, HNQ.out.then h5⟩
            · intro k w2 hk hnk r2 s2 z2 hen
              have c2 := s2.cell
              have f2 := s2.frozen
              have hl := r2.len
              simp only [List.length_append, List.length_cons, List.length_nil] at hl
              have hn2 : New wr w2 := HN2.out.trans s2.chg (fun _ _ h => h) (fun i hi e => by omega)
              have hno2 : New wo w2 := HN1.out.then hn2
              have ht2 := HTK.out.new hno2
              have hs12 : SetV w2 v1 V1 := HC.out.s1.1.chg (HWO.out.then hno2) (by simp)
              have hs02 : SetV w2 v0 V0 := HC.out.s0.chg (HWO.out.then hno2) (by simp)
              have hx := HI.out.learn k hk
              obtain ⟨p, hlk, hfl⟩ := ht2.at HI.out (.inr (.inr hk))
              have e1 : decide (k ∈ V1) = false := by simpa using hx.2
              have e0 : decide (k ∈ V0) = false := by simpa using hx.1
              have e2 : decide (k ∈ L) = true := by simpa using hk
              rw [e2] at hfl
              have hfl4 : ∀ o1 o2 o3 o4, ((((w2.alloc o1).alloc o2).alloc o3).alloc o4).cell? ⟨p, 8, none⟩ = some (.bool true) := fun o1 o2 o3 o4 =>
                (((((Chg.alloc w2 o1 (fun _ => False)).then (Chg.alloc _ o2 _)).then (Chg.alloc _ o3 _)).then (Chg.alloc _ o4 _)).cell (World.block_lt_of_cell? w2 _ hfl) (by simp)).trans hfl
              clear hfl
              have HM2 := Lib.hid hn2; have HT2 := Lib.hid ht2; have HS2 := Lib.hid hs12; have HS0 := Lib.hid hs02; clear hn2 ht2 hs12 hs02 hx e2 hno2
              go_wp2_with (first
                | (at_lookup; refine set_lookup rfl _ _ _ rfl mt70 rfl (HS2.out.alloc _) rfl ?_)
                | (at_lookup; refine set_lookup rfl _ _ _ rfl mt70 rfl (((HS0.out.alloc _).alloc _).alloc _) rfl ?_)
                | (at_lookup; refine op_lookup rfl _ _ _ rfl mt87 rfl ((((HT2.out.alloc _).alloc _).alloc _).alloc _).map rfl ?_)
                | go_in)
              go_roundg (gk - 1)
              case measure => have := HL2.out; omega
              case rel => exact ⟨done ++ [k], by have := HL2.out; simp; omega, (((r2.alloc _).alloc _).alloc _).alloc _, (((HM2.out.then (Chg.alloc _ _ _)).then (Chg.alloc _ _ _)).then (Chg.alloc _ _ _)).then (Chg.alloc _ _ _)⟩
        · intro k w2 hk hnk r2 s2 z2 hen
          have c2 := s2.cell
          have f2 := s2.frozen
          have hl := r2.len
          simp only [List.length_append, List.length_cons, List.length_nil] at hl
          have hn2 : New wo w2 := HN1.out.trans s2.chg (fun _ _ h => h) (fun i hi e => by omega)
          have ht2 := HTK.out.new hn2
          have hs12 : SetV w2 v1 V1 := HC.out.s1.1.chg (HWO.out.then hn2) (by simp)
          have hx1 := (HI.out.next k hk).1
          have hxl : k ∉ L := fun h => (HI.out.learn k h).2 hx1
          obtain ⟨p, hlk, hfl⟩ := ht2.at HI.out (.inr (.inl hx1))
          have e1 : decide (k ∈ V1) = true := by simpa using hx1
          have e2 : decide (k ∈ L) = false := by simpa using hxl
          rw [e2, c2] at hfl
          have HN2 := Lib.hid hn2; have HT2 := Lib.hid ht2; have HS2 := Lib.hid hs12; clear hn2 ht2 hs12 hx1 hxl e2
          go_wp2_with (first
            | (at_lookup; refine set_lookup rfl _ _ _ rfl mt70 rfl (HS2.out.alloc _) rfl ?_)
            | (at_lookup; refine op_lookup rfl _ _ _ rfl mt87 rfl ((HT2.out.alloc _).alloc _).map rfl ?_)
            | go_in)
          go_roundg (gk - 1)
          case measure => have := HL1.out; omega
          case rel => exact ⟨done ++ [k], by have := HL1.out; simp; omega, (r2.alloc _).alloc _, (HN2.out.then (Chg.alloc _ _ _)).then (Chg.alloc _ _ _)⟩
    · have hsel : ∃ ob S, wo.cell? ⟨pb, i.toNat, none⟩ = some (.map ob) ∧ SetV wo ob S ∧ (∀ x ∈ S, x ∈ V0 ∨ x ∈ V1 ∨ x ∈ L) ∧ 0 ≤ i ∧ i < 3 := by
        have hp := HN.out.keeps HPA.out (by simp)
        have hcf := HC.out
        rcases hi with rfl | rfl | rfl | rfl
        · exact ⟨_, t, cell_of_block hp rfl, HTA.out.chg HN.out (by simp), fun x hx => by rcases (HM.out x).1 hx with h | h; exact .inl h; exact .inr (.inl h), by omega, by omega⟩
        · exact ⟨_, L, cell_of_block hp rfl, hcf.sl.1.chg HWO.out (by simp), fun x hx => .inr (.inr hx), by omega, by omega⟩
        · exact ⟨_, N, cell_of_block hp rfl, hcf.sn.1.chg HWO.out (by simp), fun x hx => .inr (.inl (HI.out.next x hx).1), by omega, by omega⟩
        · exact absurd rfl h3
      obtain ⟨ob, S, hcell, hS, hsub, hi0, hi3⟩ := hsel
      have HS := Lib.hid hS; have HSUB := Lib.hid hsub; have HII := Lib.hid hi; clear hS hsub hi h3
      go_wp2_with (first | (at_range; refine set_range rfl _ _ rfl mt69 rfl HS.out ?_; intro w1 r1 s1 z1) | go_in)
      go_frame
      go_loopg [7] S.length (fun n _ wr => ∃ done : List Int, S.length ≤ done.length + n ∧ RangS wr wo.heap.size ob S done ∧ New wo wr)
      case atStart => exact ⟨[], by simp, r1, s1.chg⟩
      case round =>
        obtain ⟨done, hn, hr, hnew⟩ := hrel
        have HN1 := Lib.hid hnew; have HR := Lib.hid hr; have HL1 := Lib.hid hn
        clear hnew hr hn r1 s1 z1
        go_wp2_with (first
          | (at_next; refine set_next rfl _ rfl rfl HR.out ?_ ?_)
          | go_in)
        · intro hp
          go_wp2
          go_roundg (g0 - 1)
          case measure => have := HG.out; omega
          case rel =>
            have hii := HII.out
            refine ⟨i + 1, by omega, by have := HG.out; omega, by go_num, HN.out.then HN1.out⟩
        · intro k w2 hk hnk r2 s2 z2 hen
          have hl := r2.len
          simp only [List.length_append, List.length_cons, List.length_nil] at hl
          have hn2 : New wo w2 := HN1.out.trans s2.chg (fun _ _ h => h) (fun i hi e => by omega)
          have ht2 := HTK.out.new hn2
          obtain ⟨p, hlk, hfl⟩ := ht2.at HI.out (HSUB.out k hk)
          have HN2 := Lib.hid hn2; have HT2 := Lib.hid ht2; clear hn2 ht2 hfl
          go_wp2_with (first
            | (at_lookup; refine op_lookup_ok rfl _ _ _ rfl mt87 rfl HT2.out.map rfl ?_)
            | go_in)
          go_roundg (gk - 1)
          case measure => have := HL1.out; omega
          case rel => exact ⟨done ++ [k], by have := HL1.out; simp; omega, r2, HN2.out⟩
end Go.Proofs.Ytcgccoigjcdjeaa
