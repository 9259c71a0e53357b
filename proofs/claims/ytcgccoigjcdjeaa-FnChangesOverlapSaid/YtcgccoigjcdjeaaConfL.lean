/- confchange.apply: a list of changes over a sound configuration. Condition: the kinds 0, 1, 3. -/
import Derived.Test.YtcgccoigjcdjeaaConfK
namespace Go.Proofs.Ytcgccoigjcdjeaa
open Go.RowKit

def Sound (w : World) (F : Nat → Prop) (cb b0 : Nat) (al : Bool) (v1 : Option Nat) (tk : Nat) (V1 V0 L N : List Int) : Prop :=
  ∃ ln nx T, Raw w F cb b0 al v1 ln nx tk V0 V1 L N T ∧ Inv V0 V1 L N T

theorem NSet.perm {w : World} {o : Option Nat} {s t : List Int} (h : NSet w o s) (p : s.Perm t) : NSet w o t :=
  ⟨h.1.perm p, h.2.trans ⟨fun e => by subst e; exact p.nil_eq.symm, fun e => by subst e; exact p.symm.nil_eq.symm⟩⟩
theorem Raw.perm {w : World} {F : Nat → Prop} {cb b0 : Nat} {al : Bool} {v1 ln nx : Option Nat} {tk : Nat} {V0 V1 L N : List Int} {T : List (Int × Nat × Bool)} (h : Raw w F cb b0 al v1 ln nx tk V0 V1 L N T) {V0' L' N' : List Int} (p0 : V0.Perm V0') (pl : L.Perm L') (pn : N.Perm N') : Raw w F cb b0 al v1 ln nx tk V0' V1 L' N' T :=
  ⟨h.blk, h.s0.perm p0, h.s1, h.sl.perm pl, h.sn.perm pn, h.trk, h.fresh, h.apart, h.pfresh, h.cbB, h.up⟩
theorem Inv.perm {V0 V1 L N : List Int} {T : List (Int × Nat × Bool)} (h : Inv V0 V1 L N T) {V0' L' N' : List Int} (p0 : V0.Perm V0') (pl : L.Perm L') (pn : N.Perm N') : Inv V0' V1 L' N' T :=
  ⟨fun x hx => h.sub x (by rcases hx with h | h | h; exact .inl (p0.mem_iff.2 h); exact .inr (.inl h); exact .inr (.inr (pl.mem_iff.2 h))),
    fun t ht => by rcases h.sup t ht with h | h | h; exact .inl (p0.mem_iff.1 h); exact .inr (.inl h); exact .inr (.inr (pl.mem_iff.1 h)),
    fun t ht => by rw [h.flag t ht]; exact decide_eq_decide.2 pl.mem_iff,
    fun x hx => by have := h.next x (pn.mem_iff.2 hx); exact ⟨this.1, fun h => this.2 (p0.mem_iff.2 h)⟩,
    fun x hx => by have := h.learn x (pl.mem_iff.2 hx); exact ⟨fun h => this.1 (p0.mem_iff.2 h), this.2⟩⟩
theorem Sound.nodup {w : World} {F : Nat → Prop} {cb b0 : Nat} {al : Bool} {v1 : Option Nat} {tk : Nat} {V1 V0 L N : List Int} (h : Sound w F cb b0 al v1 tk V1 V0 L N) : V0.Nodup ∧ V1.Nodup ∧ L.Nodup ∧ N.Nodup := by
  obtain ⟨ln, nx, T, hr, _⟩ := h
  exact ⟨hr.s0.nodup, hr.s1.1.nodup, hr.sl.1.nodup, hr.sn.1.nodup⟩
theorem Sound.new {w w' : World} {F : Nat → Prop} {cb b0 : Nat} {al : Bool} {v1 : Option Nat} {tk : Nat} {V1 V0 L N : List Int} (h : Sound w F cb b0 al v1 tk V1 V0 L N) (c : New w w') : Sound w' F cb b0 al v1 tk V1 V0 L N := by
  obtain ⟨ln, nx, T, hr, hi⟩ := h
  exact ⟨ln, nx, T, hr.new c, hi⟩
theorem ApTo.sound {w w' : World} {F : Nat → Prop} {cb b0 : Nat} {al : Bool} {v1 : Option Nat} {tk : Nat} {V1 : List Int} {P0 PL PN : Int → Prop} {e : Ending} (h : ApTo w F cb b0 al v1 tk V1 P0 PL PN e w') {V0 L N : List Int}
    (n0 : V0.Nodup) (nl : L.Nodup) (nn : N.Nodup) (m0 : ∀ x, x ∈ V0 ↔ P0 x) (ml : ∀ x, x ∈ L ↔ PL x) (mn : ∀ x, x ∈ N ↔ PN x) : e = .returned (.tuple #[]) ∧ Sound w' F cb b0 al v1 tk V1 V0 L N ∧ Chg w w' F := by
  obtain ⟨ln, nx, V0', L', N', T, he, hr, hi, h0, hl, hn, hc⟩ := h
  have p0 : V0'.Perm V0 := (List.perm_ext_iff_of_nodup hr.s0.nodup n0).2 fun x => (h0 x).trans (m0 x).symm
  have pl : L'.Perm L := (List.perm_ext_iff_of_nodup hr.sl.1.nodup nl).2 fun x => (hl x).trans (ml x).symm
  have pn : N'.Perm N := (List.perm_ext_iff_of_nodup hr.sn.1.nodup nn).2 fun x => (hn x).trans (mn x).symm
  exact ⟨he, ⟨ln, nx, T, hr.perm p0 pl pn, hi.perm p0 pl pn⟩, hc⟩

theorem Raw.weaken {w : World} {F G : Nat → Prop} {cb b0 : Nat} {al : Bool} {v1 ln nx : Option Nat} {tk : Nat} {V0 V1 L N : List Int} {T : List (Int × Nat × Bool)} (h : Raw w F cb b0 al v1 ln nx tk V0 V1 L N T) (hF : ∀ i, F i → G i) : Raw w G cb b0 al v1 ln nx tk V0 V1 L N T :=
  ⟨h.blk, h.s0, h.s1, h.sl, h.sn, h.trk, fun b hb => hF b (h.fresh b hb), h.apart, fun t ht => hF _ (h.pfresh t ht), hF _ h.cbB, fun i hi => hF _ (h.up i hi)⟩
/-- a new block that is set aside -/
def But (F : Nat → Prop) (b : Nat) (i : Nat) : Prop := F i ∧ i ≠ b
theorem Raw.box {w : World} {F : Nat → Prop} {cb b0 : Nat} {al : Bool} {v1 ln nx : Option Nat} {tk : Nat} {V0 V1 L N : List Int} {T : List (Int × Nat × Bool)} (h : Raw w F cb b0 al v1 ln nx tk V0 V1 L N T) (o : Obj) : Raw (w.alloc o) (But F w.heap.size) cb b0 al v1 ln nx tk V0 V1 L N T := by
  have h' := h.new (Chg.alloc w o _)
  refine ⟨h'.blk, h'.s0, h'.s1, h'.sl, h'.sn, h'.trk, fun b hb => ⟨h.fresh b hb, ?_⟩, h'.apart, fun t ht => ⟨h.pfresh t ht, ?_⟩, ⟨h.cbB, ?_⟩, fun i hi => ⟨h.up i (by simp at hi; omega), by simp at hi; omega⟩⟩
  · simp only [List.mem_cons, List.not_mem_nil, or_false] at hb
    rcases hb with e | e | e | e | e
    · cases e; have := h.s0.lt; omega
    · have := h.s1.1; rw [← e] at this; have := this.lt; omega
    · have := h.sl.1; rw [← e] at this; have := this.lt; omega
    · have := h.sn.1; rw [← e] at this; have := this.lt; omega
    · cases e; have := MapB.lt h.trk.map; omega
  · obtain ⟨q, hq⟩ := h.trk.prog t ht
    have := lt_of_block hq; omega
  · have := lt_of_block h.blk; omega
theorem Sound.box {w : World} {F : Nat → Prop} {cb b0 : Nat} {al : Bool} {v1 : Option Nat} {tk : Nat} {V1 V0 L N : List Int} (h : Sound w F cb b0 al v1 tk V1 V0 L N) (o : Obj) : Sound (w.alloc o) (But F w.heap.size) cb b0 al v1 tk V1 V0 L N := by
  obtain ⟨ln, nx, T, hr, hi⟩ := h
  exact ⟨ln, nx, T, hr.box o, hi⟩
theorem Sound.weaken {w : World} {F G : Nat → Prop} {cb b0 : Nat} {al : Bool} {v1 : Option Nat} {tk : Nat} {V1 V0 L N : List Int} (h : Sound w F cb b0 al v1 tk V1 V0 L N) (hF : ∀ i, F i → G i) : Sound w G cb b0 al v1 tk V1 V0 L N := by
  obtain ⟨ln, nx, T, hr, hi⟩ := h
  exact ⟨ln, nx, T, hr.weaken hF, hi⟩
theorem Sound.voters {w : World} {F : Nat → Prop} {cb b0 : Nat} {al : Bool} {v1 : Option Nat} {tk : Nat} {V1 V0 L N : List Int} (h : Sound w F cb b0 al v1 tk V1 V0 L N) : w.cell? ⟨cb, 0, none⟩ = some (.map (some b0)) ∧ w.cell? ⟨cb, 1, none⟩ = some (.map v1) ∧ SetV w (some b0) V0 ∧ SetV w v1 V1 := by
  obtain ⟨ln, nx, T, hr, hi⟩ := h
  exact ⟨cell_of_block hr.blk rfl, cell_of_block hr.blk rfl, hr.s0, hr.s1.1⟩

/-- a configuration's sets that change: who votes, who learns, who is to learn -/
abbrev Cf := List Int × List Int × List Int
/-- one change: its kind (0: votes, 1: is no more, 3: learns), the member -/
def stepC (V1 : List Int) (c : Cf) (x : Int × Int) : Cf :=
  if x.2 = 0 then c
  else if x.1 = 0 then (ins c.1 x.2, out c.2.1 x.2, out c.2.2 x.2)
  else if x.1 = 3 then (if x.2 ∈ V1 then (out c.1 x.2, c.2.1, ins c.2.2 x.2) else (out c.1 x.2, ins c.2.1 x.2, out c.2.2 x.2))
  else if x.1 = 1 then (out c.1 x.2, out c.2.1 x.2, out c.2.2 x.2)
  else c
def foldC (V1 : List Int) (c : Cf) (l : List (Int × Int)) : Cf := l.foldl (stepC V1) c

/-- A slice of pointers to changes, all below the blocks in F. -/
def Ccs (w : World) (F : Nat → Prop) (v : Value) (l : List (Int × Int)) : Prop :=
  ∃ (ao : Option Addr) (cap : Nat), v = .slice ao l.length cap ∧ ∀ i (hi : i < l.length), ∃ sb so pb, ao = some ⟨sb, so, none⟩ ∧ ¬ F sb ∧ ¬ F pb ∧ sb < w.heap.size ∧ pb < w.heap.size ∧
    w.cell? ⟨sb, so + i, none⟩ = some (.pointer (some ⟨pb, 0, none⟩)) ∧ w.cell? ⟨pb, 0, none⟩ = some (.int .i32 (l[i]'hi).1) ∧ w.cell? ⟨pb, 1, none⟩ = some (.int .u64 (l[i]'hi).2)

theorem id_any (pb : Nat) (k : Int) (w : World) (h : w.cell? ⟨pb, 1, none⟩ = some (.int .u64 k)) : Calls Try.prog 101 #[.pointer (some ⟨pb, 0, none⟩)] w fun e w' => e = .returned (.int .u64 k) ∧ w = w' := by
  go_enter Try.func101, Try.ntmps101
  go_wp2
  go_ret
  exact ⟨rfl, rfl⟩
theorem kind_any (pb : Nat) (k : Int) (w : World) (h : w.cell? ⟨pb, 0, none⟩ = some (.int .i32 k)) : Calls Try.prog 102 #[.pointer (some ⟨pb, 0, none⟩)] w fun e w' => e = .returned (.int .i32 k) ∧ w = w' := by
  go_enter Try.func102, Try.ntmps102
  go_wp2
  go_ret
  exact ⟨rfl, rfl⟩

theorem step_zero (V1 : List Int) (c : Cf) (ty : Int) : stepC V1 c (ty, 0) = c := by simp [stepC]
theorem step_voter (V1 : List Int) (c : Cf) {k : Int} (h : k ≠ 0) : stepC V1 c (0, k) = (ins c.1 k, out c.2.1 k, out c.2.2 k) := by simp [stepC, h]
theorem step_gone (V1 : List Int) (c : Cf) {k : Int} (h : k ≠ 0) : stepC V1 c (1, k) = (out c.1 k, out c.2.1 k, out c.2.2 k) := by simp [stepC, h]
theorem step_learn (V1 : List Int) (c : Cf) {k : Int} (h : k ≠ 0) : stepC V1 c (3, k) = if k ∈ V1 then (out c.1 k, c.2.1, ins c.2.2 k) else (out c.1 k, ins c.2.1 k, out c.2.2 k) := by simp [stepC, h]
theorem fold_take (V1 : List Int) (c : Cf) (l : List (Int × Int)) (i : Nat) (h : i < l.length) : foldC V1 c (l.take (i + 1)) = stepC V1 (foldC V1 c (l.take i)) l[i] := by
  unfold foldC
  rw [List.take_succ_eq_append_getElem h, List.foldl_append]; rfl

def Applied (w : World) (F : Nat → Prop) (cb b0 : Nat) (al : Bool) (v1 : Option Nat) (tk : Nat) (V1 : List Int) (c : Cf) (e : Ending) (w' : World) : Prop :=
  Sound w' F cb b0 al v1 tk V1 c.1 c.2.1 c.2.2 ∧ Chg w w' F ∧ ((c.1 ≠ [] ∧ e = .returned .nilIface) ∨ (c.1 = [] ∧ ∃ s, e = .returned (.iface 130 (.string s))))

set_option maxRecDepth 100000 in
set_option maxHeartbeats 1600000 in
theorem apply_any (v0' v1' ln' nx' tk' vt' : Option Nat) (al' : Bool) (w : World) (F : Nat → Prop) (cb b0 : Nat) (al : Bool) (v1 : Option Nat) (tk : Nat) (V0 V1 L N : List Int) (sv : Value) (l : List (Int × Int))
    (hs : Sound w F cb b0 al v1 tk V1 V0 L N) (hl : Ccs w F sv l) (hk : ∀ x ∈ l, x.1 = 0 ∨ x.1 = 1 ∨ x.1 = 3) (hn : l.length ≤ 1000000) :
    Calls Try.prog 79 #[chgOf v0' v1' al' ln' nx' tk' vt', .pointer (some ⟨cb, 0, none⟩), .map (some tk), sv] w (Applied w F cb b0 al v1 tk V1 (foldC V1 (V0, L, N) l)) := by
  have hbx := hs.box (.cells #[.map v0', .map v1', .bool al', .map ln', .map nx', .map tk', .map vt', .int .i64 10, .int .u64 0, .int .u64 1] 96)
  obtain ⟨ao, cap, rfl, hcs⟩ := hl
  have HBX := Lib.hid hbx; have HCS := Lib.hid hcs; have HK := Lib.hid hk; clear hbx hcs hk hs
  unfold chgOf
  go_enter Try.func79, Try.ntmps79
  go_wp2_with fail
  go_loopg [13] l.length (fun n j wr => ∃ i : Nat, i ≤ l.length ∧ l.length ≤ n + i ∧ j = .int .i64 i ∧ Sound wr (But F w.heap.size) cb b0 al v1 tk V1 (foldC V1 (V0, L, N) (l.take i)).1 (foldC V1 (V0, L, N) (l.take i)).2.1 (foldC V1 (V0, L, N) (l.take i)).2.2 ∧ Chg w wr F ∧
    wr.heap[w.heap.size]? = some (.cells #[.map v0', .map v1', .bool al', .map ln', .map nx', .map tk', .map vt', .int .i64 10, .int .u64 0, .int .u64 1] 96 (0, 0)))
  case atStart => exact ⟨0, by omega, by omega, rfl, HBX.out, Chg.alloc w _ _, block_new w _⟩
  case round =>
    obtain ⟨i, hi, hgi, rfl, hso, hch, hbl⟩ := hrel
    have HSO := Lib.hid hso; have HCH := Lib.hid hch; have HBL := Lib.hid hbl; have HG := Lib.hid hgi; clear hso hch hbl hgi
    by_cases hlt : i < l.length
    · obtain ⟨sb, so, pb, hao, hFs, hFp, hls, hlp, hc0, hc1, hc2⟩ := HCS.out i hlt
      subst hao
      obtain ⟨x, hx⟩ : ∃ x, x = l[i] := ⟨_, rfl⟩
      have hkx := HK.out l[i] (List.getElem_mem hlt)
      have hft := fold_take V1 (V0, L, N) l i hlt
      rw [← hx] at hc1 hc2 hkx hft
      obtain ⟨ty, k⟩ := x
      simp only at hc1 hc2 hkx
      have p0 : wr.cell? ⟨sb, so + i, none⟩ = some (.pointer (some ⟨pb, 0, none⟩)) := (HCH.out.cell hls hFs).trans hc0
      have p1 : wr.cell? ⟨pb, 0, none⟩ = some (.int .i32 ty) := (HCH.out.cell hlp hFp).trans hc1
      have p2 : wr.cell? ⟨pb, 1, none⟩ = some (.int .u64 k) := (HCH.out.cell hlp hFp).trans hc2
      have HFT := Lib.hid hft
      clear hx hc0 hc1 hc2 hFs hFp hls hlp hft
      by_cases hk0 : k = 0
      · subst hk0
        clear hkx
        go_wp2_with (first
          | (go_at_call 101; refine (id_any pb 0 _ p2).mono ?_; rintro e w1 ⟨rfl, rfl⟩))
        go_roundg (gk - 1)
        case measure => have := HG.out; omega
        case rel =>
          refine ⟨i + 1, by omega, by have := HG.out; omega, by go_num, ?_, HCH.out, HBL.out⟩
          rw [HFT.out, step_zero]; exact HSO.out
      · have hkb : (k == 0) = false := by simpa using hk0
        have HK0 := Lib.hid hk0; clear hk0
        generalize foldC V1 (V0, L, N) (l.take i) = c at HSO HFT
        obtain ⟨ln, nx, T, hr, hinv⟩ := HSO.out
        have hnd := HSO.out.nodup
        have HR := Lib.hid hr; have HINV := Lib.hid hinv; have HND := Lib.hid hnd; clear hr hinv hnd
        have hbw := lt_of_block HBL.out
        have b0' : wr.cell? ⟨w.heap.size, 0, none⟩ = some (.map v0') := cell_of_block HBL.out rfl
        have b1' : wr.cell? ⟨w.heap.size, 1, none⟩ = some (.map v1') := cell_of_block HBL.out rfl
        have b2' : wr.cell? ⟨w.heap.size, 2, none⟩ = some (.bool al') := cell_of_block HBL.out rfl
        have b3' : wr.cell? ⟨w.heap.size, 3, none⟩ = some (.map ln') := cell_of_block HBL.out rfl
        have b4' : wr.cell? ⟨w.heap.size, 4, none⟩ = some (.map nx') := cell_of_block HBL.out rfl
        have b5' : wr.cell? ⟨w.heap.size, 5, none⟩ = some (.map tk') := cell_of_block HBL.out rfl
        have b6' : wr.cell? ⟨w.heap.size, 6, none⟩ = some (.map vt') := cell_of_block HBL.out rfl
        have b7' : wr.cell? ⟨w.heap.size, 7, none⟩ = some (.int .i64 10) := cell_of_block HBL.out rfl
        have b8' : wr.cell? ⟨w.heap.size, 8, none⟩ = some (.int .u64 0) := cell_of_block HBL.out rfl
        have b9' : wr.cell? ⟨w.heap.size, 9, none⟩ = some (.int .u64 1) := cell_of_block HBL.out rfl
        rcases hkx with rfl | rfl | rfl
        · go_wp2_with (first
            | (go_at_call 101; refine (id_any pb k _ p2).mono ?_; rintro e w1 ⟨rfl, rfl⟩)
            | (go_at_call 102; refine (kind_any pb 0 _ p1).mono ?_; rintro e w1 ⟨rfl, rfl⟩))
          go_region_held3 (fun w' => w'.cell? ⟨w.heap.size, 0, none⟩ = some (.map v0') ∧ w'.cell? ⟨w.heap.size, 1, none⟩ = some (.map v1') ∧ w'.cell? ⟨w.heap.size, 2, none⟩ = some (.bool al') ∧ w'.cell? ⟨w.heap.size, 3, none⟩ = some (.map ln') ∧ w'.cell? ⟨w.heap.size, 4, none⟩ = some (.map nx') ∧ w'.cell? ⟨w.heap.size, 5, none⟩ = some (.map tk') ∧ w'.cell? ⟨w.heap.size, 6, none⟩ = some (.map vt') ∧ w'.cell? ⟨w.heap.size, 7, none⟩ = some (.int .i64 10) ∧ w'.cell? ⟨w.heap.size, 8, none⟩ = some (.int .u64 0) ∧ w'.cell? ⟨w.heap.size, 9, none⟩ = some (.int .u64 1)) (go_keep)
            (first
              | (go_at_call 101; refine (id_any pb k _ (by exact p2)).mono ?_; rintro e w1 ⟨rfl, rfl⟩)
              | (go_at_call 103; refine (voter_any v0' v1' ln' nx' tk' vt' al' _ (But F w.heap.size) cb b0 al v1 ln nx tk c.1 V1 c.2.1 c.2.2 T k (HR.out.new (Chg.drew wr _)) HINV.out).mono ?_; intro e w2 hap; obtain ⟨rfl, hs2, hch2⟩ := hap.sound (nodup_ins HND.out.1) (nodup_out HND.out.2.2.1) (nodup_out HND.out.2.2.2) (fun x => mem_ins) (fun x => mem_out) (fun x => mem_out); have kk : ∀ j, w2.cell? ⟨w.heap.size, j, none⟩ = wr.drew.cell? ⟨w.heap.size, j, none⟩ := fun j => hch2.cell hbw (fun h => h.2 rfl)))
          all_goals
            have hch3 : Chg w w2 F := HCH.out.trans ((Chg.drew wr (But F w.heap.size)).then hch2) (fun _ _ h => h) (fun _ _ h => h.1)
            have hbl2 := hch2.keeps HBL.out (fun h => h.2 rfl)
            have HS2 := Lib.hid hs2; have HC3 := Lib.hid hch3; have HB2 := Lib.hid hbl2
            rename_i hH
            clear hH hap hs2 hch2 hch3 hbl2 kk
            go_wp2
            go_roundg (gk - 1)
            case measure => have := HG.out; omega
            case rel =>
              refine ⟨i + 1, by omega, by have := HG.out; omega, by go_num, ?_, HC3.out, HB2.out⟩
              rw [HFT.out, step_voter V1 c HK0.out]; exact HS2.out
        · go_wp2_with (first
            | (go_at_call 101; refine (id_any pb k _ p2).mono ?_; rintro e w1 ⟨rfl, rfl⟩)
            | (go_at_call 102; refine (kind_any pb 1 _ p1).mono ?_; rintro e w1 ⟨rfl, rfl⟩))
          go_region_held3 (fun w' => w'.cell? ⟨w.heap.size, 0, none⟩ = some (.map v0') ∧ w'.cell? ⟨w.heap.size, 1, none⟩ = some (.map v1') ∧ w'.cell? ⟨w.heap.size, 2, none⟩ = some (.bool al') ∧ w'.cell? ⟨w.heap.size, 3, none⟩ = some (.map ln') ∧ w'.cell? ⟨w.heap.size, 4, none⟩ = some (.map nx') ∧ w'.cell? ⟨w.heap.size, 5, none⟩ = some (.map tk') ∧ w'.cell? ⟨w.heap.size, 6, none⟩ = some (.map vt') ∧ w'.cell? ⟨w.heap.size, 7, none⟩ = some (.int .i64 10) ∧ w'.cell? ⟨w.heap.size, 8, none⟩ = some (.int .u64 0) ∧ w'.cell? ⟨w.heap.size, 9, none⟩ = some (.int .u64 1)) (go_keep)
            (first
              | (go_at_call 101; refine (id_any pb k _ (by exact p2)).mono ?_; rintro e w1 ⟨rfl, rfl⟩)
              | (go_at_call 105; refine (rem_any v0' v1' ln' nx' tk' vt' al' _ (But F w.heap.size) cb b0 al v1 ln nx tk c.1 V1 c.2.1 c.2.2 T k (HR.out.new (Chg.drew wr _)) HINV.out).mono ?_; intro e w2 hap; obtain ⟨rfl, hs2, hch2⟩ := hap.sound (nodup_out HND.out.1) (nodup_out HND.out.2.2.1) (nodup_out HND.out.2.2.2) (fun x => mem_out) (fun x => mem_out) (fun x => mem_out); have kk : ∀ j, w2.cell? ⟨w.heap.size, j, none⟩ = wr.drew.cell? ⟨w.heap.size, j, none⟩ := fun j => hch2.cell hbw (fun h => h.2 rfl)))
          all_goals
            have hch3 : Chg w w2 F := HCH.out.trans ((Chg.drew wr (But F w.heap.size)).then hch2) (fun _ _ h => h) (fun _ _ h => h.1)
            have hbl2 := hch2.keeps HBL.out (fun h => h.2 rfl)
            have HS2 := Lib.hid hs2; have HC3 := Lib.hid hch3; have HB2 := Lib.hid hbl2
            rename_i hH
            clear hH hap hs2 hch2 hch3 hbl2 kk
            go_wp2
            go_roundg (gk - 1)
            case measure => have := HG.out; omega
            case rel =>
              refine ⟨i + 1, by omega, by have := HG.out; omega, by go_num, ?_, HC3.out, HB2.out⟩
              rw [HFT.out, step_gone V1 c HK0.out]; exact HS2.out
        · have hd3 : (stepC V1 c (3, k)).1.Nodup ∧ (stepC V1 c (3, k)).2.1.Nodup ∧ (stepC V1 c (3, k)).2.2.Nodup := by
            rw [step_learn V1 c HK0.out]
            have h := HND.out
            split
            · exact ⟨nodup_out h.1, h.2.2.1, nodup_ins h.2.2.2⟩
            · exact ⟨nodup_out h.1, nodup_ins h.2.2.1, nodup_out h.2.2.2⟩
          have hm3 : (∀ x, x ∈ (stepC V1 c (3, k)).1 ↔ x ∈ c.1 ∧ x ≠ k) ∧ (∀ x, x ∈ (stepC V1 c (3, k)).2.1 ↔ x ∈ c.2.1 ∨ (x = k ∧ k ∉ V1)) ∧ (∀ x, x ∈ (stepC V1 c (3, k)).2.2 ↔ (x ∈ c.2.2 ∧ x ≠ k) ∨ (x = k ∧ k ∈ V1)) := by
            rw [step_learn V1 c HK0.out]
            by_cases hV : k ∈ V1
            · rw [if_pos hV]
              refine ⟨fun x => mem_out, fun x => ⟨fun h => .inl h, fun h => by rcases h with h | h; exact h; exact absurd hV h.2⟩, fun x => ?_⟩
              rw [mem_ins]
              by_cases hx : x = k
              · simp [hx, hV]
              · simp [hx]
            · rw [if_neg hV]
              refine ⟨fun x => mem_out, fun x => ?_, fun x => ?_⟩
              · rw [mem_ins]; simp [hV]
              · rw [mem_out]; simp [hV]
          have HD3 := Lib.hid hd3; have HM3 := Lib.hid hm3; clear hd3 hm3
          go_wp2_with (first
            | (go_at_call 101; refine (id_any pb k _ p2).mono ?_; rintro e w1 ⟨rfl, rfl⟩)
            | (go_at_call 102; refine (kind_any pb 3 _ p1).mono ?_; rintro e w1 ⟨rfl, rfl⟩))
          go_region_held3 (fun w' => w'.cell? ⟨w.heap.size, 0, none⟩ = some (.map v0') ∧ w'.cell? ⟨w.heap.size, 1, none⟩ = some (.map v1') ∧ w'.cell? ⟨w.heap.size, 2, none⟩ = some (.bool al') ∧ w'.cell? ⟨w.heap.size, 3, none⟩ = some (.map ln') ∧ w'.cell? ⟨w.heap.size, 4, none⟩ = some (.map nx') ∧ w'.cell? ⟨w.heap.size, 5, none⟩ = some (.map tk') ∧ w'.cell? ⟨w.heap.size, 6, none⟩ = some (.map vt') ∧ w'.cell? ⟨w.heap.size, 7, none⟩ = some (.int .i64 10) ∧ w'.cell? ⟨w.heap.size, 8, none⟩ = some (.int .u64 0) ∧ w'.cell? ⟨w.heap.size, 9, none⟩ = some (.int .u64 1)) (go_keep)
            (first
              | (go_at_call 101; refine (id_any pb k _ (by exact p2)).mono ?_; rintro e w1 ⟨rfl, rfl⟩)
              | (go_at_call 104; refine (learner_any v0' v1' ln' nx' tk' vt' al' _ (But F w.heap.size) cb b0 al v1 ln nx tk c.1 V1 c.2.1 c.2.2 T k (HR.out.new (Chg.drew wr _)) HINV.out).mono ?_; intro e w2 hap; obtain ⟨rfl, hs2, hch2⟩ := hap.sound (V0 := (stepC V1 c (3, k)).1) (L := (stepC V1 c (3, k)).2.1) (N := (stepC V1 c (3, k)).2.2) HD3.out.1 HD3.out.2.1 HD3.out.2.2 HM3.out.1 HM3.out.2.1 HM3.out.2.2; have kk : ∀ j, w2.cell? ⟨w.heap.size, j, none⟩ = wr.drew.cell? ⟨w.heap.size, j, none⟩ := fun j => hch2.cell hbw (fun h => h.2 rfl)))
          all_goals
            have hch3 : Chg w w2 F := HCH.out.trans ((Chg.drew wr (But F w.heap.size)).then hch2) (fun _ _ h => h) (fun _ _ h => h.1)
            have hbl2 := hch2.keeps HBL.out (fun h => h.2 rfl)
            have HS2 := Lib.hid hs2; have HC3 := Lib.hid hch3; have HB2 := Lib.hid hbl2
            rename_i hH
            clear hH hap hs2 hch2 hch3 hbl2 kk
            go_wp2
            go_roundg (gk - 1)
            case measure => have := HG.out; omega
            case rel =>
              refine ⟨i + 1, by omega, by have := HG.out; omega, by go_num, ?_, HC3.out, HB2.out⟩
              rw [HFT.out]; exact HS2.out
    · have hil : i = l.length := by omega
      subst hil
      rw [List.take_length] at HSO
      have hv := HSO.out.voters
      obtain ⟨q0, q1, hs0, hs1⟩ := hv
      have HS0 := Lib.hid hs0; clear hs0 hs1
      by_cases h0 : (foldC V1 (V0, L, N) l).1 = []
      · have hlen : (foldC V1 (V0, L, N) l).1.length = 0 := by rw [h0]; rfl
        have HL0 := Lib.hid h0; clear h0
        go_wp2_with (first
          | (at_len; refine set_len rfl _ _ rfl mt70 rfl (HS0.out.alloc _) ?_)
          | (go_at_call 81; go_in))
        go_ret
        exact ⟨(HSO.out.new (Chg.alloc _ _ _)).weaken (fun _ h => h.1), HCH.out.then (Chg.alloc _ _ _), .inr ⟨HL0.out, _, rfl⟩⟩
      · have hlen : 0 < (foldC V1 (V0, L, N) l).1.length := List.length_pos_iff.2 h0
        have hlb : (((foldC V1 (V0, L, N) l).1.length : Int) == 0) = false := by simp; exact h0
        have HL0 := Lib.hid h0; clear h0
        go_wp2_with (first
          | (at_len; refine set_len rfl _ _ rfl mt70 rfl (HS0.out.alloc _) ?_)
          | (go_at_call 81; go_in))
        go_ret
        exact ⟨(HSO.out.new (Chg.alloc _ _ _)).weaken (fun _ h => h.1), HCH.out.then (Chg.alloc _ _ _), .inl ⟨HL0.out, rfl⟩⟩
end Go.Proofs.Ytcgccoigjcdjeaa
