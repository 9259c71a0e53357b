/- A configuration under change: what each step on its maps leaves. No condition. -/
import Derived.Test.YtcgccoigjcdjeaaConfF
namespace Go.Proofs.Ytcgccoigjcdjeaa
open Go.RowKit

/-- a configuration in block cb and its progress map, under change; nothing is said of what the sets have to do with each other -/
structure Raw (w : World) (F : Nat → Prop) (cb b0 : Nat) (al : Bool) (v1 ln nx : Option Nat) (tk : Nat) (V0 V1 L N : List Int) (T : List (Int × Nat × Bool)) : Prop where
  blk : w.heap[cb]? = some (.cells #[.map (some b0), .map v1, .bool al, .map ln, .map nx] 85 (0, 0))
  s0 : SetV w (some b0) V0
  s1 : NSet w v1 V1
  sl : NSet w ln L
  sn : NSet w nx N
  trk : TrkV w (some tk) T
  fresh : ∀ b, some b ∈ [some b0, v1, ln, nx, some tk] → F b
  apart : (blocksOf [some b0, v1, ln, nx, some tk]).Nodup
  pfresh : ∀ t ∈ T, F t.2.1
  cbB : F cb
  up : ∀ i, w.heap.size ≤ i → F i

/-- pairwise apart, written out -/
structure Apart (b0 : Nat) (v1 ln nx : Option Nat) (tk : Nat) : Prop where
  a01 : v1 ≠ some b0
  a0l : ln ≠ some b0
  a0n : nx ≠ some b0
  a0t : b0 ≠ tk
  a1t : v1 ≠ some tk
  alt : ln ≠ some tk
  ant : nx ≠ some tk
  a1l : ∀ i, v1 = some i → ln ≠ some i
  a1n : ∀ i, v1 = some i → nx ≠ some i
  aln : ∀ i, ln = some i → nx ≠ some i
theorem apart_iff (b0 : Nat) (v1 ln nx : Option Nat) (tk : Nat) : (blocksOf [some b0, v1, ln, nx, some tk]).Nodup ↔ Apart b0 v1 ln nx tk := by
  constructor
  · intro h
    cases v1 <;> cases ln <;> cases nx <;> simp [blocksOf] at h <;> constructor <;> simp <;> omega
  · rintro ⟨h1, h2, h3, h4, h5, h6, h7, h8, h9, h10⟩
    cases v1 <;> cases ln <;> cases nx <;> simp [blocksOf] at * <;> omega

section
variable {w w' : World} {F : Nat → Prop} {cb b0 : Nat} {al : Bool} {v1 ln nx : Option Nat} {tk : Nat} {V0 V1 L N : List Int} {T : List (Int × Nat × Bool)}
theorem Raw.ap (h : Raw w F cb b0 al v1 ln nx tk V0 V1 L N T) : Apart b0 v1 ln nx tk := (apart_iff _ _ _ _ _).1 h.apart
theorem Raw.new (h : Raw w F cb b0 al v1 ln nx tk V0 V1 L N T) (c : New w w') : Raw w' F cb b0 al v1 ln nx tk V0 V1 L N T :=
  ⟨c.keeps h.blk (by simp), h.s0.chg c (by simp), ⟨h.s1.1.chg c (by simp), h.s1.2⟩, ⟨h.sl.1.chg c (by simp), h.sl.2⟩, ⟨h.sn.1.chg c (by simp), h.sn.2⟩, h.trk.new c, h.fresh, h.apart, h.pfresh, h.cbB, fun i hi => h.up i (Nat.le_trans c.size hi)⟩
/-- no map is a Progress, and the configuration's block is none of both -/
theorem Raw.prog_ne (h : Raw w F cb b0 al v1 ln nx tk V0 V1 L N T) {t : Int × Nat × Bool} (ht : t ∈ T) : t.2.1 ≠ cb ∧ t.2.1 ≠ b0 ∧ t.2.1 ≠ tk ∧ v1 ≠ some t.2.1 ∧ ln ≠ some t.2.1 ∧ nx ≠ some t.2.1 := by
  obtain ⟨q, hq⟩ := h.trk.prog t ht
  refine ⟨(fun e => by rw [e, h.blk] at hq; cases hq), h.s0.ne_cells hq, MapB.ne_cells h.trk.map hq, fun e => ?_, fun e => ?_, fun e => ?_⟩
  · have := h.s1.1; rw [e] at this; exact this.ne_cells hq rfl
  · have := h.sl.1; rw [e] at this; exact this.ne_cells hq rfl
  · have := h.sn.1; rw [e] at this; exact this.ne_cells hq rfl
theorem Raw.cb_ne (h : Raw w F cb b0 al v1 ln nx tk V0 V1 L N T) : cb ≠ b0 ∧ cb ≠ tk ∧ v1 ≠ some cb ∧ ln ≠ some cb ∧ nx ≠ some cb := by
  have hq := h.blk
  refine ⟨h.s0.ne_cells hq, MapB.ne_cells h.trk.map hq, fun e => ?_, fun e => ?_, fun e => ?_⟩
  · have := h.s1.1; rw [e] at this; exact this.ne_cells hq rfl
  · have := h.sl.1; rw [e] at this; exact this.ne_cells hq rfl
  · have := h.sn.1; rw [e] at this; exact this.ne_cells hq rfl
/-- the members' set turns -/
theorem Raw.set0 (h : Raw w F cb b0 al v1 ln nx tk V0 V1 L N T) {V0' : List Int} (c : Chg w w' (· = b0)) (hs : SetV w' (some b0) V0') : Raw w' F cb b0 al v1 ln nx tk V0' V1 L N T := by
  have a := h.ap
  have hc := h.cb_ne
  exact ⟨c.keeps h.blk hc.1, hs, ⟨h.s1.1.chg c (fun i e e' => a.a01 (by rw [e, e'])), h.s1.2⟩, ⟨h.sl.1.chg c (fun i e e' => a.a0l (by rw [e, e'])), h.sl.2⟩, ⟨h.sn.1.chg c (fun i e e' => a.a0n (by rw [e, e'])), h.sn.2⟩,
    h.trk.chg c (fun i e e' => a.a0t (by cases e; exact e'.symm)) (fun t ht e => (h.prog_ne ht).2.1 e), h.fresh, h.apart, h.pfresh, h.cbB, fun i hi => h.up i (Nat.le_trans c.size hi)⟩
/-- the learners' set turns -/
theorem Raw.setL (h : Raw w F cb b0 al v1 ln nx tk V0 V1 L N T) {L' : List Int} {ln' : Option Nat} (c : CellSet w cb 3 #[.map (some b0), .map v1, .bool al, .map ln, .map nx] 85 ln L' ln' w') : Raw w' F cb b0 al v1 ln' nx tk V0 V1 L' N T := by
  have a := h.ap
  have hc := h.cb_ne
  have hx : ∀ i, ln' = some i → ln = some i ∨ i = w.heap.size := fun i e => by
    rcases c.own with e1 | e1 | ⟨e1, e2⟩
    · left; rw [← e1, e]
    · rw [e1] at e; cases e
    · right; rw [e2] at e; cases e; rfl
  have l0 := h.s0.lt
  have lt' : tk < w.heap.size := MapB.lt h.trk.map
  have l1 : ∀ i, v1 = some i → i < w.heap.size := fun i e => by have := h.s1.1; rw [e] at this; exact this.lt
  have lN : ∀ i, nx = some i → i < w.heap.size := fun i e => by have := h.sn.1; rw [e] at this; exact this.lt
  refine ⟨?_, h.s0.chg c.chg ?_, ⟨h.s1.1.chg c.chg ?_, h.s1.2⟩, c.set, ⟨h.sn.1.chg c.chg ?_, h.sn.2⟩, h.trk.chg c.chg ?_ ?_, ?_, (apart_iff _ _ _ _ _).2 ⟨a.a01, ?_, a.a0n, a.a0t, a.a1t, ?_, a.ant, ?_, a.a1n, ?_⟩, h.pfresh, h.cbB, fun i hi => h.up i (Nat.le_trans c.chg.size hi)⟩
  · exact c.block
  · intro i e hi; cases e
    rcases hi with hi | hi
    · exact hc.1 hi.symm
    · exact a.a0l hi
  · intro i e hi
    rcases hi with hi | hi
    · exact hc.2.2.1 (by rw [e, hi])
    · exact a.a1l i e hi
  · intro i e hi
    rcases hi with hi | hi
    · exact hc.2.2.2.2 (by rw [e, hi])
    · exact a.aln i hi e
  · intro i e hi; cases e
    rcases hi with hi | hi
    · exact hc.2.1 hi.symm
    · exact a.alt hi
  · intro t ht hi
    have := h.prog_ne ht
    rcases hi with hi | hi
    · exact this.1 hi
    · exact this.2.2.2.2.1 hi
  · intro b hb
    have hf := h.fresh b
    simp only [List.mem_cons, List.not_mem_nil, or_false] at hb hf
    rcases hb with hb | hb | hb | hb | hb
    · exact hf (.inl hb)
    · exact hf (.inr (.inl hb))
    · rcases hx b hb.symm with e | e
      · exact hf (.inr (.inr (.inl e.symm)))
      · rw [e]; exact h.up _ (Nat.le_refl _)
    · exact hf (.inr (.inr (.inr (.inl hb))))
    · exact hf (.inr (.inr (.inr (.inr hb))))
  · intro e; rcases hx _ e with e | e
    · exact a.a0l e
    · omega
  · intro e; rcases hx _ e with e | e
    · exact a.alt e
    · omega
  · intro i e e'; rcases hx _ e' with e2 | e2
    · exact a.a1l i e e2
    · have := l1 i e; omega
  · intro i e e'; rcases hx _ e with e2 | e2
    · exact a.aln i e2 e'
    · have := lN i e'; omega
/-- the set of those who are to learn turns -/
theorem Raw.setN (h : Raw w F cb b0 al v1 ln nx tk V0 V1 L N T) {N' : List Int} {nx' : Option Nat} (c : CellSet w cb 4 #[.map (some b0), .map v1, .bool al, .map ln, .map nx] 85 nx N' nx' w') : Raw w' F cb b0 al v1 ln nx' tk V0 V1 L N' T := by
  have a := h.ap
  have hc := h.cb_ne
  have hx : ∀ i, nx' = some i → nx = some i ∨ i = w.heap.size := fun i e => by
    rcases c.own with e1 | e1 | ⟨e1, e2⟩
    · left; rw [← e1, e]
    · rw [e1] at e; cases e
    · right; rw [e2] at e; cases e; rfl
  have l0 := h.s0.lt
  have lt' : tk < w.heap.size := MapB.lt h.trk.map
  have l1 : ∀ i, v1 = some i → i < w.heap.size := fun i e => by have := h.s1.1; rw [e] at this; exact this.lt
  have lL : ∀ i, ln = some i → i < w.heap.size := fun i e => by have := h.sl.1; rw [e] at this; exact this.lt
  refine ⟨?_, h.s0.chg c.chg ?_, ⟨h.s1.1.chg c.chg ?_, h.s1.2⟩, ⟨h.sl.1.chg c.chg ?_, h.sl.2⟩, c.set, h.trk.chg c.chg ?_ ?_, ?_, (apart_iff _ _ _ _ _).2 ⟨a.a01, a.a0l, ?_, a.a0t, a.a1t, a.alt, ?_, a.a1l, ?_, ?_⟩, h.pfresh, h.cbB, fun i hi => h.up i (Nat.le_trans c.chg.size hi)⟩
  · exact c.block
  · intro i e hi; cases e
    rcases hi with hi | hi
    · exact hc.1 hi.symm
    · exact a.a0n hi
  · intro i e hi
    rcases hi with hi | hi
    · exact hc.2.2.1 (by rw [e, hi])
    · exact a.a1n i e hi
  · intro i e hi
    rcases hi with hi | hi
    · exact hc.2.2.2.1 (by rw [e, hi])
    · exact a.aln i e hi
  · intro i e hi; cases e
    rcases hi with hi | hi
    · exact hc.2.1 hi.symm
    · exact a.ant hi
  · intro t ht hi
    have := h.prog_ne ht
    rcases hi with hi | hi
    · exact this.1 hi
    · exact this.2.2.2.2.2 hi
  · intro b hb
    have hf := h.fresh b
    simp only [List.mem_cons, List.not_mem_nil, or_false] at hb hf
    rcases hb with hb | hb | hb | hb | hb
    · exact hf (.inl hb)
    · exact hf (.inr (.inl hb))
    · exact hf (.inr (.inr (.inl hb)))
    · rcases hx b hb.symm with e | e
      · exact hf (.inr (.inr (.inr (.inl e.symm))))
      · rw [e]; exact h.up _ (Nat.le_refl _)
    · exact hf (.inr (.inr (.inr (.inr hb))))
  · intro e; rcases hx _ e with e | e
    · exact a.a0n e
    · omega
  · intro e; rcases hx _ e with e | e
    · exact a.ant e
    · omega
  · intro i e e'; rcases hx _ e' with e2 | e2
    · exact a.a1n i e e2
    · have := l1 i e; omega
  · intro i e e'; rcases hx _ e' with e2 | e2
    · exact a.aln i e e2
    · have := lL i e; omega
/-- the progress map turns -/
theorem Raw.setT (h : Raw w F cb b0 al v1 ln nx tk V0 V1 L N T) {T' : List (Int × Nat × Bool)} (c : Chg w w' (· = tk)) (hm : MapB w' tk (tents T')) (hp : ∀ t ∈ T', (∃ q, w.heap[t.2.1]? = some (.cells (pcells q t.2.2) 145 (0, 0))) ∧ F t.2.1) (hn : (T'.map (·.2.1)).Nodup) :
    Raw w' F cb b0 al v1 ln nx tk V0 V1 L N T' := by
  have a := h.ap
  have hc := h.cb_ne
  refine ⟨c.keeps h.blk hc.2.1, h.s0.chg c (fun i e e' => a.a0t (by cases e; exact e')), ⟨h.s1.1.chg c (fun i e e' => a.a1t (by rw [e, e'])), h.s1.2⟩, ⟨h.sl.1.chg c (fun i e e' => a.alt (by rw [e, e'])), h.sl.2⟩, ⟨h.sn.1.chg c (fun i e e' => a.ant (by rw [e, e'])), h.sn.2⟩,
    ⟨hm, fun t ht => ?_, hn⟩, h.fresh, h.apart, fun t ht => (hp t ht).2, h.cbB, fun i hi => h.up i (Nat.le_trans c.size hi)⟩
  obtain ⟨⟨q, hq⟩, _⟩ := hp t ht
  exact ⟨q, c.keeps hq (fun e => MapB.ne_cells h.trk.map hq e)⟩
/-- one Progress is marked -/
def mark (T : List (Int × Nat × Bool)) (k : Int) (fl : Bool) : List (Int × Nat × Bool) := T.map fun t => if t.1 = k then (t.1, t.2.1, fl) else t
theorem tents_mark (T : List (Int × Nat × Bool)) (k : Int) (fl : Bool) : tents (mark T k fl) = tents T := by
  unfold tents mark
  rw [List.map_map]
  apply List.map_congr_left
  intro t _
  simp only [Function.comp]
  split <;> rfl
theorem mem_mark {T : List (Int × Nat × Bool)} {k : Int} {fl : Bool} {t : Int × Nat × Bool} (h : t ∈ mark T k fl) : ∃ t' ∈ T, t.1 = t'.1 ∧ t.2.1 = t'.2.1 ∧ t.2.2 = if t'.1 = k then fl else t'.2.2 := by
  obtain ⟨t', h', e⟩ := List.mem_map.1 h
  refine ⟨t', h', ?_⟩
  by_cases hk : t'.1 = k
  · rw [if_pos hk] at e; subst e; simp [hk]
  · rw [if_neg hk] at e; subst e; simp [hk]
theorem Raw.flag (h : Raw w F cb b0 al v1 ln nx tk V0 V1 L N T) {k : Int} {p : Nat} {f0 : Bool} (hk : (k, p, f0) ∈ T) (fl : Bool) : Raw (w.setCell ⟨p, 8, none⟩ (.bool fl)) F cb b0 al v1 ln nx tk V0 V1 L N (mark T k fl) := by
  have hpn := h.prog_ne hk
  have c : Chg w (w.setCell ⟨p, 8, none⟩ (.bool fl)) (· = p) := Chg.setCell w _ _ _ (fun _ => rfl)
  have hnd := h.trk.apart
  have huniq : ∀ t ∈ T, t.1 = k → t.2.1 = p := fun t ht e => by
    have := h.trk.keys
    obtain ⟨i, hi, rfl⟩ := List.getElem_of_mem ht
    obtain ⟨j, hj, ej⟩ := List.getElem_of_mem hk
    have hi' : i < (T.map (·.1)).length := by simpa using hi
    have g : (T.map (·.1))[i]? = (T.map (·.1))[j]? := by
      rw [List.getElem?_map, List.getElem?_map, List.getElem?_eq_getElem hi, List.getElem?_eq_getElem hj, ej]
      simp [e]
    have := (List.getElem?_inj hi' this).1 g
    subst this; rw [ej]
  have huniq2 : ∀ t ∈ T, t.2.1 = p → t.1 = k := fun t ht e => by
    obtain ⟨i, hi, rfl⟩ := List.getElem_of_mem ht
    obtain ⟨j, hj, ej⟩ := List.getElem_of_mem hk
    have hi' : i < (T.map (·.2.1)).length := by simpa using hi
    have g : (T.map (·.2.1))[i]? = (T.map (·.2.1))[j]? := by
      rw [List.getElem?_map, List.getElem?_map, List.getElem?_eq_getElem hi, List.getElem?_eq_getElem hj, ej]
      simp [e]
    have := (List.getElem?_inj hi' hnd).1 g
    subst this; rw [ej]
  refine ⟨c.keeps h.blk (fun e => hpn.1 e.symm), h.s0.setCell _ _, ⟨h.s1.1.setCell _ _, h.s1.2⟩, ⟨h.sl.1.setCell _ _, h.sl.2⟩, ⟨h.sn.1.setCell _ _, h.sn.2⟩,
    ⟨by rw [tents_mark]; exact MapB.setCell h.trk.map _ _, fun t ht => ?_, ?_⟩, h.fresh, h.apart, fun t ht => ?_, h.cbB, fun i hi => h.up i (Nat.le_trans c.size hi)⟩
  · obtain ⟨t', ht', e1, e2, e3⟩ := mem_mark ht
    obtain ⟨q, hq⟩ := h.trk.prog t' ht'
    refine ⟨q, ?_⟩
    rw [e2, e3]
    by_cases hk' : t'.1 = k
    · rw [if_pos hk']
      have := huniq t' ht' hk'
      rw [this] at hq ⊢
      rw [block_setCell hq]
      simp [pcells]
    · rw [if_neg hk']
      exact c.keeps hq (fun e => hk' (huniq2 t' ht' e))
  · have : (mark T k fl).map (·.2.1) = T.map (·.2.1) := by
      unfold mark
      rw [List.map_map]
      apply List.map_congr_left
      intro t _
      simp only [Function.comp]
      split <;> rfl
    rw [this]; exact hnd
  · obtain ⟨t', ht', e1, e2, e3⟩ := mem_mark ht
    rw [e2]; exact h.pfresh t' ht'
end
end Go.Proofs.Ytcgccoigjcdjeaa
