/- confchange: remove, makeVoter, makeLearner over a sound configuration. No condition. -/
import Derived.Test.YtcgccoigjcdjeaaConfI
namespace Go.Proofs.Ytcgccoigjcdjeaa
open Go.RowKit

section
variable {w w' : World} {F : Nat → Prop} {cb b0 : Nat} {al : Bool} {v1 ln nx : Option Nat} {tk : Nat} {V0 V1 L N : List Int} {T : List (Int × Nat × Bool)} {k : Int}

theorem known (T : List (Int × Nat × Bool)) (k : Int) : (∃ t ∈ T, t.1 = k) ∨ ∀ t ∈ T, t.1 ≠ k := by
  by_cases h : ∃ t ∈ T, t.1 = k
  · exact .inl h
  · exact .inr (fun t ht e => h ⟨t, ht, e⟩)
theorem Inv.out_of (hi : Inv V0 V1 L N T) (h : ∀ t ∈ T, t.1 ≠ k) : k ∉ V0 ∧ k ∉ V1 ∧ k ∉ L ∧ k ∉ N := by
  have hx : ¬ (k ∈ V0 ∨ k ∈ V1 ∨ k ∈ L) := fun hx => by obtain ⟨t, ht, e⟩ := hi.sub k hx; exact h t ht e
  refine ⟨fun h => hx (.inl h), fun h => hx (.inr (.inl h)), fun h => hx (.inr (.inr h)), fun h => hx (.inr (.inl (hi.next k h).1))⟩
theorem Inv.rem (hi : Inv V0 V1 L N T) (k : Int) : Inv (out V0 k) V1 (out L k) (out N k) (if k ∈ V1 then T else rmT T k) := by
  by_cases hV : k ∈ V1
  · rw [if_pos hV]
    refine ⟨fun x hx => hi.sub x ?_, fun t ht => ?_, fun t ht => ?_, fun x hx => ?_, fun x hx => ?_⟩
    · rcases hx with h | h | h
      · exact .inl (mem_out.1 h).1
      · exact .inr (.inl h)
      · exact .inr (.inr (mem_out.1 h).1)
    · by_cases e : t.1 = k
      · rw [e]; exact .inr (.inl hV)
      · rcases hi.sup t ht with h | h | h
        · exact .inl (mem_out.2 ⟨h, e⟩)
        · exact .inr (.inl h)
        · exact .inr (.inr (mem_out.2 ⟨h, e⟩))
    · rw [hi.flag t ht]
      refine decide_eq_decide.2 ⟨fun h => mem_out.2 ⟨h, fun e => ?_⟩, fun h => (mem_out.1 h).1⟩
      rw [e] at h; exact (hi.learn k h).2 hV
    · have hx := mem_out.1 hx
      have := hi.next x hx.1
      exact ⟨this.1, fun h => this.2 (mem_out.1 h).1⟩
    · have := hi.learn x (mem_out.1 hx).1
      exact ⟨fun h => this.1 (mem_out.1 h).1, this.2⟩
  · rw [if_neg hV]
    refine ⟨fun x hx => ?_, fun t ht => ?_, fun t ht => ?_, fun x hx => ?_, fun x hx => ?_⟩
    · have hxk : x ≠ k := by
        rcases hx with h | h | h
        · exact (mem_out.1 h).2
        · exact fun e => hV (e ▸ h)
        · exact (mem_out.1 h).2
      obtain ⟨t, ht, e⟩ := hi.sub x (by
        rcases hx with h | h | h
        · exact .inl (mem_out.1 h).1
        · exact .inr (.inl h)
        · exact .inr (.inr (mem_out.1 h).1))
      exact ⟨t, mem_rmT.2 ⟨ht, by rw [e]; exact hxk⟩, e⟩
    · obtain ⟨h1, h2⟩ := mem_rmT.1 ht
      rcases hi.sup t h1 with h | h | h
      · exact .inl (mem_out.2 ⟨h, h2⟩)
      · exact .inr (.inl h)
      · exact .inr (.inr (mem_out.2 ⟨h, h2⟩))
    · obtain ⟨h1, h2⟩ := mem_rmT.1 ht
      rw [hi.flag t h1]
      exact decide_eq_decide.2 ⟨fun h => mem_out.2 ⟨h, h2⟩, fun h => (mem_out.1 h).1⟩
    · have hx := mem_out.1 hx
      have := hi.next x hx.1
      exact ⟨this.1, fun h => this.2 (mem_out.1 h).1⟩
    · have := hi.learn x (mem_out.1 hx).1
      exact ⟨fun h => this.1 (mem_out.1 h).1, this.2⟩

theorem rem_any (v0' v1' ln' nx' tk' vt' : Option Nat) (al' : Bool) (w : World) (F : Nat → Prop) (cb b0 : Nat) (al : Bool) (v1 ln nx : Option Nat) (tk : Nat) (V0 V1 L N : List Int) (T : List (Int × Nat × Bool)) (k : Int)
    (hr : Raw w F cb b0 al v1 ln nx tk V0 V1 L N T) (hi : Inv V0 V1 L N T) :
    Calls Try.prog 105 #[chgOf v0' v1' al' ln' nx' tk' vt', .pointer (some ⟨cb, 0, none⟩), .map (some tk), .int .u64 k] w
      (ApTo w F cb b0 al v1 tk V1 (fun x => x ∈ V0 ∧ x ≠ k) (fun x => x ∈ L ∧ x ≠ k) (fun x => x ∈ N ∧ x ≠ k)) := by
  rcases known T k with h | h
  · refine (rem_in v0' v1' ln' nx' tk' vt' al' w F cb b0 al v1 ln nx tk V0 V1 L N T k hr h).mono ?_
    rintro e w1 ⟨ln1, nx1, rfl, h1, _, h3⟩
    exact ⟨ln1, nx1, _, _, _, _, rfl, h1, hi.rem k, fun x => mem_out, fun x => mem_out, fun x => mem_out, h3⟩
  · refine (rem_none v0' v1' ln' nx' tk' vt' al' w cb tk T k hr.trk h).mono ?_
    rintro e w1 ⟨rfl, h1⟩
    have ho := hi.out_of h
    exact ⟨ln, nx, _, _, _, _, rfl, hr.new h1, hi, fun x => ⟨fun hx => ⟨hx, fun e => ho.1 (e ▸ hx)⟩, fun hx => hx.1⟩, fun x => ⟨fun hx => ⟨hx, fun e => ho.2.2.1 (e ▸ hx)⟩, fun hx => hx.1⟩, fun x => ⟨fun hx => ⟨hx, fun e => ho.2.2.2 (e ▸ hx)⟩, fun hx => hx.1⟩, h1.mono (fun _ _ h => h.elim)⟩

set_option maxRecDepth 100000 in
set_option maxHeartbeats 1600000 in
theorem voter_any (v0' v1' ln' nx' tk' vt' : Option Nat) (al' : Bool) (w : World) (F : Nat → Prop) (cb b0 : Nat) (al : Bool) (v1 ln nx : Option Nat) (tk : Nat) (V0 V1 L N : List Int) (T : List (Int × Nat × Bool)) (k : Int)
    (hr : Raw w F cb b0 al v1 ln nx tk V0 V1 L N T) (hi : Inv V0 V1 L N T) :
    Calls Try.prog 103 #[chgOf v0' v1' al' ln' nx' tk' vt', .pointer (some ⟨cb, 0, none⟩), .map (some tk), .int .u64 k] w
      (ApTo w F cb b0 al v1 tk V1 (fun x => x ∈ V0 ∨ x = k) (fun x => x ∈ L ∧ x ≠ k) (fun x => x ∈ N ∧ x ≠ k)) := by
  have HR := Lib.hid hr; have HI := Lib.hid hi; clear hr hi
  rcases known T k with h | h
  · have hlk : ∃ p f, (k, p, f) ∈ T ∧ look (tents T) k = some (.pointer (some ⟨p, 0, none⟩)) := by
      obtain ⟨t, ht, e⟩ := h
      rcases look_tents T k with ⟨h1, _⟩ | ⟨t', h1, h2, h3⟩
      · exact absurd e (h1 t ht)
      · exact ⟨t'.2.1, t'.2.2, by rw [← h2]; exact h1, h3⟩
    obtain ⟨p, f, hm, hp⟩ := hlk
    have HM := Lib.hid hm; clear hm h
    have hpb : ∃ q, w.heap[p]? = some (.cells (pcells q f) 145 (0, 0)) := HR.out.trk.prog _ HM.out
    obtain ⟨q, hq⟩ := hpb
    have p8 : w.cell? ⟨p, 8, none⟩ = some (.bool f) := cell_of_block hq rfl
    have z8 : w.frozen? ⟨p, 8, none⟩ = false := free_of_block hq
    clear hq
    have HRb := Lib.hid ((HR.out.new (Chg.alloc w (.cells #[.map v0', .map v1', .bool al', .map ln', .map nx', .map tk', .map vt', .int .i64 10, .int .u64 0, .int .u64 1] 96) _)).flag HM.out false)
    unfold chgOf
    go_enter Try.func103, Try.ntmps103
    go_wp2_with (first
      | (at_lookup; refine op_lookup rfl _ _ _ rfl mt87 rfl (MapB.alloc HR.out.trk.map _) rfl ?_))
    with_reducible refine (delete_any cb 3 #[.map (some b0), .map v1, .bool al, .map ln, .map nx] 85 ln L k _ HRb.out.blk (idx3 _ _ _ _ _) HRb.out.sl).mono ?_
    rintro e w2 ⟨rfl, ln2, hc2⟩
    have HR2 := Lib.hid (HRb.out.setL hc2)
    go_wp2_with fail
    with_reducible refine (delete_any cb 4 #[.map (some b0), .map v1, .bool al, .map ln2, .map nx] 85 nx N k _ HR2.out.blk (idx4 _ _ _ _ _) HR2.out.sn).mono ?_
    rintro e w3 ⟨rfl, nx3, hc3⟩
    have HR3 := Lib.hid (HR2.out.setN hc3)
    have q0 : w3.cell? ⟨cb, 0, none⟩ = some (.map (some b0)) := cell_of_block HR3.out.blk rfl
    have q1 : w3.cell? ⟨cb, 1, none⟩ = some (.map v1) := cell_of_block HR3.out.blk rfl
    go_wp2_with (first
      | (at_mapUpdate; refine set_update rfl _ _ _ _ rfl mt70 rfl (HR3.out.s0.alloc _) rfl rfl ?_; intro w4 h4 s4 z4)
      | (go_at_call 81; go_in))
    go_end0
    have hr4 := (HR3.out.new (Chg.alloc w3 (.cells #[.map (some b0), .map v1] 72) _)).set0 s4.chg h4
    have hi := HI.out
    have hkt := HM.out
    refine ⟨ln2, nx3, _, _, _, _, rfl, hr4, ⟨fun x hx => ?_, fun t ht => ?_, fun t ht => ?_, fun x hx => ?_, fun x hx => ?_⟩, fun x => mem_ins, fun x => mem_out, fun x => mem_out, ?_⟩
    · have : ∃ t ∈ T, t.1 = x := by
        rcases hx with h | h | h
        · rcases mem_ins.1 h with h | h
          · exact hi.sub x (.inl h)
          · subst h; exact ⟨_, hkt, rfl⟩
        · exact hi.sub x (.inr (.inl h))
        · exact hi.sub x (.inr (.inr (mem_out.1 h).1))
      obtain ⟨t, ht, rfl⟩ := this
      refine ⟨_, List.mem_map.2 ⟨t, ht, rfl⟩, ?_⟩
      split <;> rfl
    · obtain ⟨t', ht', e1, e2, e3⟩ := mem_mark ht
      rw [e1]
      by_cases hk : t'.1 = k
      · exact .inl (mem_ins.2 (.inr hk))
      · rcases hi.sup t' ht' with h | h | h
        · exact .inl (mem_ins.2 (.inl h))
        · exact .inr (.inl h)
        · exact .inr (.inr (mem_out.2 ⟨h, hk⟩))
    · obtain ⟨t', ht', e1, e2, e3⟩ := mem_mark ht
      rw [e3, e1]
      by_cases hk : t'.1 = k
      · rw [if_pos hk]; symm; simp [mem_out, hk]
      · rw [if_neg hk, hi.flag t' ht']
        exact decide_eq_decide.2 ⟨fun h => mem_out.2 ⟨h, hk⟩, fun h => (mem_out.1 h).1⟩
    · have hx' := mem_out.1 hx
      have := hi.next x hx'.1
      exact ⟨this.1, fun h => by rcases mem_ins.1 h with h | h; exact this.2 h; exact hx'.2 h⟩
    · have hx' := mem_out.1 hx
      have := hi.learn x hx'.1
      exact ⟨fun h => by rcases mem_ins.1 h with h | h; exact this.1 h; exact hx'.2 h, this.2⟩
    · have g1 : Chg w ((w.alloc (.cells #[.map v0', .map v1', .bool al', .map ln', .map nx', .map tk', .map vt', .int .i64 10, .int .u64 0, .int .u64 1] 96)).setCell ⟨p, 8, none⟩ (.bool false)) F := (Chg.alloc w _ _).then (Chg.setCell _ _ _ _ (fun _ => HR.out.pfresh _ hkt))
      have g2 := cellset_chg hc2 HR.out.cbB (fun i e => HR.out.fresh i (by rw [e]; simp))
      have g3 := cellset_chg hc3 HR.out.cbB (fun i e => HR.out.fresh i (by rw [e]; simp))
      exact (((g1.then g2).then g3).then (Chg.alloc _ _ _)).trans s4.chg (fun _ _ h => h) (fun i _ e => by subst e; exact HR.out.fresh _ (.head _))
  · have hp : look (tents T) k = none := by
      rcases look_tents T k with ⟨_, h2⟩ | ⟨t', h1, h2, _⟩
      · exact h2
      · exact absurd h2 (h t' h1)
    have HK := Lib.hid h; clear h
    unfold chgOf
    go_enter Try.func103, Try.ntmps103
    go_wp2_with (first
      | (at_lookup; refine op_lookup rfl _ _ _ rfl mt87 rfl (MapB.alloc HR.out.trk.map _) rfl ?_))
    refine (init_voter v0' v1' ln' nx' tk' vt' al' _ F cb b0 al v1 ln nx tk V0 V1 L N T k (HR.out.new (Chg.alloc _ _ _)) HI.out HK.out).mono ?_
    rintro e w2 ⟨ln2, nx2, V0', L', N', T', rfl, h1, h2, h3, h4, h5, h6⟩
    have HF : Hid (ApTo w F cb b0 al v1 tk V1 (fun x => x ∈ V0 ∨ x = k) (fun x => x ∈ L ∧ x ≠ k) (fun x => x ∈ N ∧ x ≠ k) (.returned (.tuple #[])) w2) :=
      Lib.hid ⟨ln2, nx2, V0', L', N', T', rfl, h1, h2, h3, h4, h5, (Chg.alloc w _ _).then h6⟩
    clear h1 h2 h3 h4 h5 h6
    go_wp2_with fail
    refine bodyPost_ret (results_none rfl _ _ _) rfl HF.out
end
end Go.Proofs.Ytcgccoigjcdjeaa
