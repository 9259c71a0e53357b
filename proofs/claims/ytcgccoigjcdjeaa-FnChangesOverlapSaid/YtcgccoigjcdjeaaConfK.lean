/- confchange: makeLearner over a sound configuration. No condition. -/
import Derived.Test.YtcgccoigjcdjeaaConfJ
namespace Go.Proofs.Ytcgccoigjcdjeaa
open Go.RowKit

theorem uniq_of_nodup {α β : Type} {l : List α} {f : α → β} (h : (l.map f).Nodup) {x y : α} (hx : x ∈ l) (hy : y ∈ l) (e : f x = f y) : x = y := by
  obtain ⟨i, hi, rfl⟩ := List.getElem_of_mem hx
  obtain ⟨j, hj, rfl⟩ := List.getElem_of_mem hy
  have hi' : i < (l.map f).length := by simpa using hi
  have g : (l.map f)[i]? = (l.map f)[j]? := by
    rw [List.getElem?_map, List.getElem?_map, List.getElem?_eq_getElem hi, List.getElem?_eq_getElem hj]
    simp only [Option.map_some]; rw [e]
  have := (List.getElem?_inj hi' h).1 g
  subst this; rfl
theorem upd_same {T : List (Int × Nat × Bool)} (hn : (T.map (·.1)).Nodup) {k : Int} {p : Nat} {f : Bool} (h : (k, p, f) ∈ T) : upd (tents T) k (.pointer (some ⟨p, 0, none⟩)) = tents T := by
  unfold upd
  have e : (tents T).any (fun q => q.1 == k) = true := by
    rw [List.any_eq_true]
    exact ⟨_, List.mem_map.2 ⟨_, h, rfl⟩, by simp⟩
  rw [e, if_pos rfl]
  unfold tents
  rw [List.map_map]
  apply List.map_congr_left
  intro t ht
  simp only [Function.comp]
  by_cases hk : t.1 = k
  · have := uniq_of_nodup hn ht h (by simpa using hk)
    subst this; simp
  · simp [hk]

section
variable {w w' : World} {F : Nat → Prop} {cb b0 : Nat} {al : Bool} {v1 ln nx : Option Nat} {tk : Nat} {V0 V1 L N : List Int} {T : List (Int × Nat × Bool)} {k : Int}

set_option maxRecDepth 100000 in
set_option maxHeartbeats 1600000 in
theorem learner_any (v0' v1' ln' nx' tk' vt' : Option Nat) (al' : Bool) (w : World) (F : Nat → Prop) (cb b0 : Nat) (al : Bool) (v1 ln nx : Option Nat) (tk : Nat) (V0 V1 L N : List Int) (T : List (Int × Nat × Bool)) (k : Int)
    (hr : Raw w F cb b0 al v1 ln nx tk V0 V1 L N T) (hi : Inv V0 V1 L N T) :
    Calls Try.prog 104 #[chgOf v0' v1' al' ln' nx' tk' vt', .pointer (some ⟨cb, 0, none⟩), .map (some tk), .int .u64 k] w
      (ApTo w F cb b0 al v1 tk V1 (fun x => x ∈ V0 ∧ x ≠ k) (fun x => x ∈ L ∨ (x = k ∧ k ∉ V1)) (fun x => (x ∈ N ∧ x ≠ k) ∨ (x = k ∧ k ∈ V1))) := by
  have HR := Lib.hid hr; have HI := Lib.hid hi; clear hr hi
  rcases known T k with h | h
  · have hlk : ∃ p f, (k, p, f) ∈ T ∧ look (tents T) k = some (.pointer (some ⟨p, 0, none⟩)) := by
      obtain ⟨t, ht, e⟩ := h
      rcases look_tents T k with ⟨h1, _⟩ | ⟨t', h1, h2, h3⟩
      · exact absurd e (h1 t ht)
      · exact ⟨t'.2.1, t'.2.2, by rw [← h2]; exact h1, h3⟩
    obtain ⟨p, f, hm, hp⟩ := hlk
    have hf : f = decide (k ∈ L) := HI.out.flag _ hm
    have HM := Lib.hid hm; clear hm h
    have hpb : ∃ q, w.heap[p]? = some (.cells (pcells q f) 145 (0, 0)) := HR.out.trk.prog _ HM.out
    obtain ⟨q, hq⟩ := hpb
    have p8 : w.cell? ⟨p, 8, none⟩ = some (.bool f) := cell_of_block hq rfl
    clear hq
    by_cases hL : k ∈ L
    · have hft : f = true := by rw [hf]; simpa using hL
      subst hft
      have hl := HI.out.learn k hL
      have hn : k ∉ N := fun h => hl.2 (HI.out.next k h).1
      have HL := Lib.hid hL; have HN := Lib.hid hn; have HLL := Lib.hid hl; clear hf hL hn hl
      unfold chgOf
      go_enter Try.func104, Try.ntmps104
      go_wp2_with (first
        | (at_lookup; refine op_lookup rfl _ _ _ rfl mt87 rfl (MapB.alloc HR.out.trk.map _) rfl ?_))
      refine bodyPost_ret (results_none rfl _ _ _) rfl ⟨ln, nx, _, _, _, _, rfl, HR.out.new (Chg.alloc _ _ _), HI.out, fun x => ⟨fun hx => ⟨hx, fun e => HLL.out.1 (e ▸ hx)⟩, fun hx => hx.1⟩, fun x => ⟨fun hx => .inl hx, fun hx => by rcases hx with h | h; exact h; rw [h.1]; exact HL.out⟩, fun x => ⟨fun hx => .inl ⟨hx, fun e => HN.out (e ▸ hx)⟩, fun hx => by rcases hx with h | h; exact h.1; exact absurd h.2 HLL.out.2⟩, Chg.alloc _ _ _⟩
    · have hff : f = false := by rw [hf]; simpa using hL
      subst hff
      have HL := Lib.hid hL; clear hf hL
      unfold chgOf
      go_enter Try.func104, Try.ntmps104
      go_wp2_with (first
        | (at_lookup; refine op_lookup rfl _ _ _ rfl mt87 rfl (MapB.alloc HR.out.trk.map _) rfl ?_))
      refine (rem_in v0' v1' ln' nx' tk' vt' al' _ F cb b0 al v1 ln nx tk V0 V1 L N T k (HR.out.new (Chg.alloc _ _ _)) ⟨_, HM.out, rfl⟩).mono ?_
      rintro e w2 ⟨ln2, nx2, rfl, hr2, hp2, hc2⟩
      have hc2' : Chg w w2 F := (Chg.alloc w _ _).then hc2
      obtain ⟨q2, hq2⟩ := hp2 _ HM.out
      by_cases hV : k ∈ V1
      · have e1 : decide (k ∈ V1) = true := by simpa using hV
        rw [if_pos hV] at hr2
        have q0 : w2.cell? ⟨cb, 0, none⟩ = some (.map (some b0)) := cell_of_block hr2.blk rfl
        have q1 : w2.cell? ⟨cb, 1, none⟩ = some (.map v1) := cell_of_block hr2.blk rfl
        have HR2 := Lib.hid hr2; have HC2 := Lib.hid hc2'; have HV := Lib.hid hV
        clear hr2 hp2 hc2 hc2' hq2 hV
        go_wp2_with (first
          | (at_mapUpdate; refine op_update rfl _ _ _ _ rfl mt87 rfl HR2.out.trk.map rfl (val := .pointer (some ⟨p, 0, none⟩)) rfl ?_; intro w3 t3; have k3 := t3.cell)
          | (at_lookup; refine set_lookup rfl _ _ _ rfl mt70 rfl ((HR2.out.s1.1.chg t3.chg (fun i e e' => HR2.out.ap.a1t (by rw [e, e']))).alloc _) rfl ?_)
          | (go_at_call 84; go_in))
        have hmap := t3.map
        rw [upd_same HR2.out.trk.keys HM.out] at hmap
        have hr3 := HR2.out.setT t3.chg hmap (fun t ht => ⟨HR2.out.trk.prog t ht, HR2.out.pfresh t ht⟩) HR2.out.trk.apart
        have hr4 := hr3.new ((Chg.alloc w3 (.cells #[.map (some b0), .map v1] 72) _).then (Chg.alloc _ (.cells #[] 139) _))
        have hc4 : Chg w ((w3.alloc (.cells #[.map (some b0), .map v1] 72)).alloc (.cells #[] 139)) F := ((HC2.out.trans t3.chg (fun _ _ h => h) (fun i _ e => by subst e; exact HR.out.fresh _ (by simp))).then (Chg.alloc _ _ _)).then (Chg.alloc _ _ _)
        have HR4 := Lib.hid hr4; have HC4 := Lib.hid hc4; clear hr3 hr4 hc4 hmap t3 k3 q0 q1
        with_reducible refine (add_any cb 4 #[.map (some b0), .map v1, .bool al, .map ln2, .map nx2] 85 nx2 (out N k) k _ HR4.out.blk (idx4 _ _ _ _ _) HR4.out.sn).mono ?_
        rintro e w5 ⟨rfl, nx5, hc5⟩
        have hr5 := HR4.out.setN hc5
        have hinv : Inv (out V0 k) V1 (out L k) (ins (out N k) k) T := by
          have hr := HI.out.rem k
          rw [if_pos HV.out] at hr
          exact ⟨hr.sub, hr.sup, hr.flag, fun x hx => by rcases mem_ins.1 hx with h | h; exact hr.next x h; subst h; exact ⟨HV.out, fun h => (mem_out.1 h).2 rfl⟩, hr.learn⟩
        have HF : Hid (ApTo w F cb b0 al v1 tk V1 (fun x => x ∈ V0 ∧ x ≠ k) (fun x => x ∈ L ∨ (x = k ∧ k ∉ V1)) (fun x => (x ∈ N ∧ x ≠ k) ∨ (x = k ∧ k ∈ V1)) (.returned (.tuple #[])) w5) :=
          Lib.hid ⟨ln2, nx5, _, _, _, _, rfl, hr5, hinv, fun x => mem_out,
            fun x => ⟨fun h => .inl (mem_out.1 h).1, fun h => by rcases h with h | h; exact mem_out.2 ⟨h, fun e => HL.out (e ▸ h)⟩; exact absurd HV.out h.2⟩,
            fun x => ⟨fun h => by rcases mem_ins.1 h with h | h; exact .inl (mem_out.1 h); exact .inr ⟨h, HV.out⟩, fun h => mem_ins.2 (by rcases h with h | h; exact .inl (mem_out.2 h); exact .inr h.1)⟩,
            HC4.out.then (cellset_chg hc5 HR.out.cbB (fun i e => HR4.out.fresh i (by rw [e]; simp)))⟩
        clear hr5 hinv hc5
        go_wp2_with fail
        go_end0
        exact HF.out
      · have e1 : decide (k ∈ V1) = false := by simpa using hV
        rw [if_neg hV] at hr2
        have q0 : w2.cell? ⟨cb, 0, none⟩ = some (.map (some b0)) := cell_of_block hr2.blk rfl
        have q1 : w2.cell? ⟨cb, 1, none⟩ = some (.map v1) := cell_of_block hr2.blk rfl
        have p82 : w2.cell? ⟨p, 8, none⟩ = some (.bool false) := cell_of_block hq2 rfl
        have z82 : w2.frozen? ⟨p, 8, none⟩ = false := free_of_block hq2
        have hnk : ∀ t ∈ rmT T k, t.1 ≠ k := fun t ht => (mem_rmT.1 ht).2
        have HNK := Lib.hid hnk; have HQ2 := Lib.hid hq2
        have HR2 := Lib.hid hr2; have HC2 := Lib.hid hc2'; have HV := Lib.hid hV
        clear hr2 hp2 hc2 hc2' hq2 hV hnk
        go_wp2_with (first
          | (at_mapUpdate; refine op_update rfl _ _ _ _ rfl mt87 rfl HR2.out.trk.map rfl (val := .pointer (some ⟨p, 0, none⟩)) rfl ?_; intro w3 t3; have k3 := t3.cell; have f3 := t3.frozen)
          | (at_lookup; refine set_lookup rfl _ _ _ rfl mt70 rfl ((HR2.out.s1.1.chg t3.chg (fun i e e' => HR2.out.ap.a1t (by rw [e, e']))).alloc _) rfl ?_)
          | (go_at_call 84; go_in))
        have hmap := t3.map
        rw [upd_tents HNK.out p false] at hmap
        have hpB : F p := HR.out.pfresh _ HM.out
        have hr3 := HR2.out.setT t3.chg hmap (fun t ht => by
          rcases List.mem_append.1 ht with h | h
          · exact ⟨HR2.out.trk.prog t h, HR2.out.pfresh t h⟩
          · simp at h; subst h; exact ⟨⟨q2, HQ2.out⟩, hpB⟩) (by
          simp only [List.map_append, List.map_cons, List.map_nil]
          rw [List.nodup_append]
          refine ⟨HR2.out.trk.apart, by simp, fun x hx y hy e => ?_⟩
          simp at hy; subst hy; subst e
          obtain ⟨t, ht, e⟩ := List.mem_map.1 hx
          have := uniq_of_nodup HR.out.trk.apart (mem_rmT.1 ht).1 HM.out e
          exact (mem_rmT.1 ht).2 (by rw [this]))
        have hkm : (k, p, false) ∈ rmT T k ++ [(k, p, false)] := List.mem_append_right _ (.head _)
        have hr4 := (hr3.new ((Chg.alloc w3 (.cells #[.map (some b0), .map v1] 72) _).then (Chg.alloc _ (.cells #[] 139) _))).flag hkm true
        have hc4 : Chg w (((w3.alloc (.cells #[.map (some b0), .map v1] 72)).alloc (.cells #[] 139)).setCell ⟨p, 8, none⟩ (.bool true)) F := (((HC2.out.trans t3.chg (fun _ _ h => h) (fun i _ e => by subst e; exact HR.out.fresh _ (by simp))).then (Chg.alloc _ _ _)).then (Chg.alloc _ _ _)).then (Chg.setCell _ _ _ _ (fun _ => hpB))
        have HR4 := Lib.hid hr4; have HC4 := Lib.hid hc4; clear hr3 hr4 hc4 hmap t3 k3 f3 q0 q1 hkm
        with_reducible refine (add_any cb 3 #[.map (some b0), .map v1, .bool al, .map ln2, .map nx2] 85 ln2 (out L k) k _ HR4.out.blk (idx3 _ _ _ _ _) HR4.out.sl).mono ?_
        rintro e w5 ⟨rfl, ln5, hc5⟩
        have hr5 := HR4.out.setL hc5
        have hn : k ∉ N := fun h => HV.out (HI.out.next k h).1
        have hinv : Inv (out V0 k) V1 (ins (out L k) k) (out N k) (mark (rmT T k ++ [(k, p, false)]) k true) := by
          have hr := HI.out.rem k
          rw [if_neg HV.out] at hr
          refine ⟨fun x hx => ?_, fun t ht => ?_, fun t ht => ?_, hr.next, fun x hx => ?_⟩
          · have : ∃ t ∈ rmT T k ++ [(k, p, false)], t.1 = x := by
              by_cases hxk : x = k
              · exact ⟨_, List.mem_append_right _ (.head _), hxk.symm⟩
              · obtain ⟨t, ht, e⟩ := hr.sub x (by rcases hx with h | h | h; exact .inl h; exact .inr (.inl h); rcases mem_ins.1 h with h | h; exact .inr (.inr h); exact absurd h hxk)
                exact ⟨t, List.mem_append_left _ ht, e⟩
            obtain ⟨t, ht, rfl⟩ := this
            refine ⟨_, List.mem_map.2 ⟨t, ht, rfl⟩, ?_⟩
            split <;> rfl
          · obtain ⟨t', ht', e1, e2, e3⟩ := mem_mark ht
            rw [e1]
            rcases List.mem_append.1 ht' with h | h
            · rcases hr.sup t' h with h | h | h
              · exact .inl h
              · exact .inr (.inl h)
              · exact .inr (.inr (mem_ins.2 (.inl h)))
            · simp at h; subst h; exact .inr (.inr (mem_ins.2 (.inr rfl)))
          · obtain ⟨t', ht', e1, e2, e3⟩ := mem_mark ht
            rw [e3, e1]
            rcases List.mem_append.1 ht' with h | h
            · have hne := (mem_rmT.1 h).2
              rw [if_neg hne, hr.flag t' h]
              exact decide_eq_decide.2 ⟨fun h => mem_ins.2 (.inl h), fun h => by rcases mem_ins.1 h with h | h; exact h; exact absurd h hne⟩
            · simp at h; subst h; symm; simp [mem_ins]
          · rcases mem_ins.1 hx with h | h
            · exact hr.learn x h
            · subst h; exact ⟨fun h => (mem_out.1 h).2 rfl, HV.out⟩
        have HF : Hid (ApTo w F cb b0 al v1 tk V1 (fun x => x ∈ V0 ∧ x ≠ k) (fun x => x ∈ L ∨ (x = k ∧ k ∉ V1)) (fun x => (x ∈ N ∧ x ≠ k) ∨ (x = k ∧ k ∈ V1)) (.returned (.tuple #[])) w5) :=
          Lib.hid ⟨ln5, nx2, _, _, _, _, rfl, hr5, hinv, fun x => mem_out,
            fun x => ⟨fun h => by rcases mem_ins.1 h with h | h; exact .inl (mem_out.1 h).1; exact .inr ⟨h, HV.out⟩, fun h => mem_ins.2 (by rcases h with h | h; exact .inl (mem_out.2 ⟨h, fun e => HL.out (e ▸ h)⟩); exact .inr h.1)⟩,
            fun x => ⟨fun h => .inl (mem_out.1 h), fun h => by rcases h with h | h; exact mem_out.2 h; exact absurd h.2 HV.out⟩,
            HC4.out.then (cellset_chg hc5 HR.out.cbB (fun i e => HR4.out.fresh i (by rw [e]; simp)))⟩
        clear hr5 hinv hc5
        go_wp2_with fail
        go_end0
        exact HF.out
  · have hp : look (tents T) k = none := by
      rcases look_tents T k with ⟨_, h2⟩ | ⟨t', h1, h2, _⟩
      · exact h2
      · exact absurd h2 (h t' h1)
    have HK := Lib.hid h; clear h
    unfold chgOf
    go_enter Try.func104, Try.ntmps104
    go_wp2_with (first
      | (at_lookup; refine op_lookup rfl _ _ _ rfl mt87 rfl (MapB.alloc HR.out.trk.map _) rfl ?_))
    refine (init_learner v0' v1' ln' nx' tk' vt' al' _ F cb b0 al v1 ln nx tk V0 V1 L N T k (HR.out.new (Chg.alloc _ _ _)) HI.out HK.out).mono ?_
    rintro e w2 ⟨ln2, nx2, V0', L', N', T', rfl, h1, h2, h3, h4, h5, h6⟩
    have HF : Hid (ApTo w F cb b0 al v1 tk V1 (fun x => x ∈ V0 ∧ x ≠ k) (fun x => x ∈ L ∨ (x = k ∧ k ∉ V1)) (fun x => (x ∈ N ∧ x ≠ k) ∨ (x = k ∧ k ∈ V1)) (.returned (.tuple #[])) w2) :=
      Lib.hid ⟨ln2, nx2, V0', L', N', T', rfl, h1, h2, h3, h4, h5, (Chg.alloc w _ _).then h6⟩
    clear h1 h2 h3 h4 h5 h6
    go_wp2_with fail
    refine bodyPost_ret (results_none rfl _ _ _) rfl HF.out
end
end Go.Proofs.Ytcgccoigjcdjeaa
