/- confchange: initProgress, remove, makeVoter, makeLearner: what each does to a sound configuration. No condition. -/
import Derived.Test.YtcgccoigjcdjeaaConfG
namespace Go.Proofs.Ytcgccoigjcdjeaa
open Go.RowKit

def ApTo (w : World) (F : Nat → Prop) (cb b0 : Nat) (al : Bool) (v1 : Option Nat) (tk : Nat) (V1 : List Int) (P0 PL PN : Int → Prop) (e : Ending) (w' : World) : Prop :=
  ∃ ln nx V0 L N T, e = .returned (.tuple #[]) ∧ Raw w' F cb b0 al v1 ln nx tk V0 V1 L N T ∧ Inv V0 V1 L N T ∧ (∀ x, x ∈ V0 ↔ P0 x) ∧ (∀ x, x ∈ L ↔ PL x) ∧ (∀ x, x ∈ N ↔ PN x) ∧ Chg w w' F

def Inflown (w : World) (e : Ending) (w' : World) : Prop := e = .returned (.pointer (some ⟨w.heap.size, 0, none⟩)) ∧ New w w' ∧ w'.heap.size = w.heap.size + 1
theorem inflights_any (a : Int) (b : Int) (w : World) : Calls Try.prog 119 #[.int .i64 a, .int .u64 b] w (Inflown w) := by
  go_enter Try.func119, Try.ntmps119
  go_wp2
  go_ret
  exact ⟨rfl, Chg.alloc w _ _, by simp⟩

set_option maxRecDepth 100000 in
set_option maxHeartbeats 1600000 in
theorem init_voter (v0' v1' ln' nx' tk' vt' : Option Nat) (al' : Bool) (w : World) (F : Nat → Prop) (cb b0 : Nat) (al : Bool) (v1 ln nx : Option Nat) (tk : Nat) (V0 V1 L N : List Int) (T : List (Int × Nat × Bool)) (k : Int)
    (hr : Raw w F cb b0 al v1 ln nx tk V0 V1 L N T) (hi : Inv V0 V1 L N T) (hk : ∀ t ∈ T, t.1 ≠ k) :
    Calls Try.prog 115 #[chgOf v0' v1' al' ln' nx' tk' vt', .pointer (some ⟨cb, 0, none⟩), .map (some tk), .int .u64 k, .bool false] w
      (ApTo w F cb b0 al v1 tk V1 (fun x => x ∈ V0 ∨ x = k) (fun x => x ∈ L ∧ x ≠ k) (fun x => x ∈ N ∧ x ≠ k)) := by
  have HR := Lib.hid hr; have HI := Lib.hid hi; have HK := Lib.hid hk; clear hr hi hk
  have c0 : w.cell? ⟨cb, 0, none⟩ = some (.map (some b0)) := cell_of_block HR.out.blk rfl
  have c1 : w.cell? ⟨cb, 1, none⟩ = some (.map v1) := cell_of_block HR.out.blk rfl
  unfold chgOf
  go_enter Try.func115, Try.ntmps115
  go_wp2_with (first
    | (at_mapUpdate; refine set_update rfl _ _ _ _ rfl mt70 rfl (((HR.out.s0.alloc _).alloc _)) rfl rfl ?_; intro w1 h1 s1 z1)
    | go_in)
  have hbox := s1.chg.keeps (block_alloc (block_new w _) _) (by have := HR.out.s0.lt; omega)
  have hr1 : Raw w1 F cb b0 al v1 ln nx tk (ins V0 k) V1 L N T := ((HR.out.new (Chg.alloc w _ _)).new (Chg.alloc _ _ _)).set0 s1.chg h1
  have hchg : Chg w w1 F := ((Chg.alloc w _ _).then (Chg.alloc _ _ _)).trans s1.chg (fun _ _ h => h) (fun i _ e => by subst e; exact HR.out.fresh _ (.head _))
  have hsz := z1
  simp only [World.size_alloc] at hsz
  have HBOX := Lib.hid hbox; have HR1 := Lib.hid hr1; have HCH := Lib.hid hchg
  clear hbox hr1 hchg h1 s1 z1 c0 c1
  have d7 : w1.cell? ⟨w.heap.size, 7, none⟩ = some (.int .i64 10) := cell_of_block HBOX.out rfl
  have d8 : w1.cell? ⟨w.heap.size, 8, none⟩ = some (.int .u64 0) := cell_of_block HBOX.out rfl
  have d9 : w1.cell? ⟨w.heap.size, 9, none⟩ = some (.int .u64 1) := cell_of_block HBOX.out rfl
  go_region_held3 (fun w' => w'.cell? ⟨w.heap.size, 7, none⟩ = some (.int .i64 10) ∧ w'.cell? ⟨w.heap.size, 8, none⟩ = some (.int .u64 0) ∧ w'.cell? ⟨w.heap.size, 9, none⟩ = some (.int .u64 1)) (go_keep)
    (first | (go_at_call 119; refine (inflights_any 10 0 _).mono ?_; rintro e w2 ⟨rfl, n2, z2⟩; have k2 := n2.rule; obtain ⟨w3, hup, t3⟩ := run_update_v (P := Try.prog) (w := w2.alloc (.cells #[.int .u64 0, .int .u64 1, .int .u64 0, .int .u64 0, .int .u64 0, .bool true, .bool false, .pointer (some ⟨w.heap.size + 1 + 1, 0, none⟩), .bool false] 145)) (MapB.alloc (MapB.chg (MapB.drew HR1.out.trk.map) n2 (by simp)) _) Try.underlying87 u28 k (.pointer (some ⟨w.heap.size + 1 + 1 + 1, 0, none⟩)); have k3 := t3.cell))
  all_goals
    have hz2 : w2.heap.size = w.heap.size + 1 + 1 + 1 := by rw [z2, World.size_drew, hsz]
    have n12 : New w1 w2 := (Chg.drew _ _).then n2
    have hfin : ApTo w F cb b0 al v1 tk V1 (fun x => x ∈ V0 ∨ x = k) (fun x => x ∈ L ∧ x ≠ k) (fun x => x ∈ N ∧ x ≠ k) (.returned (.tuple #[])) w3 := by
      have hi := HI.out
      have hkl : k ∉ L := fun h => by obtain ⟨t, ht, e⟩ := hi.sub k (.inr (.inr h)); exact HK.out t ht e
      have hk1 : k ∉ V1 := fun h => by obtain ⟨t, ht, e⟩ := hi.sub k (.inr (.inl h)); exact HK.out t ht e
      have hkn : k ∉ N := fun h => hk1 (hi.next k h).1
      have hmap := t3.map
      rw [upd_tents HK.out _ false] at hmap
      have hra := (HR1.out.new n12).new (Chg.alloc w2 (.cells #[.int .u64 0, .int .u64 1, .int .u64 0, .int .u64 0, .int .u64 0, .bool true, .bool false, .pointer (some ⟨w.heap.size + 1 + 1, 0, none⟩), .bool false] 145) _)
      have hrb := hra.setT t3.chg hmap (fun t ht => ?_) ?_
      · refine ⟨ln, nx, _, L, N, _, rfl, hrb, ⟨?_, ?_, ?_, ?_, ?_⟩, fun x => mem_ins, fun x => ⟨fun h => ⟨h, fun e => hkl (e ▸ h)⟩, fun h => h.1⟩, fun x => ⟨fun h => ⟨h, fun e => hkn (e ▸ h)⟩, fun h => h.1⟩, ?_⟩
        · intro x hx
          by_cases hxk : x = k
          · exact ⟨_, List.mem_append_right _ (.head _), hxk.symm⟩
          · obtain ⟨t, ht, e⟩ := hi.sub x (by rcases hx with h | h; rcases mem_ins.1 h with h | h; exact .inl h; exact absurd h hxk; exact .inr h)
            exact ⟨t, List.mem_append_left _ ht, e⟩
        · intro t ht
          rcases List.mem_append.1 ht with h | h
          · rcases hi.sup t h with h | h
            · exact .inl (mem_ins.2 (.inl h))
            · exact .inr h
          · simp at h; subst h; exact .inl (mem_ins.2 (.inr rfl))
        · intro t ht
          rcases List.mem_append.1 ht with h | h
          · exact hi.flag t h
          · simp at h; subst h; simpa using hkl
        · intro x hx
          have := hi.next x hx
          exact ⟨this.1, fun h => by rcases mem_ins.1 h with h | h; exact this.2 h; subst h; exact hkn hx⟩
        · intro x hx
          have := hi.learn x hx
          exact ⟨fun h => by rcases mem_ins.1 h with h | h; exact this.1 h; subst h; exact hkl hx, this.2⟩
        · exact ((HCH.out.trans n12 (fun _ _ h => h) (fun _ _ h => h.elim)).trans (Chg.alloc w2 _ (fun _ => False)) (fun _ _ h => h) (fun _ _ h => h.elim)).trans t3.chg (fun _ _ h => h) (fun i _ e => by subst e; exact HR.out.fresh _ (by simp))
      · rcases List.mem_append.1 ht with h | h
        · obtain ⟨q, hq⟩ := hra.trk.prog t h
          exact ⟨⟨q, hq⟩, hra.pfresh t h⟩
        · simp at h; subst h
          refine ⟨⟨⟨w.heap.size + 1 + 1, 0, none⟩, ?_⟩, HR1.out.up _ (by show w1.heap.size ≤ w.heap.size + 1 + 1 + 1; omega)⟩
          have := block_new w2 (.cells #[.int .u64 0, .int .u64 1, .int .u64 0, .int .u64 0, .int .u64 0, .bool true, .bool false, .pointer (some ⟨w.heap.size + 1 + 1, 0, none⟩), .bool false] 145)
          rw [hz2] at this
          exact this
      · simp only [List.map_append, List.map_cons, List.map_nil]
        rw [List.nodup_append]
        refine ⟨HR1.out.trk.apart, by simp, fun x hx y hy e => ?_⟩
        simp at hy; subst hy; subst e
        obtain ⟨t, ht, e⟩ := List.mem_map.1 hx
        obtain ⟨q, hq⟩ := HR1.out.trk.prog t ht
        have := lt_of_block hq
        omega
    have HF := Lib.hid hfin
    clear hfin t3 n2 n12 k2 k3 hup
    go_wp2
    go_end0
    exact HF.out
set_option maxRecDepth 100000 in
set_option maxHeartbeats 1600000 in
theorem init_learner (v0' v1' ln' nx' tk' vt' : Option Nat) (al' : Bool) (w : World) (F : Nat → Prop) (cb b0 : Nat) (al : Bool) (v1 ln nx : Option Nat) (tk : Nat) (V0 V1 L N : List Int) (T : List (Int × Nat × Bool)) (k : Int)
    (hr : Raw w F cb b0 al v1 ln nx tk V0 V1 L N T) (hi : Inv V0 V1 L N T) (hk : ∀ t ∈ T, t.1 ≠ k) :
    Calls Try.prog 115 #[chgOf v0' v1' al' ln' nx' tk' vt', .pointer (some ⟨cb, 0, none⟩), .map (some tk), .int .u64 k, .bool true] w
      (ApTo w F cb b0 al v1 tk V1 (fun x => x ∈ V0 ∧ x ≠ k) (fun x => x ∈ L ∨ (x = k ∧ k ∉ V1)) (fun x => (x ∈ N ∧ x ≠ k) ∨ (x = k ∧ k ∈ V1))) := by
  have HR := Lib.hid hr; have HI := Lib.hid hi; have HK := Lib.hid hk; clear hr hi hk
  have c0 : w.cell? ⟨cb, 0, none⟩ = some (.map (some b0)) := cell_of_block HR.out.blk rfl
  have c1 : w.cell? ⟨cb, 1, none⟩ = some (.map v1) := cell_of_block HR.out.blk rfl
  unfold chgOf
  go_enter Try.func115, Try.ntmps115
  go_wp2_with (first
    | (go_at_call 85; refine (add_any cb 3 #[.map (some b0), .map v1, .bool al, .map ln, .map nx] 85 ln L k _ (block_alloc HR.out.blk _) rfl ⟨HR.out.sl.1.alloc _, HR.out.sl.2⟩).mono ?_; rintro e w1 ⟨rfl, ln1, hcs⟩)
    | go_in)
  have hcbl := lt_of_block HR.out.blk
  have hbox := hcs.chg.keeps (block_new w _) (by
    rintro (h | h)
    · omega
    · have := HR.out.sl.1; rw [h] at this; have := this.lt; omega)
  have hr1 : Raw w1 F cb b0 al v1 ln1 nx tk V0 V1 (ins L k) N T := (HR.out.new (Chg.alloc w _ _)).setL hcs
  have hchg : Chg w w1 F := (Chg.alloc w _ _).trans hcs.chg (fun _ _ h => h) (fun i _ e => by
    rcases e with e | e
    · subst e; exact HR.out.cbB
    · exact HR.out.fresh _ (by rw [e]; simp))
  have hsz := hcs.chg.size
  simp only [World.size_alloc] at hsz
  have HBOX := Lib.hid hbox; have HR1 := Lib.hid hr1; have HCH := Lib.hid hchg
  clear hbox hr1 hchg hcs c0 c1
  have d7 : w1.cell? ⟨w.heap.size, 7, none⟩ = some (.int .i64 10) := cell_of_block HBOX.out rfl
  have d8 : w1.cell? ⟨w.heap.size, 8, none⟩ = some (.int .u64 0) := cell_of_block HBOX.out rfl
  have d9 : w1.cell? ⟨w.heap.size, 9, none⟩ = some (.int .u64 1) := cell_of_block HBOX.out rfl
  go_region_held3 (fun w' => w'.cell? ⟨w.heap.size, 7, none⟩ = some (.int .i64 10) ∧ w'.cell? ⟨w.heap.size, 8, none⟩ = some (.int .u64 0) ∧ w'.cell? ⟨w.heap.size, 9, none⟩ = some (.int .u64 1)) (go_keep)
    (first | (go_at_call 119; refine (inflights_any 10 0 _).mono ?_; rintro e w2 ⟨rfl, n2, z2⟩; have k2 := n2.rule; obtain ⟨w3, hup, t3⟩ := run_update_v (P := Try.prog) (w := w2.alloc (.cells #[.int .u64 0, .int .u64 1, .int .u64 0, .int .u64 0, .int .u64 0, .bool true, .bool false, .pointer (some ⟨w1.heap.size, 0, none⟩), .bool true] 145)) (MapB.alloc (MapB.chg (MapB.drew HR1.out.trk.map) n2 (by simp)) _) Try.underlying87 u28 k (.pointer (some ⟨w1.heap.size + 1, 0, none⟩)); have k3 := t3.cell))
  all_goals
    have hz2 : w2.heap.size = w1.heap.size + 1 := by rw [z2, World.size_drew]
    have n12 : New w1 w2 := (Chg.drew _ _).then n2
    have hfin : ApTo w F cb b0 al v1 tk V1 (fun x => x ∈ V0 ∧ x ≠ k) (fun x => x ∈ L ∨ (x = k ∧ k ∉ V1)) (fun x => (x ∈ N ∧ x ≠ k) ∨ (x = k ∧ k ∈ V1)) (.returned (.tuple #[])) w3 := by
      have hi := HI.out
      have hk0 : k ∉ V0 := fun h => by obtain ⟨t, ht, e⟩ := hi.sub k (.inl h); exact HK.out t ht e
      have hk1 : k ∉ V1 := fun h => by obtain ⟨t, ht, e⟩ := hi.sub k (.inr (.inl h)); exact HK.out t ht e
      have hkn : k ∉ N := fun h => hk1 (hi.next k h).1
      have hmap := t3.map
      rw [upd_tents HK.out _ true] at hmap
      have hra := (HR1.out.new n12).new (Chg.alloc w2 (.cells #[.int .u64 0, .int .u64 1, .int .u64 0, .int .u64 0, .int .u64 0, .bool true, .bool false, .pointer (some ⟨w1.heap.size, 0, none⟩), .bool true] 145) _)
      have hrb := hra.setT t3.chg hmap (fun t ht => ?_) ?_
      · refine ⟨ln1, nx, V0, _, N, _, rfl, hrb, ⟨?_, ?_, ?_, ?_, ?_⟩, fun x => ⟨fun h => ⟨h, fun e => hk0 (e ▸ h)⟩, fun h => h.1⟩, fun x => ⟨fun h => by rcases mem_ins.1 h with h | h; exact .inl h; exact .inr ⟨h, hk1⟩, fun h => mem_ins.2 (by rcases h with h | h; exact .inl h; exact .inr h.1)⟩, fun x => ⟨fun h => .inl ⟨h, fun e => hkn (e ▸ h)⟩, fun h => by rcases h with h | h; exact h.1; exact absurd h.2 hk1⟩, ?_⟩
        · intro x hx
          by_cases hxk : x = k
          · exact ⟨_, List.mem_append_right _ (.head _), hxk.symm⟩
          · obtain ⟨t, ht, e⟩ := hi.sub x (by rcases hx with h | h | h; exact .inl h; exact .inr (.inl h); rcases mem_ins.1 h with h | h; exact .inr (.inr h); exact absurd h hxk)
            exact ⟨t, List.mem_append_left _ ht, e⟩
        · intro t ht
          rcases List.mem_append.1 ht with h | h
          · rcases hi.sup t h with h | h | h
            · exact .inl h
            · exact .inr (.inl h)
            · exact .inr (.inr (mem_ins.2 (.inl h)))
          · simp at h; subst h; exact .inr (.inr (mem_ins.2 (.inr rfl)))
        · intro t ht
          rcases List.mem_append.1 ht with h | h
          · have hne : t.1 ≠ k := HK.out t h
            rw [hi.flag t h]
            exact decide_eq_decide.2 ⟨fun h => mem_ins.2 (.inl h), fun h => by rcases mem_ins.1 h with h | h; exact h; exact absurd h hne⟩
          · simp at h; subst h; symm; simp [mem_ins]
        · intro x hx
          exact hi.next x hx
        · intro x hx
          rcases mem_ins.1 hx with h | h
          · exact hi.learn x h
          · subst h; exact ⟨hk0, hk1⟩
        · exact ((HCH.out.trans n12 (fun _ _ h => h) (fun _ _ h => h.elim)).trans (Chg.alloc w2 _ (fun _ => False)) (fun _ _ h => h) (fun _ _ h => h.elim)).trans t3.chg (fun _ _ h => h) (fun i _ e => by subst e; exact HR.out.fresh _ (by simp))
      · rcases List.mem_append.1 ht with h | h
        · obtain ⟨q, hq⟩ := hra.trk.prog t h
          exact ⟨⟨q, hq⟩, hra.pfresh t h⟩
        · simp at h; subst h
          refine ⟨⟨⟨w1.heap.size, 0, none⟩, ?_⟩, HR1.out.up _ (by show w1.heap.size ≤ w1.heap.size + 1; omega)⟩
          have := block_new w2 (.cells #[.int .u64 0, .int .u64 1, .int .u64 0, .int .u64 0, .int .u64 0, .bool true, .bool false, .pointer (some ⟨w1.heap.size, 0, none⟩), .bool true] 145)
          rw [hz2] at this
          exact this
      · simp only [List.map_append, List.map_cons, List.map_nil]
        rw [List.nodup_append]
        refine ⟨HR1.out.trk.apart, by simp, fun x hx y hy e => ?_⟩
        simp at hy; subst hy; subst e
        obtain ⟨t, ht, e⟩ := List.mem_map.1 hx
        obtain ⟨q, hq⟩ := HR1.out.trk.prog t ht
        have := lt_of_block hq
        omega
    have HF := Lib.hid hfin
    clear hfin t3 n2 n12 k2 k3 hup
    go_wp2
    go_end0
    exact HF.out
end Go.Proofs.Ytcgccoigjcdjeaa
