/- confchange: remove, makeVoter, makeLearner: what each does to a sound configuration. No condition. -/
import Derived.Test.YtcgccoigjcdjeaaConfH
namespace Go.Proofs.Ytcgccoigjcdjeaa
open Go.RowKit

def rmT (T : List (Int × Nat × Bool)) (k : Int) : List (Int × Nat × Bool) := T.filter fun t => !(t.1 == k)
theorem del_tents (T : List (Int × Nat × Bool)) (k : Int) : del (tents T) k = tents (rmT T k) := by
  unfold del tents rmT
  rw [List.filter_map]; rfl
theorem mem_rmT {T : List (Int × Nat × Bool)} {k : Int} {t : Int × Nat × Bool} : t ∈ rmT T k ↔ t ∈ T ∧ t.1 ≠ k := by
  simp [rmT]
/-- what remove leaves, whatever the sets have to do with each other -/
def RemTo (w : World) (F : Nat → Prop) (cb b0 : Nat) (al : Bool) (v1 : Option Nat) (tk : Nat) (V0 V1 L N : List Int) (T T' : List (Int × Nat × Bool)) (k : Int) (e : Ending) (w' : World) : Prop :=
  ∃ ln nx, e = .returned (.tuple #[]) ∧ Raw w' F cb b0 al v1 ln nx tk (out V0 k) V1 (out L k) (out N k) T' ∧ (∀ t ∈ T, ∃ q, w'.heap[t.2.1]? = some (.cells (pcells q t.2.2) 145 (0, 0))) ∧ Chg w w' F

theorem idx3 (a b c d e : Value) : (#[a, b, c, d, e] : Array Value)[3]? = some d := rfl
theorem idx4 (a b c d e : Value) : (#[a, b, c, d, e] : Array Value)[4]? = some e := rfl
theorem cellset_chg {w w' : World} {F : Nat → Prop} {cb mo : Nat} {cs : Array Value} {et : TypeId} {o o' : Option Nat} {s' : List Int} (c : CellSet w cb mo cs et o s' o' w') (hc : F cb) (ho : ∀ i, o = some i → F i) : Chg w w' F :=
  c.chg.mono (fun i _ e => by rcases e with e | e; subst e; exact hc; exact ho i e)

set_option maxRecDepth 100000 in
set_option maxHeartbeats 1600000 in
theorem rem_in (v0' v1' ln' nx' tk' vt' : Option Nat) (al' : Bool) (w : World) (F : Nat → Prop) (cb b0 : Nat) (al : Bool) (v1 ln nx : Option Nat) (tk : Nat) (V0 V1 L N : List Int) (T : List (Int × Nat × Bool)) (k : Int)
    (hr : Raw w F cb b0 al v1 ln nx tk V0 V1 L N T) (hk : ∃ t ∈ T, t.1 = k) :
    Calls Try.prog 105 #[chgOf v0' v1' al' ln' nx' tk' vt', .pointer (some ⟨cb, 0, none⟩), .map (some tk), .int .u64 k] w
      (RemTo w F cb b0 al v1 tk V0 V1 L N T (if k ∈ V1 then T else rmT T k) k) := by
  have HR := Lib.hid hr; have HK := Lib.hid hk; clear hr hk
  have c0 : w.cell? ⟨cb, 0, none⟩ = some (.map (some b0)) := cell_of_block HR.out.blk rfl
  have c1 : w.cell? ⟨cb, 1, none⟩ = some (.map v1) := cell_of_block HR.out.blk rfl
  have hlk : ∃ p, look (tents T) k = some (.pointer (some ⟨p, 0, none⟩)) := by
    obtain ⟨t, ht, e⟩ := HK.out
    rcases look_tents T k with ⟨h1, _⟩ | ⟨t', h1, h2, h3⟩
    · exact absurd e (h1 t ht)
    · exact ⟨_, h3⟩
  obtain ⟨p, hp⟩ := hlk
  unfold chgOf
  by_cases hV : k ∈ V1
  · rw [if_pos hV]
    have e1 : decide (k ∈ V1) = true := by simpa using hV
    clear hV
    go_enter Try.func105, Try.ntmps105
    go_wp2_with (first
      | (at_lookup; refine op_lookup_ok rfl _ _ _ rfl mt87 rfl (MapB.alloc HR.out.trk.map _) rfl ?_)
      | (at_delete; refine set_delete rfl _ _ _ rfl mt70 rfl ((HR.out.s0.alloc _).alloc _) rfl ?_; intro w1 h1 s1 z1; have HR1 := Lib.hid (((HR.out.new (Chg.alloc w _ _)).new (Chg.alloc _ _ _)).set0 s1.chg h1))
      | (go_at_call 81; go_in))
    with_reducible refine (delete_any cb 3 #[.map (some b0), .map v1, .bool al, .map ln, .map nx] 85 ln L k _ HR1.out.blk (idx3 _ _ _ _ _) HR1.out.sl).mono ?_
    rintro e w2 ⟨rfl, ln2, hc2⟩
    have HR2 := Lib.hid (HR1.out.setL hc2)
    go_wp2_with fail
    with_reducible refine (delete_any cb 4 #[.map (some b0), .map v1, .bool al, .map ln2, .map nx] 85 nx N k _ HR2.out.blk (idx4 _ _ _ _ _) HR2.out.sn).mono ?_
    rintro e w3 ⟨rfl, nx3, hc3⟩
    have HR3 := Lib.hid (HR2.out.setN hc3)
    have q0 : w3.cell? ⟨cb, 0, none⟩ = some (.map (some b0)) := cell_of_block HR3.out.blk rfl
    have q1 : w3.cell? ⟨cb, 1, none⟩ = some (.map v1) := cell_of_block HR3.out.blk rfl
    go_wp2_with (first
      | (at_lookup; refine set_lookup rfl _ _ _ rfl mt70 rfl (HR3.out.s1.1.alloc _) rfl ?_)
      | (go_at_call 84; go_in))
    go_end0
    have hs3 := HR3.out.new ((Chg.alloc w3 (.cells #[.map (some b0), .map v1] 72) _).then (Chg.alloc _ (.cells #[] 139) _))
    refine ⟨ln2, nx3, rfl, hs3, hs3.trk.prog, ?_⟩
    have g1 : Chg w w1 F := ((Chg.alloc w _ _).then (Chg.alloc _ _ _)).trans s1.chg (fun _ _ h => h) (fun i _ e => by subst e; exact HR.out.fresh _ (.head _))
    have g2 := cellset_chg hc2 HR.out.cbB (fun i e => HR.out.fresh i (by rw [e]; simp))
    have g3 := cellset_chg hc3 HR.out.cbB (fun i e => HR.out.fresh i (by rw [e]; simp))
    exact (((g1.then g2).then g3).then (Chg.alloc _ _ _)).then (Chg.alloc _ _ _)
  · rw [if_neg hV]
    have e1 : decide (k ∈ V1) = false := by simpa using hV
    clear hV
    go_enter Try.func105, Try.ntmps105
    go_wp2_with (first
      | (at_lookup; refine op_lookup_ok rfl _ _ _ rfl mt87 rfl (MapB.alloc HR.out.trk.map _) rfl ?_)
      | (at_delete; refine set_delete rfl _ _ _ rfl mt70 rfl ((HR.out.s0.alloc _).alloc _) rfl ?_; intro w1 h1 s1 z1; have HR1 := Lib.hid (((HR.out.new (Chg.alloc w _ _)).new (Chg.alloc _ _ _)).set0 s1.chg h1))
      | (go_at_call 81; go_in))
    with_reducible refine (delete_any cb 3 #[.map (some b0), .map v1, .bool al, .map ln, .map nx] 85 ln L k _ HR1.out.blk (idx3 _ _ _ _ _) HR1.out.sl).mono ?_
    rintro e w2 ⟨rfl, ln2, hc2⟩
    have HR2 := Lib.hid (HR1.out.setL hc2)
    go_wp2_with fail
    with_reducible refine (delete_any cb 4 #[.map (some b0), .map v1, .bool al, .map ln2, .map nx] 85 nx N k _ HR2.out.blk (idx4 _ _ _ _ _) HR2.out.sn).mono ?_
    rintro e w3 ⟨rfl, nx3, hc3⟩
    have HR3 := Lib.hid (HR2.out.setN hc3)
    have q0 : w3.cell? ⟨cb, 0, none⟩ = some (.map (some b0)) := cell_of_block HR3.out.blk rfl
    have q1 : w3.cell? ⟨cb, 1, none⟩ = some (.map v1) := cell_of_block HR3.out.blk rfl
    go_wp2_with (first
      | (at_lookup; refine set_lookup rfl _ _ _ rfl mt70 rfl (HR3.out.s1.1.alloc _) rfl ?_)
      | (at_delete; refine op_delete rfl _ _ _ rfl mt87 rfl (MapB.alloc (MapB.alloc HR3.out.trk.map _) _) rfl ?_; intro w4 t4)
      | (go_at_call 84; go_in))
    go_end0
    have hs3 := HR3.out.new ((Chg.alloc w3 (.cells #[.map (some b0), .map v1] 72) _).then (Chg.alloc _ (.cells #[] 139) _))
    have hmap := t4.map
    rw [del_tents] at hmap
    have hs4 := hs3.setT t4.chg hmap (fun t ht => ⟨hs3.trk.prog t (mem_rmT.1 ht).1, hs3.pfresh t (mem_rmT.1 ht).1⟩) ((List.Sublist.map _ List.filter_sublist).nodup hs3.trk.apart)
    refine ⟨ln2, nx3, rfl, hs4, fun t ht => ?_, ?_⟩
    · obtain ⟨q, hq⟩ := hs3.trk.prog t ht
      exact ⟨q, t4.chg.keeps hq (fun e => (hs3.prog_ne ht).2.2.1 e)⟩
    have g1 : Chg w w1 F := ((Chg.alloc w _ _).then (Chg.alloc _ _ _)).trans s1.chg (fun _ _ h => h) (fun i _ e => by subst e; exact HR.out.fresh _ (.head _))
    have g2 := cellset_chg hc2 HR.out.cbB (fun i e => HR.out.fresh i (by rw [e]; simp))
    have g3 := cellset_chg hc3 HR.out.cbB (fun i e => HR.out.fresh i (by rw [e]; simp))
    exact ((((g1.then g2).then g3).then (Chg.alloc _ _ _)).then (Chg.alloc _ _ _)).trans t4.chg (fun _ _ h => h) (fun i _ e => by subst e; exact HR.out.fresh _ (by simp))

/-- remove of one who is not there -/
theorem rem_none (v0' v1' ln' nx' tk' vt' : Option Nat) (al' : Bool) (w : World) (cb tk : Nat) (T : List (Int × Nat × Bool)) (k : Int) (ht : TrkV w (some tk) T) (hk : ∀ t ∈ T, t.1 ≠ k) :
    Calls Try.prog 105 #[chgOf v0' v1' al' ln' nx' tk' vt', .pointer (some ⟨cb, 0, none⟩), .map (some tk), .int .u64 k] w fun e w' => e = .returned (.tuple #[]) ∧ New w w' := by
  have HT := Lib.hid ht; clear ht
  have hp : look (tents T) k = none := by
    rcases look_tents T k with ⟨_, h2⟩ | ⟨t', h1, h2, _⟩
    · exact h2
    · exact absurd h2 (hk t' h1)
  have HK := Lib.hid hk; clear hk
  unfold chgOf
  go_enter Try.func105, Try.ntmps105
  go_wp2_with (first
    | (at_lookup; refine op_lookup_ok rfl _ _ _ rfl mt87 rfl (MapB.alloc HT.out.map _) rfl ?_)
    | (go_at_call 81; go_in))
  refine bodyPost_ret (results_none rfl _ _ _) rfl ⟨rfl, Chg.alloc _ _ _⟩
end Go.Proofs.Ytcgccoigjcdjeaa
