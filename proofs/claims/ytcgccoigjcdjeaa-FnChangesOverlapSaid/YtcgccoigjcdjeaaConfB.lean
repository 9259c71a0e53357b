/- quorum.IDs: the members of both lists. No condition. -/
import Derived.Test.YtcgccoigjcdjeaaConfA
namespace Go.Proofs.Ytcgccoigjcdjeaa
open Go.RowKit

def AllIn (w : World) (V0 V1 : List Int) (e : Ending) (w' : World) : Prop :=
  ∃ b t, e = .returned (.map (some b)) ∧ SetV w' (some b) t ∧ (∀ x, x ∈ t ↔ x ∈ V0 ∨ x ∈ V1) ∧ w.heap.size ≤ b ∧ New w w'

def InFirst (i : Nat) (V0 V1 t : List Int) : Prop := ∀ x, x ∈ t ↔ (0 < i ∧ x ∈ V0) ∨ (1 < i ∧ x ∈ V1)
theorem InFirst.next {i : Nat} {V0 V1 t u V : List Int} (h : InFirst i V0 V1 t) (hV : (i = 0 ∧ V = V0) ∨ (i = 1 ∧ V = V1)) (hu : ∀ x, x ∈ u ↔ x ∈ t ∨ x ∈ V) : InFirst (i + 1) V0 V1 u := by
  intro x
  rw [hu x, h x]
  rcases hV with ⟨rfl, rfl⟩ | ⟨rfl, rfl⟩ <;> simp

set_option maxRecDepth 100000 in
set_option maxHeartbeats 400000 in
theorem ids_any (v0 v1 : Option Nat) (V0 V1 : List Int) (w : World) (h0 : SetV w v0 V0) (h1 : SetV w v1 V1) :
    Calls Try.prog 117 #[.agg #[.map v0, .map v1]] w (AllIn w V0 V1) := by
  have i0 : ∀ w, (Instr.index 72 (.agg #[.map v0, .map v1]) (.int .i64 0)).run Try.prog w = .ok (.map v0) w := fun _ => by kernel_rfl
  have i1 : ∀ w, (Instr.index 72 (.agg #[.map v0, .map v1]) (.int .i64 1)).run Try.prog w = .ok (.map v1) w := fun _ => by kernel_rfl
  have I0 := Lib.hid i0; have I1 := Lib.hid i1; have H0 := Lib.hid h0; have H1 := Lib.hid h1; clear i0 i1 h0 h1
  go_enter Try.func117, Try.ntmps117
  go_wp2
  go_loopg [5, 9] 3 (fun n _ c wr => ∃ i : Nat, i ≤ 2 ∧ 3 ≤ n + i ∧ c = .int .i64 i ∧ ∃ t, SetV wr (some (w.heap.size + 1)) t ∧ InFirst i V0 V1 t ∧ New w wr)
  case atStart =>
    refine ⟨0, by omega, by omega, rfl, [], ?_, by intro x; simp, (Chg.alloc w _ _).then (Chg.alloc _ _ _)⟩
    have := SetV.made (w.alloc (.cells #[.map v0, .map v1] 72))
    simpa only [World.size_alloc] using this
  case round =>
    obtain ⟨i, hi, hn, rfl, t, hset, hin, hnew⟩ := hrel
    have HN := Lib.hid hnew; have HT := Lib.hid hset; have HI := Lib.hid hin; have HL := Lib.hid hn
    clear hnew hset hin hn
    by_cases h2 : i = 2
    · subst h2
      go_wp2
      go_ret
      exact ⟨_, t, rfl, HT.out, fun x => by rw [HI.out x]; simp, by omega, HN.out⟩
    · have hlt : i < 2 := by omega
      have hd2 : decide ((i : Int) < 2) = true := by simp; omega
      obtain ⟨g0, rfl⟩ : ∃ g0 : Nat, g0 = gk := ⟨_, rfl⟩
      obtain ⟨ov, V, hidx, hV, hsel, hov⟩ : ∃ ov V, (∀ w, (Instr.index 72 (.agg #[.map v0, .map v1]) (.int .i64 i)).run Try.prog w = .ok (.map ov) w) ∧ SetV w ov V ∧ ((i = 0 ∧ V = V0) ∨ (i = 1 ∧ V = V1)) ∧ (ov = v0 ∨ ov = v1) := by
        rcases (show i = 0 ∨ i = 1 from by omega) with rfl | rfl
        · exact ⟨v0, V0, I0.out, H0.out, .inl ⟨rfl, rfl⟩, .inl rfl⟩
        · exact ⟨v1, V1, I1.out, H1.out, .inr ⟨rfl, rfl⟩, .inr rfl⟩
      have HV := Lib.hid hV; have HS := Lib.hid hsel; clear hV hsel hov h2
      obtain ⟨wo, rfl⟩ : ∃ wo : World, wo = wr := ⟨_, rfl⟩
      have hVo : SetV wo ov V := HV.out.chg HN.out (by simp)
      have HVo := Lib.hid hVo; clear hVo
      have hBo : w.heap.size + 1 < wo.heap.size := HT.out.lt
      have hbo : ∀ b, ov = some b → b < w.heap.size := fun b e => by have := HV.out; subst e; exact this.lt
      have HB := Lib.hid hbo; clear hbo
      go_wp2_with (first | (at_range; refine set_range rfl _ _ rfl mt70 rfl HVo.out ?_; intro w1 r1 s1 z1) | go_in)
      go_frame
      go_loopg [6] V.length (fun n _ wr => ∃ done : List Int, V.length ≤ done.length + n ∧ RangS wr wo.heap.size ov V done ∧ (∃ u, SetV wr (some (w.heap.size + 1)) u ∧ ∀ x, x ∈ u ↔ x ∈ t ∨ x ∈ done) ∧ New w wr)
      case atStart =>
        exact ⟨[], by simp, r1, ⟨t, HT.out.chg s1.chg (by simp), by simp⟩, HN.out.then s1.chg⟩
      case round =>
        obtain ⟨done, hn, hr, ⟨u, hu, hmem⟩, hnew⟩ := hrel
        have HN1 := Lib.hid hnew; have HR := Lib.hid hr; have HU := Lib.hid hu; have HL1 := Lib.hid hn; have HM := Lib.hid hmem
        clear hnew hr hu hn r1 s1 z1 hmem
        go_wp2_with (first
          | (at_next; refine set_next rfl _ rfl rfl HR.out ?_ ?_)
          | go_in)
        · intro hp
          go_wp2
          go_roundg (g0 - 1)
          case measure => have := HL.out; omega
          case rel =>
            exact ⟨i + 1, by omega, by have := HL.out; omega, by go_num, u, HU.out, HI.out.next HS.out (fun x => by rw [HM.out x, hp.mem_iff]), HN1.out⟩
        · intro k w2 hk hnk r2 s2 z2 hen
          have h2 := HU.out.chg s2.chg (by intro i hi; cases hi; omega)
          go_wp2_with (first
            | (at_mapUpdate; refine set_update rfl _ _ _ _ rfl mt69 rfl h2 rfl rfl ?_; intro w3 h3 s3 z3)
            | go_in)
          have hl := r2.len
          simp only [List.length_append, List.length_cons, List.length_nil] at hl
          have hL := HL1.out
          simp only [Act.put]
          go_roundg (gk - 1)
          case measure => omega
          case rel =>
            refine ⟨done ++ [k], by simp; omega, r2.chg s3.chg (by omega) (by intro b' e; have := HB.out _ e; omega), ⟨_, h3, fun x => by rw [mem_ins, HM.out x]; simp [or_assoc]⟩, ?_⟩
            exact (HN1.out.trans s2.chg (fun _ _ h => h) (fun i hi e => by omega)).trans s3.chg (fun _ _ h => h) (fun i hi e => by omega)
end Go.Proofs.Ytcgccoigjcdjeaa
