/- spec.Changed and impl.Changed where the statement asks. Condition: what the statement asks. -/
import Derived.Test.YtcgccoigjcdjeaaChZd
import Derived.Test.YtcgccoigjcdjeaaChC3m
import Derived.Test.YtcgccoigjcdjeaaChC4m
import Derived.Test.YtcgccoigjcdjeaaChC5m
import Derived.Test.YtcgccoigjcdjeaaSortGm
namespace Go.Proofs.Ytcgccoigjcdjeaa
open Go.RowKit Go.Sort

theorem sort49 : SortTo 49 := fun g e cap d rest w hr hs => sort_any g e cap d rest w hr hs
theorem spec_ask {V VO L N : List Int} {al : Bool} {way : Int} {l : List (Int × Int)} (ha : AskC V VO L N al way l) (cv sv : Value) (w : World) (h : Cfv w cv V VO L N al) (hl : Chs w sv l) :
    Calls Try.prog 22 #[cv, .int .i64 way, sv] w (SpecR w (specC V VO L N al way l)) := by
  have l0 := ha.v; have l1 := ha.vo; have l2 := ha.lr; have l3 := ha.n; have l4 := ha.ln
  have hway : way = 1 ∨ way = 2 ∨ way = 3 ∨ way = 4 := by have := ha.lo; have := ha.hi; omega
  rcases hway with rfl | rfl | rfl | rfl
  · exact way22_1 49 sort49 cv sv V VO L N al l w h hl ⟨by omega, by omega⟩ (by omega) ⟨by omega, by omega⟩ ⟨by omega, by omega⟩ ha.kinds
  · exact way22_2 49 sort49 cv sv V VO L N al l w h hl ⟨by omega, by omega⟩ (by omega) ⟨by omega, by omega⟩ ⟨by omega, by omega⟩ ha.kinds
  · exact way22_3 49 sort49 cv sv V VO L N al l w h hl ⟨by omega, by omega⟩ (by omega) ⟨by omega, by omega⟩ ⟨by omega, by omega⟩ ha.kinds
  · exact leave22 49 sort49 cv sv V VO L N al l w h hl (by omega) (by omega)
theorem Lst.ow {w : World} {base : Nat} {v : Value} {d s c : List Int} (h : Lst w base v d s) (hp : s.Perm c) (hc : okS c) : Ow w base v c := by
  have e := sorted_is h.1 h.2.1 hp hc
  have := h.2.2.1
  rw [e] at this
  exact this
/-- a configuration that the call made -/
def GotR (w : World) (r : Option Cfg) (e : Ending) (w' : World) : Prop :=
  New w w' ∧ ((∃ c cv, r = some c ∧ e = .returned (.tuple #[cv, .bool true]) ∧ Cow w' w.heap.size cv c.V c.VO c.L c.N c.al) ∨ (r = none ∧ e = .returned (.tuple #[noConf, .bool false])))
theorem impl_ask {V VO L N : List Int} {al : Bool} {way : Int} {l : List (Int × Int)} (ha : AskC V VO L N al way l) (h0 : ∀ x ∈ l, 0 ≤ x.2) (cv sv : Value) (w : World) (h : Cfv w cv V VO L N al) (hl : Chs w sv l) :
    Calls Try.prog 24 #[cv, .int .i64 way, sv] w (GotR w (specC V VO L N al way l)) := by
  have l0 := ha.v; have l1 := ha.vo; have l2 := ha.lr; have l3 := ha.n; have l4 := ha.ln
  have hway : way = 1 ∨ way = 2 ∨ way = 3 ∨ way = 4 := by have := ha.lo; have := ha.hi; omega
  have hag := agree ha h0
  refine (changed_any cv sv V VO L N al way l w h hl (by omega) ha.kinds (by omega) 49 sort49 (fun s hs => ?_) hway).mono ?_
  · rcases hag with ⟨_, h2⟩ | ⟨c, s', _, h2, ag⟩
    · rw [hs] at h2; cases h2
    · rw [hs] at h2; cases h2
      have := ag.n0; have := ag.n1; have := ag.n2; have := ag.n3
      have := ag.p0.length_eq; have := ag.p1.length_eq; have := ag.p2.length_eq; have := ag.p3.length_eq
      omega
  · rintro e w' ⟨hn, hr⟩
    refine ⟨hn, ?_⟩
    rcases hag with ⟨h1, h2⟩ | ⟨c, s', h1, h2, ag⟩
    · rw [h2] at hr
      rw [h1]
      rcases hr with ⟨s, cv', h3, _⟩ | ⟨_, rfl⟩
      · cases h3
      · exact .inr ⟨rfl, rfl⟩
    · rw [h1]
      rw [h2] at hr
      rcases hr with ⟨s, cv', h3, rfl, ho⟩ | ⟨h3, _⟩
      · cases h3
        obtain ⟨a, b, c', d, A, B, C, D, rfl, g0, g1, g2, g3⟩ := ho.ex
        refine .inl ⟨c, _, rfl, rfl, a, b, c', d, ?_, g0.ow ag.p0 ag.prop.s0, g1.ow ag.p1 ag.prop.s1, g2.ow ag.p2 ag.prop.s2, g3.ow ag.p3 ag.prop.s3⟩
        rw [ag.al]
      · cases h3
theorem spec_ok {V VO L N : List Int} {al : Bool} {way : Int} {l : List (Int × Int)} (ha : AskC V VO L N al way l) (h0 : ∀ x ∈ l, 0 ≤ x.2) {c : Cfg} (hc : specC V VO L N al way l = some c) : PropC c.V c.VO c.L c.N c.al ∧ c.V.length ≤ 24 ∧ c.VO.length ≤ 24 ∧ c.L.length ≤ 24 ∧ c.N.length ≤ 24 := by
  rcases agree ha h0 with ⟨h1, _⟩ | ⟨c', s, h1, _, ag⟩
  · rw [hc] at h1; cases h1
  · rw [hc] at h1; cases h1
    exact ⟨ag.prop, ag.n0, ag.n1, ag.n2, ag.n3⟩
end Go.Proofs.Ytcgccoigjcdjeaa
