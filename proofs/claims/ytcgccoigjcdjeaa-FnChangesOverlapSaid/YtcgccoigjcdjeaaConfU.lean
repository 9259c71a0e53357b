/- impl.confOut: a configuration as data. Condition: the sort up to M elements as a hypothesis. -/
import Derived.Test.YtcgccoigjcdjeaaConfT
import Derived.Test.YtcgccoigjcdjeaaSortA
namespace Go.Proofs.Ytcgccoigjcdjeaa
open Go.RowKit Go.Sort

/-- the sort, of at most M numbers -/
def SortTo (M : Nat) : Prop := ∀ (g e cap : Nat) (d : Array Int) (rest : List Value) (w : World), RowV w g e d rest → d.size ≤ M → Calls Try.prog 34 #[.slice (some ⟨g, 0, none⟩) d.size cap] w (Sorted w g e d rest)
theorem sort12 : SortTo 12 := fun g e cap d rest w hr hs => sort_small g e cap d rest w hr hs

theorem row_of_owns {w : World} {base e : Nat} {v : Value} {n : Nat} {d : List Int} (h : w.ownsRow base e 1 v n (d.map (Value.int .u64))) : (v = .slice none 0 0 ∧ d = []) ∨ ∃ g cap rest, v = .slice (some ⟨g, 0, none⟩) d.length cap ∧ base ≤ g ∧ d.length ≤ cap ∧ cap ≤ maxLen ∧ d.length + rest.length = cap ∧ RowV w g e d.toArray rest := by
  have hl := h.1
  simp only [List.length_map, Nat.mul_one] at hl
  subst hl
  rcases h.2 with ⟨rfl, hn⟩ | ⟨g, cap, cur, rfl, hb, hg, h1, h2, h3, h4⟩
  · exact .inl ⟨rfl, List.eq_nil_of_length_eq_zero hn⟩
  · simp only [Nat.mul_one] at h3 h4
    refine .inr ⟨g, cap, cur.toList.drop d.length, rfl, hb, h1, h2, by simp [h3]; omega, ?_⟩
    unfold RowV
    simp only
    rw [← h4, List.take_append_drop]
    exact hg
theorem owns_of_row {w : World} {base g e cap : Nat} {d : List Int} {rest : List Value} (h : RowV w g e d.toArray rest) (hb : base ≤ g) (h1 : d.length ≤ cap) (h2 : cap ≤ maxLen) (h3 : d.length + rest.length = cap) : w.ownsRow base e 1 (.slice (some ⟨g, 0, none⟩) d.length cap) d.length (d.map (Value.int .u64)) := by
  refine ⟨by simp, .inr ⟨g, cap, _, rfl, hb, h, h1, h2, by simp [h3], ?_⟩⟩
  simp

/-- a sorted list, built by the call -/
def Lst (w : World) (base : Nat) (v : Value) (d s : List Int) : Prop :=
  d.Perm s ∧ d.Pairwise (· ≤ ·) ∧ w.ownsRow base 28 1 v d.length (d.map (Value.int .u64)) ∧ (s = [] → v = .slice none 0 0)
theorem Lst.chg {w w' : World} {S : Nat → Prop} {base : Nat} {v : Value} {d s : List Int} (h : Lst w base v d s) (c : Chg w w' S) (hS : ∀ i, base ≤ i → i < w.heap.size → ¬ S i) : Lst w' base v d s :=
  ⟨h.1, h.2.1, ownsRow_chg h.2.2.1 c (fun i hi => by have := h.2.2.1.lt i hi; exact hS i this.1 this.2), h.2.2.2⟩
theorem Lst.base {w : World} {base base' : Nat} {v : Value} {d s : List Int} (h : Lst w base v d s) (hb : base' ≤ base) : Lst w base' v d s := ⟨h.1, h.2.1, ownsRow_base h.2.2.1 hb, h.2.2.2⟩
def Listed (w : World) (s : List Int) (e : Ending) (w' : World) : Prop := ∃ v d, e = .returned v ∧ Lst w' w.heap.size v d s ∧ New w w'

set_option maxRecDepth 100000 in
set_option maxHeartbeats 1600000 in
theorem out86_any (M : Nat) (hS : SortTo M) (o : Option Nat) (s : List Int) (w : World) (hs : SetV w o s) (hm : s.length ≤ M) (hm2 : s.length ≤ 100000) : Calls Try.prog 86 #[.map o] w (Listed w s) := by
  have HS := Lib.hid hs; have HSO := Lib.hid hS; clear hs hS
  go_enter Try.func86, Try.ntmps86
  go_wp2_with (first | (at_range; refine set_range rfl _ _ rfl mt69 rfl HS.out ?_; intro w1 r1 s1 z1) | fail)
  go_frame
  go_loopg [3, 4] s.length (fun n v _ wr => ∃ done : List Int, s.length ≤ done.length + n ∧ RangS wr w.heap.size o s done ∧ wr.ownsRow (w.heap.size + 1) 28 1 v done.length (done.map (Value.int .u64)) ∧ (done = [] → v = .slice none 0 0) ∧ New w wr ∧ w.heap.size + 1 ≤ wr.heap.size)
  case atStart => exact ⟨[], by simp, r1, World.ownsRow_nil _ _ _ _, fun _ => rfl, s1.chg, by omega⟩
  case round =>
    obtain ⟨done, hn, hr, hown, hnil, hnew, hz⟩ := hrel
    have HL := Lib.hid hn; have HR := Lib.hid hr; have HO := Lib.hid hown; have HNIL := Lib.hid hnil; have HNW := Lib.hid hnew; have HZ := Lib.hid hz
    clear hn hr hown hnil hnew hz r1 s1 z1
    go_wp2_with (first
      | (at_next; refine set_next rfl _ rfl rfl HR.out ?_ ?_)
      | fail)
    · intro hp
      have hlen := hp.length_eq
      rcases row_of_owns HO.out with ⟨hv, hd⟩ | ⟨g, cap, rest, hv, hb, h1, h2, h3, hrow⟩
      · subst hv
        subst hd
        have hs0 : s = [] := List.eq_nil_of_length_eq_zero (by simpa using hlen.symm)
        have HS0 := Lib.hid hs0
        clear hs0 hp hlen
        go_wp2_with (first
          | (go_at_call 34; refine (sort_nil _).mono ?_; rintro e w2 ⟨rfl, rfl⟩)
          | fail)
        go_ret
        exact ⟨_, [], rfl, ⟨by rw [HS0.out], List.Pairwise.nil, World.ownsRow_nil _ _ _ _, fun _ => rfl⟩, HNW.out⟩
      · subst hv
        have HROW := Lib.hid hrow; have HB := Lib.hid hb; have H1 := Lib.hid h1; have H2 := Lib.hid h2; have H3 := Lib.hid h3; have HP := Lib.hid hp; have HLE := Lib.hid hlen
        clear hrow hb h1 h2 h3 hp hlen
        go_wp2_with (first
          | (go_at_call 34; refine (HSO.out g 28 cap done.toArray rest _ HROW.out (by have := HLE.out; simp; omega)).mono ?_; rintro e w2 ⟨rfl, d', hr2, hd1, hd2, hd3, hc2⟩)
          | fail)
        go_ret
        have hdl : d'.toList.length = done.length := by simpa using hd1
        have h4 : RowV w2 g 28 d'.toList.toArray rest := by simpa using hr2
        have hown := owns_of_row (base := w.heap.size) h4 (by have := HB.out; omega) (cap := cap) (by rw [hdl]; exact H1.out) H2.out (by rw [hdl]; exact H3.out)
        have hne : done ≠ [] := fun e => by have := HNIL.out e; cases this
        refine ⟨_, d'.toList, rfl, ⟨(by simpa using hd2 : d'.toList.Perm done).trans HP.out, hd3, ?_, fun e => ?_⟩, HNW.out.trans hc2 (fun _ _ h => h) (fun i hi e => by have := HB.out; omega)⟩
        · rw [hdl] at hown ⊢; exact hown
        · exact absurd (List.eq_nil_of_length_eq_zero (by have := HLE.out; rw [e] at this; simpa using this)) hne
    · intro k w2 hk hnk r2 s2 z2 hen
      have ho2 := ownsRow_chg HO.out s2.chg (fun i hi e => by have := (HO.out.lt i hi).1; omega)
      have HO2 := Lib.hid ho2; have HZ2 := Lib.hid z2
      have hl2 := r2.len
      simp only [List.length_append, List.length_cons, List.length_nil] at hl2
      clear ho2 z2
      go_wp2_with (first
        | (at_builtin; refine op_append1 rfl (.tmp 11) (.tmp 13) rfl st22 (w.heap.size + 1) done.length u3 _ rfl (ownsRow_chg HO2.out (Chg.alloc w2 _ (fun _ => False)) (by simp)) w2.heap.size (.int .u64 k) rfl (cell_of_block (block_new _ _) rfl) rfl (by omega) (by have h1 := HZ2.out; have h2 := HZ.out; simp; omega) ?_; intro v' w3 hown hch)
        | fail)
      go_roundg (gk - 1)
      case measure => have := HL.out; omega
      case rel =>
        have hown0 := HO2.out
        have hch2 : Chg w2 w3 (fun i => u3.ownBlock = some i) := (Chg.alloc w2 _ _).then hch
        have hz2 := HZ2.out
        have hnw2 : New w w2 := HNW.out.trans s2.chg (fun _ _ h => h) (fun i hi e => by omega)
        refine ⟨done ++ [k], by have := HL.out; simp; omega, r2.chg hch2 (fun e => by have := (hown0.lt _ e).1; omega) (fun b e e' => by have h1 := (hown0.lt _ e').1; have h2 : b < w.heap.size := (by have := HS.out; rw [e] at this; exact this.lt); omega), by simpa using hown, fun e => by simp at e, hnw2.trans hch2 (fun _ _ h => h) (fun i hi e => by have := (hown0.lt _ e).1; omega), by have h1 := hch2.size; have h2 := HZ.out; omega⟩
end Go.Proofs.Ytcgccoigjcdjeaa
