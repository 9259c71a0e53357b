/- spec.apart, spec.SameConf. Condition: at most 100000 numbers. -/
import Derived.Test.YtcgccoigjcdjeaaQuZ
import Derived.Test.YtcgccoigjcdjeaaConfX
import Derived.Lib.SlKept
import Derived.Lib.SliceRun
namespace Go.Proofs.Ytcgccoigjcdjeaa
open Go.RowKit Go.Sort

/-- a list that was made behind base -/
abbrev Ow (w : World) (base : Nat) (v : Value) (l : List Int) : Prop := w.ownsRow base 28 1 v l.length (l.map (Value.int .u64))
theorem Ow.us {w : World} {base : Nat} {v : Value} {l : List Int} (h : Ow w base v l) : Us w v l := us_of_owns h
theorem Ow.nilok {w : World} {base : Nat} {v : Value} {l : List Int} (h : Ow w base v l) : NilOk v := by
  rcases row_of_owns h with ⟨rfl, _⟩ | ⟨g, cap, rest, rfl, _⟩
  · exact fun cap e => by cases e; rfl
  · exact fun cap e => by cases e
theorem Ow.capok {w : World} {base : Nat} {v : Value} {l : List Int} (h : Ow w base v l) : CapOk v := by
  rcases row_of_owns h with ⟨rfl, _⟩ | ⟨g, cap, rest, rfl, _, h1, _⟩
  · exact fun ao n cap e => by cases e; exact Nat.le_refl _
  · exact fun ao n cap e => by cases e; exact h1
theorem Ow.new {w w' : World} {base : Nat} {v : Value} {l : List Int} (h : Ow w base v l) (c : New w w') : Ow w' base v l := ownsRow_chg h c (by simp)
theorem Ow.base {w : World} {base base' : Nat} {v : Value} {l : List Int} (h : Ow w base v l) (hb : base' ≤ base) : Ow w base' v l := ownsRow_base h hb

set_option maxRecDepth 100000 in
set_option maxHeartbeats 1600000 in
theorem clone42_own (v : Value) (l : List Int) (w : World) (h : Us w v l) (hn : l.length ≤ 1000000) (hnil : NilOk v) :
    Calls Try.prog 42 #[v] w fun e w' => ∃ v', e = .returned v' ∧ Ow w' w.heap.size v' l ∧ New w w' := by
  obtain ⟨ao, cap, rfl, h⟩ := h
  cases ao with
  | none =>
    have hl : l = [] := by
      cases l with
      | nil => rfl
      | cons x l => obtain ⟨b, off, e, _⟩ := h 0 (by simp); cases e
    subst hl
    have hc := hnil cap rfl
    subst hc
    clear hnil h
    go_enter Try.func42, Try.ntmps42
    go_wp2_with fail
    go_ret
    exact ⟨_, rfl, World.ownsRow_nil _ _ _ _, Chg.refl _ _⟩
  | some ad =>
    have hcells : ∀ j u, (l.map (Value.int .u64))[j]? = some u → ∀ o, (w.alloc o).cell? (ad.add j) = some u := by
      intro j u hu o
      have hj : j < l.length := by have := (List.getElem?_eq_some_iff.1 hu).1; simpa using this
      obtain ⟨b, off, e, hc⟩ := h j hj
      cases e
      rw [List.getElem?_map, List.getElem?_eq_getElem hj] at hu
      simp only [Option.map_some, Option.some.injEq] at hu
      subst hu
      have e2 : (⟨b, off, none⟩ : Addr).add j = ⟨b, off + j, none⟩ := by unfold Addr.add; split <;> simp_all
      rw [e2]
      exact (Chg.alloc w o (fun _ => False)).has hc
    have HC := Lib.hid hcells; have HN := Lib.hid hn
    clear hcells hn h hnil
    go_enter Try.func42, Try.ntmps42
    go_wp2_with (first
      | (at_builtin; refine op_appends rfl (.tmp 5) (.tmp 6) rfl st22 w.heap.size 0 (.slice (some ⟨w.heap.size, 0, none⟩) 0 0) [] rfl (World.ownsRow_made w #[] 0 (Nat.le_refl _) (by decide) rfl) ad l.length cap (l.map (Value.int .u64)) rfl (by simp) (fun j u hu => HC.out j u hu _) (by intro u hu; obtain ⟨x, _, rfl⟩ := List.mem_map.1 hu; rfl) (by have := HN.out; omega) (by simp) ?_; intro v' w1 hown hch)
      | fail)
    go_ret
    rw [Nat.zero_add, List.nil_append] at hown
    have hb : ∀ x : Nat, Value.ownBlock (.slice (some ⟨w.heap.size, 0, none⟩) 0 0) = some x → x = w.heap.size := fun x e => by simp [Value.ownBlock] at e; exact e.symm
    exact ⟨v', rfl, hown, (Chg.alloc w _ _).trans hch (fun _ _ h => h) (fun i hi e => by have := hb i e; omega)⟩

/-- a sorted list with a member -/
def putC (l : List Int) (x : Int) : List Int := if x ∈ l then l else (l ++ [x]).mergeSort (fun a b => decide (a ≤ b))
theorem sort_unique {d s : List Int} (hp : d.Perm s) (hs : d.Pairwise (· ≤ ·)) : d = s.mergeSort (fun a b => decide (a ≤ b)) := by
  refine List.Perm.eq_of_pairwise (le := fun a b => a ≤ b) (fun a b _ _ h1 h2 => by omega) hs ?_ (hp.trans (List.mergeSort_perm _ _).symm)
  have := List.pairwise_mergeSort (le := fun a b : Int => decide (a ≤ b)) (fun a b c h1 h2 => by simp at *; omega) (fun a b => by simp; omega) s
  exact this.imp (fun h => by simpa using h)

set_option maxRecDepth 100000 in
set_option maxHeartbeats 1600000 in
theorem put48_any (M : Nat) (hS : SortTo M) (v : Value) (l : List Int) (x : Int) (w : World) (h : Us w v l) (hnil : NilOk v) (hn : l.length < M) (hn2 : l.length ≤ 1000000) :
    Calls Try.prog 48 #[v, .int .u64 x] w fun e w' => ∃ v', e = .returned v' ∧ (v' = v ∧ x ∈ l ∨ x ∉ l ∧ Ow w' w.heap.size v' (putC l x)) ∧ New w w' := by
  have H := Lib.hid h; have HS := Lib.hid hS; have HNIL := Lib.hid hnil; have HN := Lib.hid hn; have HN2 := Lib.hid hn2
  clear h hS hnil hn hn2
  have hb : decide (x ∈ l) = true ∨ decide (x ∈ l) = false := by cases decide (x ∈ l) <;> simp
  go_enter Try.func48, Try.ntmps48
  go_wp2_with fail
  refine (contains36_any v l x w H.out (by have := HN2.out; omega)).mono ?_
  rcases hb with hb | hb
  · rw [hb]
    rintro e w1 ⟨rfl, rfl⟩
    go_wp2_with fail
    go_ret
    exact ⟨_, rfl, .inl ⟨rfl, of_decide_eq_true hb⟩, Chg.refl _ _⟩
  · rw [hb]
    have hx := of_decide_eq_false hb
    have HX := Lib.hid hx
    clear hb hx
    rintro e w1 ⟨rfl, rfl⟩
    go_wp2_with fail
    refine (clone42_own v l w1 H.out HN2.out HNIL.out).mono ?_
    rintro e w2 ⟨v2, rfl, ho2, n2⟩
    have HO2 := Lib.hid ho2; have N2 := Lib.hid n2; have Z2 := Lib.hid n2.size
    clear ho2 n2
    go_wp2_with (first
      | (at_builtin; refine op_append1 rfl (.tmp 11) (.tmp 13) rfl st22 w1.heap.size l.length v2 _ rfl (ownsRow_chg HO2.out (Chg.alloc w2 _ (fun _ => False)) (by simp)) w2.heap.size (.int .u64 x) rfl (cell_of_block (block_new _ _) rfl) rfl HN2.out (by have h1 := Z2.out; simp; omega) ?_; intro v3 w3 hown hch)
      | fail)
    have hown3 : Ow w3 w1.heap.size v3 (l ++ [x]) := by unfold Ow; simpa using hown
    have hnw3 : New w1 w3 := N2.out.trans ((Chg.alloc w2 _ _).then hch) (fun _ _ h => h) (fun i hi e => by have := (HO2.out.lt _ e).1; omega)
    rcases row_of_owns hown3 with ⟨_, hv⟩ | ⟨g, cap, rest, rfl, hg, h1, h2, h3, hrow⟩
    · simp at hv
    · have HROW := Lib.hid hrow; have HG := Lib.hid hg; have H1 := Lib.hid h1; have H2 := Lib.hid h2; have H3 := Lib.hid h3; have HNW3 := Lib.hid hnw3
      clear hrow hg h1 h2 h3 hown hown3 hch hnw3
      go_wp2_with fail
      refine (HS.out g 28 cap (l ++ [x]).toArray rest _ HROW.out (by have := HN.out; simp; omega)).mono ?_
      rintro e w4 ⟨rfl, d', hr4, hd1, hd2, hd3, hc4⟩
      go_wp2_with fail
      go_ret
      have hdl : d'.toList.length = (l ++ [x]).length := by simpa using hd1
      have he : d'.toList = putC l x := by
        unfold putC; rw [if_neg HX.out]
        exact sort_unique (by simpa using hd2) hd3
      have h4 : RowV w4 g 28 d'.toList.toArray rest := by simpa using hr4
      have hown4 := owns_of_row (base := w1.heap.size) h4 (by have := HG.out; omega) (cap := cap) (by rw [hdl]; exact H1.out) H2.out (by rw [hdl]; exact H3.out)
      rw [he] at hown4
      have hpl : (putC l x).length = (l ++ [x]).length := by rw [← he]; exact hdl
      have hl1 : (l ++ [x]).length = l.length + 1 := by simp
      rw [hl1] at hpl
      rw [hpl] at hown4
      refine ⟨.slice (some ⟨g, 0, none⟩) (l.length + 1) cap, rfl, .inr ⟨HX.out, ?_⟩, HNW3.out.trans hc4 (fun _ _ h => h) (fun i hi e => by have := HG.out; omega)⟩
      unfold Ow
      rw [hpl]
      exact hown4
end Go.Proofs.Ytcgccoigjcdjeaa
namespace Go.Proofs.Ytcgccoigjcdjeaa
open Go.RowKit Go.Sort Go.Lib

theorem Chg.hasAt {w w' : World} {S : Nat → Prop} (h : Chg w w' S) {p : Addr} {u : Value} (hc : w.cell? p = some u) (hS : ¬ S p.block) : w'.cell? p = some u := (h.cell (World.block_lt_of_cell? w p hc) hS).trans hc
theorem clo99_any (x : Int) (ab : Nat) (k : Int) (w : World) (h : w.cell? ⟨ab, 0, none⟩ = some (.int .u64 k)) :
    Calls Try.prog 99 #[.int .u64 x, .pointer (some ⟨ab, 0, none⟩)] w fun e w' => e = .returned (.bool (x == k)) ∧ w' = w := by
  go_enter Try.func99, Try.ntmps99
  go_wp2
  go_ret
  exact ⟨rfl, rfl⟩

/-- where a number is found first -/
def FirstAt (l : List Int) (k r : Int) : Prop := (r = -1 ∧ k ∉ l) ∨ ∃ i : Nat, r = i ∧ l[i]? = some k ∧ k ∉ l.take i
set_option maxRecDepth 100000 in
set_option maxHeartbeats 1600000 in
theorem index113_any (v : Value) (l : List Int) (ab : Nat) (k : Int) (w : World) (h : Us w v l) (hk : w.cell? ⟨ab, 0, none⟩ = some (.int .u64 k)) (hn : l.length ≤ 2147483647) :
    Calls Try.prog 113 #[v, .func (.func 99) #[] #[.pointer (some ⟨ab, 0, none⟩)]] w fun e w' => (∃ r : Int, e = .returned (.int .i64 r) ∧ FirstAt l k r) ∧ w' = w := by
  obtain ⟨ao, cap, rfl, h⟩ := h
  have H := Lib.hid h; have HN := Lib.hid hn; have HK := Lib.hid hk
  clear h hn hk
  go_enter Try.func113, Try.ntmps113
  go_wp2_with fail
  go_loopg [5, 8] l.length (fun n _ j wr => ∃ i : Nat, i ≤ l.length ∧ l.length ≤ n + i ∧ j = .int .i64 i ∧ k ∉ l.take i ∧ wr = w)
  case atStart => exact ⟨0, by omega, by omega, rfl, by simp, rfl⟩
  case round =>
    obtain ⟨i, hi, hg, rfl, hnk, rfl⟩ := hrel
    have HG := Lib.hid hg; have HNK := Lib.hid hnk
    clear hg hnk
    have hsm : l.length ≤ 2147483647 := HN.out
    by_cases hlt : i < l.length
    · obtain ⟨b, off, rfl, hc⟩ := H.out i hlt
      have htk := List.take_succ_eq_append_getElem hlt
      have hge := List.getElem?_eq_getElem hlt
      obtain ⟨x, hx⟩ : ∃ x, x = l[i] := ⟨_, rfl⟩
      rw [← hx] at hc htk hge
      have HTK := Lib.hid htk; have HGE := Lib.hid hge
      clear hx htk hge
      by_cases hxk : k = x
      · subst hxk
        have hkk : (k == k) = true := by simp
        go_wp2_with (first
          | (go_at_call 99; refine (clo99_any k ab k _ HK.out).mono ?_; rw [hkk]; rintro e w1 ⟨rfl, rfl⟩)
          | fail)
        refine bodyPost_ret (results_tmp rfl _ _ _) rfl ⟨⟨i, rfl, .inr ⟨i, rfl, HGE.out, HNK.out⟩⟩, rfl⟩
      · have hxb : (x == k) = false := by simp; exact fun e => hxk e.symm
        have HXK := Lib.hid hxk; clear hxk
        go_wp2_with (first
          | (go_at_call 99; refine (clo99_any x ab k _ HK.out).mono ?_; rw [hxb]; rintro e w1 ⟨rfl, rfl⟩)
          | fail)
        go_roundg (gk - 1)
        case measure => have := HG.out; omega
        case rel => exact ⟨i + 1, by omega, by have := HG.out; omega, by go_num, by rw [HTK.out]; have h1 := HNK.out; have h2 := HXK.out; simp [h1, h2], rfl⟩
    · have hil : i = l.length := by omega
      subst hil
      have hkl : k ∉ l := by have := HNK.out; rwa [List.take_length] at this
      have HKL := Lib.hid hkl; clear hkl
      go_wp2_with fail
      refine bodyPost_ret (results_tmp rfl _ _ _) rfl ⟨⟨-1, rfl, .inl ⟨rfl, HKL.out⟩⟩, rfl⟩

/-- zeros from place i on -/
def fillZ : Nat → Nat → Array Int → Array Int
  | _, 0, d => d
  | i, n + 1, d => fillZ (i + 1) n (d.setIfInBounds i 0)
theorem fillZ_size : ∀ (n i : Nat) (d : Array Int), (fillZ i n d).size = d.size
  | 0, _, _ => rfl
  | n + 1, i, d => by simp [fillZ, fillZ_size n]
theorem fillZ_low : ∀ (n i : Nat) (d : Array Int) (t : Nat), t < i → (fillZ i n d)[t]! = d[t]!
  | 0, _, _, _, _ => rfl
  | n + 1, i, d, t, h => by rw [fillZ, fillZ_low n (i + 1) _ t (by omega), getElem!_set_other d i t _ (by omega)]
theorem RowV.fill {g e : Nat} {rest : List Value} : ∀ (n i : Nat) {w : World} {d : Array Int}, RowV w g e d rest → i + n ≤ d.size → RowV (w.setCells g i (List.replicate n (.int .u64 0))) g e (fillZ i n d) rest ∧ Chg w (w.setCells g i (List.replicate n (.int .u64 0))) (fun j => j = g)
  | 0, _, w, _, h, _ => ⟨h, Chg.refl _ _⟩
  | n + 1, i, w, d, h, hb => by
    obtain ⟨h1, h2⟩ := RowV.fill n (i + 1) (h.set (t := i) (by omega) 0) (by simp; omega)
    exact ⟨h1, (Chg.setCell w ⟨g, i, none⟩ (.int .u64 0) (fun j => j = g) (fun _ => rfl)).then h2⟩
theorem own_prefix {w : World} {base g i cap : Nat} {d : Array Int} {K : List Int} {rest : List Value} (h : RowV w g 28 d rest) (hb : base ≤ g) (hi : i ≤ d.size) (hl : K.length = i) (hk : ∀ j, j < i → K[j]? = some d[j]!) (h1 : d.size ≤ cap) (h2 : cap ≤ maxLen) (h3 : d.size + rest.length = cap) :
    Ow w base (.slice (some ⟨g, 0, none⟩) i cap) K := by
  have hK : d.toList.take i = K := by
    apply List.ext_getElem?
    intro j
    by_cases hj : j < i
    · rw [hk j hj, List.getElem?_take, if_pos hj, getElem!_pos d j (by omega)]
      simp [show j < d.size by omega]
    · rw [List.getElem?_eq_none (by simp; omega), List.getElem?_eq_none (by omega)]
  have hr : RowV w g 28 K.toArray ((d.toList.drop i).map (Value.int .u64) ++ rest) := by
    unfold RowV at h ⊢
    rw [h, ← List.append_assoc]
    congr 4
    show d.toList.map _ = K.map _ ++ _
    rw [← List.map_append, ← hK, List.take_append_drop]
  have := owns_of_row (base := base) hr hb (cap := cap) (by omega) h2 (by simp; omega)
  subst hl
  exact this

theorem zero28 (w : World) : (zeroValue 28).run Try.prog w = .ok (.int .u64 0) w := by kernel_rfl
/-- a list without a member -/
def lessC (l : List Int) (x : Int) : List Int := l.filter (fun y => !(y == x))
set_option maxRecDepth 100000 in
set_option maxHeartbeats 3200000 in
theorem delete98_any (v : Value) (l : List Int) (base ab : Nat) (k : Int) (w : World) (h : Ow w base v l) (hab : ab < base) (hk : w.cell? ⟨ab, 0, none⟩ = some (.int .u64 k)) (hn : l.length ≤ 100000) :
    Calls Try.prog 98 #[v, .func (.func 99) #[] #[.pointer (some ⟨ab, 0, none⟩)]] w fun e w' => (∃ v', e = .returned v' ∧ Ow w' base v' (lessC l k)) ∧ Chg w w' (fun i => base ≤ i) := by
  have hus := h.us
  have H := Lib.hid h; have HK := Lib.hid hk; have HUS := Lib.hid hus
  have hrow := row_of_owns h
  obtain ⟨ao, cap0, rfl, _⟩ := hus
  clear h hk
  go_enter Try.func98, Try.ntmps98
  go_wp2_with fail
  refine (index113_any (.slice ao l.length cap0) l ab k w HUS.out HK.out (by omega)).mono ?_
  rintro e w1 ⟨⟨r, rfl, hr⟩, rfl⟩
  rcases hr with ⟨rfl, hkl⟩ | ⟨i0, rfl, hi0, hnk⟩
  · have he : lessC l k = l := by
      unfold lessC; rw [List.filter_eq_self]; intro y hy; simp; rintro rfl; exact hkl hy
    have HE := Lib.hid he
    clear hrow hkl he
    go_wp2_with fail
    go_ret
    exact ⟨⟨_, rfl, by rw [HE.out]; exact H.out⟩, Chg.refl _ _⟩
  · rcases hrow with ⟨_, rfl⟩ | ⟨g, cap, rest, hv, hg, h1, h2, h3, hrw⟩
    · simp at hi0
    · cases hv
      have hlt : i0 < l.length := (List.getElem?_eq_some_iff.1 hi0).1
      obtain ⟨d, hd⟩ : ∃ d : Array Int, d = l.toArray := ⟨_, rfl⟩
      have hds : d.size = l.length := by rw [hd]; simp
      have hdl : d.toList = l := by rw [hd]
      rw [← hd] at hrw
      obtain ⟨kp, hkp⟩ : ∃ kp : Nat → Bool, kp = fun j => !(d[j]! == k) := ⟨_, rfl⟩
      have hfil : lessC l k = keptUpTo kp d d.size := by rw [hkp, keptUpTo_filter (fun y => !(y == k)) d, hdl]; rfl
      have hst : KeptInv kp d (i0 + 1) i0 d := by
        refine KeptInv.start (fun j hj => ?_) ?_
        · rw [hkp]
          have hjl : j < l.length := by omega
          have e : d[j]! = l[j] := by rw [hd]; simp [hjl]
          simp only [e, Bool.not_eq_true', beq_eq_false_iff_ne, ne_eq]
          rintro rfl
          exact hnk (List.mem_take_iff_getElem.2 ⟨j, by omega, rfl⟩)
        · rw [hkp]
          have e : d[i0]! = k := by
            have := (List.getElem?_eq_some_iff.1 hi0).2
            rw [hd]; simp [hlt, this]
          simp [e]
      have HKP := Lib.hid hkp; have HFIL := Lib.hid hfil; have HST := Lib.hid hst; have HROW := Lib.hid hrw; have HDL := Lib.hid hdl; have HD := Lib.hid hd
      have HH1 := Lib.hid h1; have HH2 := Lib.hid h2; have HH3 := Lib.hid h3; have HGB := Lib.hid hg; have HDS := Lib.hid hds
      have hgab : g ≠ ab := by omega
      have hcapI : l.length ≤ cap0 := h1
      have hne1 : ((i0 : Int) == -1) = false := beq_eq_false_iff_ne.2 (by omega)
      clear hkp hfil hst hrw hdl hd h1 h2 h3 hg hi0 hnk hds
      go_wp2_with fail
      go_loopg [5, 6] l.length (fun n s5 s6 wr => ∃ (i j : Nat) (dk : Array Int), s5 = .int .i64 i ∧ s6 = .int .i64 j ∧ j ≤ l.length ∧ l.length ≤ n + j ∧ i < j ∧ KeptInv kp d j i dk ∧ RowV wr g 28 dk rest ∧ Chg w1 wr (fun i => i = g))
      case atStart => exact ⟨i0, i0 + 1, d, rfl, by go_num, by omega, by omega, by omega, HST.out, HROW.out, Chg.refl _ _⟩
      case round =>
        obtain ⟨i, j, dk, rfl, rfl, hjl, hgg, hij, hki, hrk, hck⟩ := hrel
        have HKI := Lib.hid hki; have HRK := Lib.hid hrk; have HCK := Lib.hid hck; have HGG := Lib.hid hgg
        have hkz := hki.size
        have HKZ := Lib.hid hkz
        clear hki hrk hck hgg hkz
        by_cases hlt2 : j < l.length
        · have hjz : (j : Int) < (l.length : Int) := by omega
          have cj := HRK.out.cell (t := j) (by have := HKZ.out; have := HDS.out; omega)
          have ci := HRK.out.cell (t := i) (by have := HKZ.out; have := HDS.out; omega)
          have fi := HRK.out.free i
          have hh := HKI.out.high j (by omega)
          rw [hh] at cj
          obtain ⟨x, hx⟩ : ∃ x, x = d[j]! := ⟨_, rfl⟩
          obtain ⟨y, hy⟩ : ∃ y, y = dk[i]! := ⟨_, rfl⟩
          rw [← hx] at cj; rw [← hy] at ci
          have HX := Lib.hid hx
          clear hx hy hh
          by_cases hxk : x = k
          · subst hxk
            have hkk : (x == x) = true := by simp
            go_wp2_with (first
              | (go_at_call 99; refine (clo99_any x ab x _ (HCK.out.hasAt HK.out (fun e => hgab e.symm))).mono ?_; rw [hkk]; rintro e w2 ⟨rfl, rfl⟩)
              | fail)
            go_roundg (gk - 1)
            case measure => have := HGG.out; omega
            case rel => exact ⟨i, j + 1, dk, rfl, by go_num, by omega, by have := HGG.out; omega, by omega, HKI.out.skip (by rw [HKP.out]; simp [← HX.out]), HRK.out, HCK.out⟩
          · have hxb : (x == k) = false := by simpa using hxk
            have HXB := Lib.hid hxb
            clear hxk
            go_wp2_with (first
              | (go_at_call 99; refine (clo99_any x ab k _ (HCK.out.hasAt HK.out (fun e => hgab e.symm))).mono ?_; rw [hxb]; rintro e w2 ⟨rfl, rfl⟩)
              | fail)
            go_roundg (gk - 1)
            case measure => have := HGG.out; omega
            case rel =>
              refine ⟨i + 1, j + 1, dk.setIfInBounds i x, by go_num, by go_num, by omega, by have := HGG.out; omega, by omega, ?_, HRK.out.set (by have := HKZ.out; have := HDS.out; omega) x, HCK.out.then (Chg.setCell _ _ _ _ (fun _ => rfl))⟩
              have := HKI.out.keep (by have := HDS.out; omega) (by rw [HKP.out]; simp only; rw [← HX.out, HXB.out]; rfl)
              rwa [← HX.out] at this
        · obtain rfl : j = l.length := by omega
          have hjz : ¬ (l.length : Int) < (l.length : Int) := by omega
          obtain ⟨m, hm⟩ : ∃ m, m = l.length - i := ⟨_, rfl⟩
          have hcl : ∀ ty c, (Builtin.clear_ #[22] ty #[.slice (some ⟨g, i, none⟩) (l.length - i) c]).run Try.prog wr = .ok (.tuple #[]) (wr.setCells g i (List.replicate (l.length - i) (.int .u64 0))) :=
            fun ty c => Lib.run_clear_slice wr _ _ ty _ Try.underlying22 zero28 rfl rfl g i _ _ (by omega) (fun t ht => by rw [HRK.out.cell (t := i + t) (by have := HKZ.out; have := HDS.out; omega)]; rfl) (fun t ht => HRK.out.free (i + t))
          obtain ⟨f1, f2⟩ := RowV.fill (l.length - i) i HRK.out (by have := HKZ.out; have := HDS.out; omega)
          have hown : Ow (wr.setCells g i (List.replicate (l.length - i) (.int .u64 0))) base (.slice (some ⟨g, 0, none⟩) i cap0) (lessC l k) := by
            have hz := HKZ.out; have hs := HDS.out
            refine own_prefix f1 HGB.out (by rw [fillZ_size]; omega) ?_ (fun j hj => ?_) (by rw [fillZ_size]; omega) HH2.out (by rw [fillZ_size]; have := HH3.out; omega)
            · rw [HFIL.out, hs]; exact HKI.out.len
            · rw [HFIL.out, hs, fillZ_low _ _ _ _ hj]; exact HKI.out.low j hj
          have HOWN := Lib.hid hown; have F2 := Lib.hid (HCK.out.then f2)
          clear f1 f2 hown
          go_wp2_with fail
          go_ret
          exact ⟨⟨_, rfl, HOWN.out⟩, F2.out.mono (fun i _ hi => by have := HGB.out; omega)⟩
end Go.Proofs.Ytcgccoigjcdjeaa
namespace Go.Proofs.Ytcgccoigjcdjeaa
open Go.RowKit Go.Sort Go.Lib

set_option maxRecDepth 100000 in
set_option maxHeartbeats 1600000 in
theorem less69_any (v : Value) (l : List Int) (x : Int) (w : World) (h : Us w v l) (hnil : NilOk v) (hn : l.length ≤ 100000) :
    Calls Try.prog 69 #[v, .int .u64 x] w fun e w' => ∃ v', e = .returned v' ∧ Ow w' w.heap.size v' (lessC l x) ∧ New w w' := by
  have hal := h.new (Chg.alloc w (.cells #[.int .u64 x] 28) (fun _ => False))
  have HAL := Lib.hid hal; have HNIL := Lib.hid hnil
  clear h hnil hal
  go_enter Try.func69, Try.ntmps69
  go_wp2_with fail
  refine (clone42_own v l _ HAL.out (by omega) HNIL.out).mono ?_
  rintro e w2 ⟨v2, rfl, ho2, n2⟩
  rw [World.size_alloc] at ho2
  have hc : w2.cell? ⟨w.heap.size, 0, none⟩ = some (.int .u64 x) := cell_of_block (off := 0) (n2.keeps (block_new w _) (by simp)) rfl
  have HO2 := Lib.hid ho2; have N2 := Lib.hid ((Chg.alloc w (.cells #[.int .u64 x] 28) (fun _ => False)).then n2); have HC := Lib.hid hc
  clear ho2 n2 hc
  go_wp2_with fail
  refine (delete98_any v2 l (w.heap.size + 1) w.heap.size x w2 HO2.out (by omega) HC.out hn).mono ?_
  rintro e w3 ⟨⟨v3, rfl, ho3⟩, c3⟩
  have HO3 := Lib.hid ho3; have N3 := Lib.hid (N2.out.trans c3 (U := fun _ => False) (fun _ _ h => h) (fun i hi e => by omega))
  clear ho3 c3
  go_wp2_with fail
  go_ret
  exact ⟨_, rfl, HO3.out.base (by omega), N3.out⟩

set_option maxRecDepth 100000 in
set_option maxHeartbeats 1600000 in
theorem equal57_any (v1 v2 : Value) (l1 l2 : List Int) (w : World) (h1 : Us w v1 l1) (h2 : Us w v2 l2) (hn : l1.length ≤ 2147483647) :
    Calls Try.prog 57 #[v1, v2] w fun e w' => e = .returned (.bool (decide (l1 = l2))) ∧ New w w' := by
  obtain ⟨o1, c1, rfl, h1⟩ := h1
  obtain ⟨o2, c2, rfl, h2⟩ := h2
  have H1 := Lib.hid h1; have H2 := Lib.hid h2; have HN := Lib.hid hn
  clear h1 h2
  obtain ⟨r, hr⟩ : ∃ r, r = decide (l1 = l2) := ⟨_, rfl⟩
  rw [← hr]
  have HRR := Lib.hid hr; clear hr
  by_cases hl : l1.length = l2.length
  · obtain ⟨m, hm⟩ : ∃ m, m = l1.length := ⟨_, rfl⟩
    have hm2 : m = l2.length := hm.trans hl
    rw [← hm, ← hm2]
    have HM := Lib.hid hm; have HM2 := Lib.hid hm2
    have hmn : m ≤ 2147483647 := by omega
    have hne : (!((m : Int) == (m : Int))) = false := by simp
    clear hl hm hm2 hn
    go_enter Try.func57, Try.ntmps57
    go_wp2_with fail
    go_loopg [5, 13] m (fun n _ j wr => ∃ i : Nat, i ≤ m ∧ m ≤ n + i ∧ j = .int .i64 i ∧ l1.take i = l2.take i ∧ New w wr)
    case atStart => exact ⟨0, by omega, by omega, rfl, by simp, Chg.refl _ _⟩
    case round =>
      obtain ⟨i, hi, hg, rfl, htt, hnew⟩ := hrel
      have HG := Lib.hid hg; have HTT := Lib.hid htt; have HNW := Lib.hid hnew
      clear hg htt hnew
      by_cases hlt : i < m
      · have hlt1 : i < l1.length := by have := HM.out; omega
        have hlt2 : i < l2.length := by have := HM2.out; omega
        obtain ⟨b1, f1, rfl, d1⟩ := H1.out i hlt1
        obtain ⟨b2, f2, rfl, d2⟩ := H2.out i hlt2
        have p1 := HNW.out.has d1
        have p2 := HNW.out.has d2
        have t1 := List.take_succ_eq_append_getElem hlt1
        have t2 := List.take_succ_eq_append_getElem hlt2
        obtain ⟨x, hx⟩ : ∃ x, x = l1[i] := ⟨_, rfl⟩
        obtain ⟨y, hy⟩ : ∃ y, y = l2[i] := ⟨_, rfl⟩
        rw [← hx] at p1 t1; rw [← hy] at p2 t2
        have HX := Lib.hid hx; have HY := Lib.hid hy; have T1 := Lib.hid t1; have T2 := Lib.hid t2
        clear hx hy t1 t2 d1 d2
        by_cases hxy : x = y
        · subst hxy
          have hnx : (!(x == x)) = false := by simp
          go_wp2_with fail
          go_quiet (fail)
          go_wp2_with fail
          go_roundg (gk - 1)
          case measure => have := HG.out; omega
          case rel => exact ⟨i + 1, by omega, by have := HG.out; omega, by go_num, by rw [T1.out, T2.out, HTT.out], HNW.out.then (Chg.drewN _ _ _)⟩
        · have hnx : (!(x == y)) = true := by simpa using hxy
          have hf : r = false := by
            rw [HRR.out]
            simp only [decide_eq_false_iff_not]
            intro e
            apply hxy
            rw [HX.out, HY.out]
            simp only [e]
          subst hf
          have hxb : (x == y) = false := by simpa using hxy
          clear hxy
          go_wp2_with fail
          go_quiet (fail)
          go_wp2_with fail
          refine bodyPost_ret (results_tmp rfl _ _ _) rfl ⟨rfl, HNW.out.then (Chg.drewN _ _ _)⟩
      · have hil : i = m := by omega
        have hf : r = true := by
          rw [HRR.out]
          have h1 := HTT.out; have h2 := HM.out; have h3 := HM2.out
          rw [List.take_of_length_le (by omega), List.take_of_length_le (by omega)] at h1
          simpa using h1
        subst hf
        have hdl : decide ((i : Int) < (m : Int)) = false := by simp; omega
        subst hil
        clear hlt
        go_wp2_with fail
        refine bodyPost_ret (results_tmp rfl _ _ _) rfl ⟨rfl, HNW.out⟩
  · have hne : ((l1.length : Int) == (l2.length : Int)) = false := by simp; omega
    have hne2 : (!((l1.length : Int) == (l2.length : Int))) = true := by simp; omega
    have hf : r = false := by
      rw [HRR.out]
      simp only [decide_eq_false_iff_not]
      rintro rfl
      exact hl rfl
    subst hf
    clear hl
    go_enter Try.func57, Try.ntmps57
    go_wp2_with fail
    refine bodyPost_ret (results_tmp rfl _ _ _) rfl ⟨rfl, Chg.refl _ _⟩
end Go.Proofs.Ytcgccoigjcdjeaa
namespace Go.Proofs.Ytcgccoigjcdjeaa
open Go.RowKit Go.Sort Go.Lib

set_option maxRecDepth 100000 in
set_option maxHeartbeats 1600000 in
theorem apart50_any (v1 v2 : Value) (l1 l2 : List Int) (w : World) (h1 : Us w v1 l1) (h2 : Us w v2 l2) (hn1 : l1.length ≤ 100000) (hn2 : l2.length ≤ 100000) :
    Calls Try.prog 50 #[v1, v2] w fun e w' => e = .returned (.int .i64 ((cnt l1 l2 + cnt l2 l1 : Nat) : Int)) ∧ w' = w := by
  have U1 := Lib.hid h1; have U2 := Lib.hid h2
  obtain ⟨o1, c1, rfl, h1⟩ := h1
  obtain ⟨o2, c2, rfl, h2⟩ := h2
  have H1 := Lib.hid h1; have H2 := Lib.hid h2
  clear h1 h2
  go_enter Try.func50, Try.ntmps50
  go_wp2_with fail
  go_loopg [5, 12] l1.length (fun n c j wr => ∃ i : Nat, i ≤ l1.length ∧ l1.length ≤ n + i ∧ j = .int .i64 i ∧ c = .int .i64 ((cnt (l1.take i) l2 : Nat) : Int) ∧ w = wr)
  case atStart => exact ⟨0, by omega, by omega, rfl, rfl, rfl⟩
  case round =>
    obtain ⟨i, hi, hg, rfl, rfl, rfl⟩ := hrel
    have HG := Lib.hid hg; clear hg
    obtain ⟨c, hc⟩ : ∃ c : Nat, c = cnt (l1.take i) l2 := ⟨_, rfl⟩
    have hcb : c ≤ 100000 := by rw [hc]; exact Nat.le_trans (cnt_le _ _) (by simp; omega)
    rw [← hc]
    have HC := Lib.hid hc; clear hc
    by_cases hlt : i < l1.length
    · obtain ⟨b, off, rfl, hcl⟩ := H1.out i hlt
      have htk := List.take_succ_eq_append_getElem hlt
      obtain ⟨x, hx⟩ : ∃ x, x = l1[i] := ⟨_, rfl⟩
      rw [← hx] at hcl htk
      have hsn := cnt_snoc (l1.take i) l2 x
      rw [← htk, ← HC.out] at hsn
      have HSN := Lib.hid hsn
      clear hx htk hsn
      have hb : decide (x ∈ l2) = true ∨ decide (x ∈ l2) = false := by cases decide (x ∈ l2) <;> simp
      go_wp2_with fail
      refine (contains36_any (.slice o2 l2.length c2) l2 x _ U2.out (by omega)).mono ?_
      rcases hb with hb | hb
      · have hin := of_decide_eq_true hb
        have HIN := Lib.hid hin
        rw [hb]
        clear hb hin
        rintro e w1 ⟨rfl, rfl⟩
        go_wp2_with fail
        go_roundg (gk - 1)
        case measure => have := HG.out; omega
        case rel => exact ⟨i + 1, by omega, by have := HG.out; omega, by go_num, by rw [HSN.out, if_pos HIN.out]; rfl, rfl⟩
      · have hin := of_decide_eq_false hb
        have HIN := Lib.hid hin
        rw [hb]
        clear hb hin
        rintro e w1 ⟨rfl, rfl⟩
        go_wp2_with fail
        go_roundg (gk - 1)
        case measure => have := HG.out; omega
        case rel => exact ⟨i + 1, by omega, by have := HG.out; omega, by go_num, by rw [HSN.out, if_neg HIN.out]; go_num, rfl⟩
    · have hil : i = l1.length := by omega
      have hcf : c = cnt l1 l2 := by rw [HC.out, hil, List.take_length]
      have HCF := Lib.hid hcf
      have hdl : decide ((i : Int) < (l1.length : Int)) = false := by simp; omega
      clear hil hcf HC HG
      go_wp2_with fail
      go_loopg [5, 25] l2.length (fun n c j wr => ∃ i : Nat, i ≤ l2.length ∧ l2.length ≤ n + i ∧ j = .int .i64 i ∧ c = .int .i64 ((cnt l1 l2 + cnt (l2.take i) l1 : Nat) : Int) ∧ w = wr)
      case atStart => exact ⟨0, by omega, by omega, rfl, by rw [HCF.out]; rfl, rfl⟩
      case round =>
        clear hdl hi hlt
        obtain ⟨i2, hi2, hg, rfl, rfl, rfl⟩ := hrel
        have HG := Lib.hid hg; clear hg
        obtain ⟨c3, hc3⟩ : ∃ c : Nat, c = cnt l1 l2 + cnt (l2.take i2) l1 := ⟨_, rfl⟩
        have hcb3 : c3 ≤ 200000 := by rw [hc3]; have h1 := cnt_le l1 l2; have h2 := cnt_le (l2.take i2) l1; have h3 : (l2.take i2).length ≤ l2.length := by simp; omega
                                      omega
        rw [← hc3]
        have HC := Lib.hid hc3; clear hc3
        by_cases hlt : i2 < l2.length
        · obtain ⟨b, off, rfl, hcl⟩ := H2.out i2 hlt
          have htk := List.take_succ_eq_append_getElem hlt
          obtain ⟨x, hx⟩ : ∃ x, x = l2[i2] := ⟨_, rfl⟩
          rw [← hx] at hcl htk
          have hsn := cnt_snoc (l2.take i2) l1 x
          rw [← htk] at hsn
          have HSN := Lib.hid hsn
          clear hx htk hsn
          have hb : decide (x ∈ l1) = true ∨ decide (x ∈ l1) = false := by cases decide (x ∈ l1) <;> simp
          go_wp2_with fail
          refine (contains36_any (.slice o1 l1.length c1) l1 x _ U1.out (by omega)).mono ?_
          rcases hb with hb | hb
          · have hin := of_decide_eq_true hb
            have HIN := Lib.hid hin
            rw [hb]
            clear hb hin
            rintro e w1 ⟨rfl, rfl⟩
            go_wp2_with fail
            go_roundg (gk - 1)
            case measure => have := HG.out; omega
            case rel => exact ⟨i2 + 1, by omega, by have := HG.out; omega, by go_num, by rw [HSN.out, if_pos HIN.out, HC.out]; rfl, rfl⟩
          · have hin := of_decide_eq_false hb
            have HIN := Lib.hid hin
            rw [hb]
            clear hb hin
            rintro e w1 ⟨rfl, rfl⟩
            go_wp2_with fail
            go_roundg (gk - 1)
            case measure => have := HG.out; omega
            case rel => exact ⟨i2 + 1, by omega, by have := HG.out; omega, by go_num, by rw [HSN.out, if_neg HIN.out, HC.out]; go_num, rfl⟩
        · have hil : i2 = l2.length := by omega
          have hcf3 : c3 = cnt l1 l2 + cnt l2 l1 := by rw [HC.out, hil, List.take_length]
          have HCF3 := Lib.hid hcf3
          have hdl : decide ((i2 : Int) < (l2.length : Int)) = false := by simp; omega
          clear hil hcf3 HC HG
          go_wp2_with fail
          refine bodyPost_ret (results_tmp rfl _ _ _) rfl ⟨by rw [← HCF3.out]; rfl, rfl⟩
end Go.Proofs.Ytcgccoigjcdjeaa
