/- append of a slice of numbers; slices.Grow at nil, slices.Concat. Condition: at least one number, at most a million. -/
import Derived.Test.YtcgccoigjcdjeaaQuG
import Derived.Lib.AppendZerosOnto
namespace Go.Proofs.Ytcgccoigjcdjeaa
open Go.RowKit Go.Sort

section
variable {w : World} {ops : Array Oper} {rest : List Oper} {o : Oper} {a : Act} {Q : Exit → Act → World → Prop}
theorem run_append_nil22 (ty : TypeId) {base n : Nat} {v : Value} {xs : List Value} (hown : w.ownsRow base 28 1 v n xs) (c : Nat) : (Builtin.append_ #[22, 22] ty #[v, .slice none 0 c]).run Try.prog w = .ok v w := by
  obtain ⟨i, h1', h2, h3, h4, h5, h6⟩ := st22.ex
  rcases hown.2 with ⟨rfl, rfl⟩ | ⟨g, cap, cur, rfl, _, _, hnc, _⟩
  · simp [Builtin.append_, run_underlying h1', sizeOf, typeInfo, h2, Builtin.lenOf, Builtin.firstCells]
  · simp [Builtin.append_, run_underlying h1', sizeOf, typeInfo, h2, Builtin.lenOf, Builtin.firstCells, hnc, storeCells]
/-- 's = append(s, l...)', whatever slice l is -/
theorem op_append_us (hg : o.guard = none) (s x : Operand) (hop : o.op = Op.call { callee := Callee.builtin Builtin.append, args := #[s, x], argTypes := #[22, 22] }) (base n : Nat) (v : Value) (xs : List Value) (hs : a.eval s = v) (hown : w.ownsRow base 28 1 v n xs)
    (u : Value) (l : List Int) (hx : a.eval x = u) (hu : Us w u l) (hn : n + l.length ≤ 2000000) (hbase : base ≤ w.heap.size)
    (hK : ∀ v' w', w'.ownsRow base 28 1 v' (n + l.length) (xs ++ l.map (Value.int .u64)) → Chg w w' (fun i => v.ownBlock = some i) → wpList Try.prog ops Q rest (a.put o.dst v') w') : wpList Try.prog ops Q (o :: rest) a w := by
  obtain ⟨ao, cap, rfl, hc⟩ := hu
  cases ao with
  | none =>
    have hl : l = [] := by
      cases l with
      | nil => rfl
      | cons y l => obtain ⟨b, off, e, _⟩ := hc 0 (by simp); cases e
    subst hl
    refine Lib.wpList_append_run w hg s x 22 22 hop v (.slice none 0 cap) hs hx v w (run_append_nil22 _ hown cap) (hK v w ?_ (Chg.refl _ _))
    simpa using hown
  | some ad =>
    refine op_appends hg s x hop st22 base n v xs hs hown ad l.length cap (l.map (Value.int .u64)) hx (by simp) ?_ (by intro u hu; obtain ⟨y, _, rfl⟩ := List.mem_map.1 hu; rfl) hn hbase hK
    intro j u hu
    have hj : j < l.length := by have := (List.getElem?_eq_some_iff.1 hu).1; simpa using this
    obtain ⟨b, off, e, h1⟩ := hc j hj
    cases e
    rw [List.getElem?_map, List.getElem?_eq_getElem hj] at hu
    simp only [Option.map_some, Option.some.injEq] at hu
    subst hu
    have e2 : (⟨b, off, none⟩ : Addr).add j = ⟨b, off + j, none⟩ := by unfold Addr.add; split <;> simp_all
    rw [e2]
    exact h1
end

set_option maxRecDepth 100000 in
set_option maxHeartbeats 1600000 in
theorem grow58_any (n : Nat) (w : World) (h0 : 0 < n) (hn : n ≤ 1000000) :
    Calls Try.prog 58 #[.slice none 0 0, .int .i64 n] w fun e w' => ∃ v, e = .returned v ∧ w'.ownsRow w.heap.size 28 1 v 0 [] ∧ New w w' := by
  obtain ⟨i, h1', h2, h3, h4, h5, h6⟩ := st22.ex
  have hr : ∀ ty, (Builtin.append_ #[22, 3] ty #[.slice none 0 0, .int .i64 n]).run Try.prog w = .ok (.slice (some ⟨w.heap.size, 0, none⟩) n (grownCap w n 0 28)) (w.drew.alloc (.cells (Builtin.zeroCells (Value.int .u64 0).cells n ++ Builtin.zeroCells (Value.int .u64 0).cells (grownCap w n 0 28 - n)) 28)) :=
    fun ty => Lib.run_append_nil_zeros w 22 3 ty 28 i (.int .u64 0) .i64 .i64 h1' Try.underlying3 h2 h3 n h0 (by omega) (by omega) (by rw [h5]; omega)
  have hge : n ≤ grownCap w n 0 28 := grownCap_ge w n 0 28
  have hle := grownCap_le_maxLen w n 0 28 (by unfold maxLen; omega)
  have hz : (Builtin.zeroCells (Value.int .u64 0).cells n ++ Builtin.zeroCells (Value.int .u64 0).cells (grownCap w n 0 28 - n)).size = grownCap w n 0 28 * 1 := by
    rw [Array.size_append, size_zeroCells, size_zeroCells]
    simp [Value.cells]; omega
  obtain ⟨zc, hzc⟩ : ∃ zc, zc = (Builtin.zeroCells (Value.int .u64 0).cells n ++ Builtin.zeroCells (Value.int .u64 0).cells (grownCap w n 0 28 - n)) := ⟨_, rfl⟩
  rw [← hzc] at hr hz
  obtain ⟨G, hG⟩ : ∃ G, G = grownCap w n 0 28 := ⟨_, rfl⟩
  rw [← hG] at hr hge hle hz
  have HZ := Lib.hid hz; have HLE := Lib.hid hle
  have hG63 : G ≤ 9223372036854775807 := by unfold maxLen at hle; omega
  clear hzc hG hz hle
  have h2 : decide ((n : Int) < 0) = false := by simp
  have h3 : decide ((0 : Int) < (n : Int)) = true := by simpa using h0
  go_enter Try.func58, Try.ntmps58
  go_wp2_with (first
    | (at_builtin; refine Lib.wpList_append_run _ rfl _ _ _ _ rfl _ _ rfl rfl _ _ (hr _) ?_)
    | fail)
  refine bodyPost_ret (results_tmp rfl _ _ _) rfl ⟨_, rfl, ?_, (Chg.alloc _ _ _).then (Chg.drew _ _)⟩
  exact ownsRow_chg (World.ownsRow_made w zc G (Nat.le_refl _) HLE.out HZ.out) (Chg.drew _ (fun _ => False)) (by simp)

/-- slices of numbers, in a slice that is read -/
def Sls (w : World) (v : Value) (ls : List (List Int)) : Prop :=
  ∃ g cap, v = .slice (some ⟨g, 0, none⟩) ls.length cap ∧ ∀ i (hi : i < ls.length), ∃ u, w.cell? ⟨g, i, none⟩ = some u ∧ Us w u (ls[i]'hi)
theorem Sls.new {w w' : World} {v : Value} {ls : List (List Int)} (h : Sls w v ls) (c : New w w') : Sls w' v ls := by
  obtain ⟨g, cap, rfl, h⟩ := h
  exact ⟨g, cap, rfl, fun i hi => by obtain ⟨u, h1, h2⟩ := h i hi; exact ⟨u, c.has h1, h2.new c⟩⟩
theorem flat_take (ls : List (List Int)) (i : Nat) (h : i < ls.length) : (ls.take (i + 1)).flatten = (ls.take i).flatten ++ ls[i] := by
  rw [List.take_succ_eq_append_getElem h, List.flatten_append]; simp
theorem flat_le (ls : List (List Int)) (i : Nat) : ((ls.take i).flatten).length ≤ ls.flatten.length := by
  have e : ls = ls.take i ++ ls.drop i := (List.take_append_drop _ _).symm
  have h : ls.flatten.length = (ls.take i).flatten.length + (ls.drop i).flatten.length := by
    rw [← List.length_append, ← List.flatten_append, ← e]
  omega
theorem ownsRow_slice {w : World} {base e size : Nat} {v : Value} {n : Nat} {xs : List Value} (h : w.ownsRow base e size v n xs) : ∃ ao cap, v = .slice ao n cap := by
  rcases h.2 with ⟨rfl, rfl⟩ | ⟨g, cap, cur, rfl, _⟩
  · exact ⟨_, _, rfl⟩
  · exact ⟨_, _, rfl⟩
def flen (ls : List (List Int)) (i : Nat) : Nat := ((ls.take i).flatten).length
def CatTo (w : World) (base : Nat) (v : Value) (ls : List (List Int)) (i : Nat) : Prop := w.ownsRow base 28 1 v ((ls.take i).flatten).length (((ls.take i).flatten).map (Value.int .u64))
set_option maxRecDepth 100000 in
set_option maxHeartbeats 1600000 in
theorem concat29_any (v : Value) (ls : List (List Int)) (w : World) (h : Sls w v ls) (hp : 0 < ls.flatten.length) (hn : ls.flatten.length ≤ 1000000) (hm : ls.length ≤ 1000) :
    Calls Try.prog 29 #[v] w fun e w' => ∃ v', e = .returned v' ∧ w'.ownsRow w.heap.size 28 1 v' ls.flatten.length (ls.flatten.map (Value.int .u64)) ∧ New w w' := by
  obtain ⟨g, cap, rfl, h⟩ := h
  have H := Lib.hid h; have HP := Lib.hid hp; have HN := Lib.hid hn
  have hfl := Lib.hid (flat_le ls)
  clear h hp hn
  go_enter Try.func29, Try.ntmps29
  go_wp2_with fail
  go_loopg [3, 11] ls.length (fun n s j wr => ∃ i : Nat, i ≤ ls.length ∧ ls.length ≤ n + i ∧ j = .int .i64 i ∧ s = .int .i64 (flen ls i : Nat) ∧ w = wr)
  case atStart => exact ⟨0, by omega, by omega, rfl, rfl, rfl⟩
  case round =>
    obtain ⟨i, hi, hg, rfl, rfl, rfl⟩ := hrel
    have HG := Lib.hid hg
    clear hg
    by_cases hlt : i < ls.length
    · obtain ⟨u, hc, hu⟩ := H.out i hlt
      obtain ⟨ao, cu, rfl, _⟩ := hu
      have ht := flat_take ls i hlt
      have h1 := hfl.out (i + 1)
      have hN : ls.flatten.length ≤ 1000000 := HN.out
      obtain ⟨l, hl⟩ : ∃ l, l = ls[i] := ⟨_, rfl⟩
      rw [← hl] at hc ht
      rw [ht, List.length_append] at h1
      obtain ⟨s0, hs0⟩ : ∃ s0, s0 = flen ls i := ⟨_, rfl⟩
      have hs1 : flen ls (i + 1) = s0 + l.length := by unfold flen; rw [ht, List.length_append, hs0]; rfl
      have h1 : s0 + l.length ≤ ls.flatten.length := by rw [hs0]; exact h1
      have h1 : s0 + l.length ≤ 1000000 := by omega
      rw [← hs0]
      have HS1 := Lib.hid hs1
      clear hl ht hs0 hs1 hN
      have hd : decide ((s0 : Int) + (l.length : Int) < 0) = false := by simp; omega
      go_wp2_with fail
      go_roundg (gk - 1)
      case measure => have := HG.out; omega
      case rel => exact ⟨i + 1, by omega, by have := HG.out; omega, by go_num, by rw [HS1.out]; go_num, rfl⟩
    · have hil : i = ls.length := by omega
      subst hil
      obtain ⟨n0, hn0⟩ : ∃ n0, n0 = flen ls ls.length := ⟨_, rfl⟩
      have hn1 : n0 = ls.flatten.length := by rw [hn0]; unfold flen; rw [List.take_length]
      have hp0 : 0 < n0 := by rw [hn1]; exact HP.out
      have hN : n0 ≤ 1000000 := by rw [hn1]; exact HN.out
      rw [← hn0]
      clear hn0 hn1
      go_wp2_with fail
      refine (grow58_any n0 _ hp0 hN).mono ?_
      rintro e w1 ⟨v1, rfl, ho, n1⟩
      have HO := Lib.hid ho; have N1 := Lib.hid n1
      have HSZ := Lib.hid n1.size
      clear ho n1 hi HG
      go_wp2_with fail
      go_loopg [6, 27] ls.length (fun n s j wr => ∃ i : Nat, i ≤ ls.length ∧ ls.length ≤ n + i ∧ j = .int .i64 i ∧ CatTo wr w.heap.size s ls i ∧ New w wr)
      case atStart => exact ⟨0, by omega, by omega, rfl, HO.out, N1.out⟩
      case round =>
        obtain ⟨i, hi, hg, rfl, ho, hnw⟩ := hrel
        obtain ⟨ao6, cap6, rfl⟩ := ownsRow_slice ho
        obtain ⟨n6, hn6⟩ : ∃ n6, n6 = ((ls.take i).flatten).length := ⟨_, rfl⟩
        rw [← hn6]
        rw [← hn6] at ho
        have HN6 := Lib.hid hn6; clear hn6
        have HG := Lib.hid hg; have HW := Lib.hid ho; have HNW := Lib.hid hnw
        clear hg ho hnw
        by_cases hlt : i < ls.length
        · obtain ⟨u, hc, hu⟩ := H.out i hlt
          have ht := flat_take ls i hlt
          have h1 := hfl.out (i + 1)
          obtain ⟨l, hl⟩ : ∃ l, l = ls[i] := ⟨_, rfl⟩
          rw [← hl] at ht hu
          obtain ⟨aou, capu, rfl, hu2⟩ := hu
          have HU := Lib.hid (Us.new (w := w) ⟨aou, capu, rfl, hu2⟩ HNW.out)
          have hc' := HNW.out.has hc
          rw [ht, List.length_append, ← HN6.out] at h1
          have HO := Lib.hid (show wr.ownsRow w.heap.size 28 1 (.slice ao6 n6 cap6) n6 (((ls.take i).flatten).map (Value.int .u64)) by have h := HW.out; unfold CatTo at h; rw [← HN6.out] at h; exact h)
          have HT := Lib.hid ht; have H1 := Lib.hid h1
          clear hc hl hu2 ht h1
          go_wp2_with (first
            | (at_builtin; refine op_append_us rfl (.tmp 31) (.tmp 32) rfl w.heap.size n6 (.slice ao6 n6 cap6) _ rfl HO.out (.slice aou l.length capu) l rfl HU.out (by have := H1.out; have := HN.out; omega) HNW.out.size ?_; intro v' w3 hown hch)
            | fail)
          go_roundg (gk - 1)
          case measure => have := HG.out; omega
          case rel =>
            refine ⟨i + 1, by omega, by have := HG.out; omega, by go_num, ?_, HNW.out.trans hch (fun _ _ h => h) (fun j hj e => by have := (HO.out.lt _ e).1; omega)⟩
            unfold CatTo
            rw [HT.out, List.length_append, ← HN6.out, List.map_append]
            exact hown
        · have hil : i = ls.length := by omega
          subst hil
          have ho := HW.out
          unfold CatTo at ho
          rw [List.take_length] at ho
          have HO2 := Lib.hid ho
          clear ho
          go_wp2_with fail
          go_ret
          exact ⟨_, rfl, HO2.out, HNW.out⟩
end Go.Proofs.Ytcgccoigjcdjeaa
