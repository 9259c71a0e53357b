/- A region that draws its order and ends in stores to cells that it has loaded: what the loads lean on is asked only till the first store. No condition. -/
import Derived.Test.YtcgccoigjcdjeaaBase
import Derived.OrdersHeld
import Derived.Deep.RegionHeld
namespace Go.Proofs.Ytcgccoigjcdjeaa
open Go

/-- a store has come up -/
def begun (St : List Nat) (listed : Array Bool) : Bool := St.any fun j => listed.getD j true
theorem begun_set {St : List Nat} {listed : Array Bool} {i : Nat} (h : St.contains i = false) : begun St (listed.setIfInBounds i true) = begun St listed := by
  unfold begun
  induction St with
  | nil => rfl
  | cons j St ih =>
    simp only [List.contains_cons, Bool.or_eq_false_iff, beq_eq_false_iff_ne, ne_eq] at h
    simp only [List.any_cons]
    rw [getD_set_ne true h.1, ih h.2]

section
variable {P : Program} {ops : Array Oper} {Q : Exit → Act → World → Prop} {md : Region.Mode} {St : List Nat} {S1 S2 : World → Prop}
/-- what holds: always, and till the first store -/
def Till (St : List Nat) (S1 S2 : World → Prop) (listed : Array Bool) (w : World) : Prop := S1 w ∧ (begun St listed = false → S2 w)
/-- whatever order is picked from here on, and Till holds behind each operation -/
def wpAnyT (P : Program) (md : Region.Mode) (ops : Array Oper) (Q : Exit → Act → World → Prop) (St : List Nat) (S1 S2 : World → Prop) : Nat → Array Bool → Act → World → Prop
  | 0, listed, a, w => Region.ready md ops listed = [] ∧ Q .normal a w
  | fuel + 1, listed, a, w =>
    (Region.ready md ops listed = [] → Q .normal a w) ∧
    ∀ i ∈ Region.ready md ops listed, wpOp P ops Q i (fun a' w' => Till St S1 S2 (listed.setIfInBounds i true) w' ∧ wpAnyT P md ops Q St S1 S2 fuel (listed.setIfInBounds i true) a' w') a w
theorem wpAny_of_till : ∀ (fuel : Nat) (listed : Array Bool) (a : Act) (w : World), wpAnyT P md ops Q St S1 S2 fuel listed a w → wpAny P md ops Q fuel listed a w
  | 0, _, _, _, h => h
  | fuel + 1, _, _, _, h => ⟨h.1, fun i hi => wpOp_mono (fun a' w' h' => wpAny_of_till fuel _ a' w' h'.2) (h.2 i hi)⟩

/-- an operation taken first -/
theorem wpAnyT_first {i : Nat} {oi : Oper} {v : Value} {S : World → Prop} {I : Array Bool → Prop} (hi : ops[i]? = some oi) (hsel : ∀ (j : Nat) (o : Oper) cs b, ops[j]? = some o → o.op ≠ .select cs b)
    (hQ : ∀ c a w, Q (.panic c) (a.put oi.dst v) w → Q (.panic c) a w) (hst : St.contains i = false)
    (hT : ∀ listed w, I listed → Till St S1 S2 listed w → S w)
    (hI : ∀ listed j, I listed → i ∈ Region.ready md ops listed → j ∈ Region.ready md ops listed → j ≠ i → I (listed.setIfInBounds j true)) :
    ∀ (fuel : Nat) (listed : Array Bool) (a : Act) (w : World),
      (∀ j oj, ops[j]? = some oj → j ≠ i → listed.getD j true = false → (∀ e ∈ oj.after, Region.binds md e = true → e.on ≠ i) → oi.apart ops oj = true) →
      i ∈ Region.ready md ops listed → YieldsIf P ops S oi v a → I listed → Till St S1 S2 listed w →
      wpAnyT P md ops Q St S1 S2 fuel (listed.setIfInBounds i true) (a.put oi.dst v) w → wpAnyT P md ops Q St S1 S2 (fuel + 1) listed a w := by
  have hset : ∀ (listed : Array Bool) w, Till St S1 S2 listed w → Till St S1 S2 (listed.setIfInBounds i true) w := fun listed w h => ⟨h.1, fun hb => h.2 (by rwa [begun_set hst] at hb)⟩
  have hback : ∀ (listed : Array Bool) j w, Till St S1 S2 ((listed.setIfInBounds i true).setIfInBounds j true) w → Till St S1 S2 (listed.setIfInBounds j true) w := fun listed j w h => by
    by_cases hij : i = j
    · subst hij
      exact ⟨h.1, fun hb => h.2 (by rw [begun_set hst]; exact hb)⟩
    · exact ⟨h.1, fun hb => h.2 (by rw [Array.setIfInBounds_comm _ _ hij, begun_set hst]; exact hb)⟩
  intro fuel
  induction fuel with
  | zero =>
    intro listed a w _ hr hy hi0 hS H
    refine ⟨fun h => (by rw [h] at hr; cases hr), fun j hj => ?_⟩
    by_cases hji : j = i
    · subst hji; exact hy.wpOp hi (hT _ _ hi0 hS) ⟨hset _ _ hS, H⟩
    · have := ready_mono hj hji
      rw [H.1] at this
      cases this
  | succ fuel ih =>
    intro listed a w hfree hr hy hi0 hS H
    refine ⟨fun h => (by rw [h] at hr; cases hr), fun j hj => ?_⟩
    by_cases hji : j = i
    · subst hji; exact hy.wpOp hi (hT _ _ hi0 hS) ⟨hset _ _ hS, H⟩
    · have h1 := H.2 j (ready_mono hj hji)
      obtain ⟨hjun, oj, hoj, hall⟩ := mem_ready.1 hj
      have h0 := (mem_ready.1 hr).1
      have hnot : ∀ e ∈ oj.after, Region.binds md e = true → e.on ≠ i := fun e he hb heq => by
        have h2 := hall e he hb
        rw [heq] at h2
        rcases Nat.lt_or_ge i listed.size with h' | h'
        · simp [h'] at h0 h2; rw [h0] at h2; cases h2
        · simp [Array.getElem?_eq_none h'] at h2
      have h2 := wpOp_putIf hoj (hfree j oj hoj hji hjun hnot) (fun cs b => hsel i oi cs b hi) (fun cs b => hsel j oj cs b hoj) hQ hy h1
      have hfree' : ∀ k ok, ops[k]? = some ok → k ≠ i → (listed.setIfInBounds j true).getD k true = false →
          (∀ e ∈ ok.after, Region.binds md e = true → e.on ≠ i) → oi.apart ops ok = true := fun k ok hk hki hun hno => by
        refine hfree k ok hk hki ?_ hno
        by_cases hjk : j = k
        · subst hjk; exact hjun
        · rw [getD_set_ne true hjk] at hun; exact hun
      refine wpOp_mono (fun a' w' h3 => ⟨hback _ _ _ h3.2.1, ih (listed.setIfInBounds j true) a' w' hfree' (ready_mono hr (Ne.symm hji)) h3.1 (hI _ _ hi0 hr hj hji) (hback _ _ _ h3.2.1) ?_⟩) h2
      rw [Array.setIfInBounds_comm _ _ hji]
      exact h3.2.2

/-- what yields by S1 comes first -/
theorem till_take1 {i : Nat} {oi : Oper} {v : Value} {fuel : Nat} {listed : Array Bool} {a : Act} {w : World} (hi : ops[i]? = some oi)
    (hs : Region.noSelect ops = true) (hf : Region.free md ops listed i = true) (hr : (Region.ready md ops listed).contains i = true) (hst : St.contains i = false)
    (hQ : ∀ c a w, Q (.panic c) (a.put oi.dst v) w → Q (.panic c) a w) (hy : YieldsIf P ops S1 oi v a) (hS : Till St S1 S2 listed w)
    (h : Till St S1 S2 (listed.setIfInBounds i true) w → wpAnyT P md ops Q St S1 S2 fuel (listed.setIfInBounds i true) (a.put oi.dst v) w) : wpAnyT P md ops Q St S1 S2 (fuel + 1) listed a w :=
  wpAnyT_first (I := fun _ => True) hi (Region.noSelect_spec hs) hQ hst (fun _ _ _ h => h.1) (fun _ _ _ _ _ _ => trivial) fuel listed a w (Region.free_spec hi hf) (by simpa using hr) hy trivial hS (h ⟨hS.1, fun hb => hS.2 (by rwa [begun_set hst] at hb)⟩)

/-- each store waits for number i -/
def waits (md : Region.Mode) (ops : Array Oper) (St : List Nat) (i : Nat) : Bool := St.all fun j => match ops[j]? with
  | some oj => oj.after.any fun e => Region.binds md e && e.on == i
  | none => true
/-- what yields by S2, and for which every store waits, comes first -/
theorem till_take2 {i : Nat} {oi : Oper} {v : Value} {fuel : Nat} {listed : Array Bool} {a : Act} {w : World} (hi : ops[i]? = some oi)
    (hs : Region.noSelect ops = true) (hf : Region.free md ops listed i = true) (hr : (Region.ready md ops listed).contains i = true) (hst : St.contains i = false) (hw : waits md ops St i = true) (hb : begun St listed = false)
    (hQ : ∀ c a w, Q (.panic c) (a.put oi.dst v) w → Q (.panic c) a w) (hy : YieldsIf P ops S2 oi v a) (hS : Till St S1 S2 listed w)
    (h : Till St S1 S2 (listed.setIfInBounds i true) w → wpAnyT P md ops Q St S1 S2 fuel (listed.setIfInBounds i true) (a.put oi.dst v) w) : wpAnyT P md ops Q St S1 S2 (fuel + 1) listed a w := by
  refine wpAnyT_first (I := fun l => begun St l = false) hi (Region.noSelect_spec hs) hQ hst (fun _ _ hb h => h.2 hb) (fun l j hl hri hrj hji => ?_) fuel listed a w (Region.free_spec hi hf) (by simpa using hr) hy hb hS (h ⟨hS.1, fun hb => hS.2 (by rwa [begun_set hst] at hb)⟩)
  have hjn : St.contains j = false := by
    cases hc : St.contains j with
    | false => rfl
    | true =>
      exfalso
      have hm : j ∈ St := by simpa using hc
      obtain ⟨_, oj, hoj, hall⟩ := mem_ready.1 hrj
      have h1 := List.all_eq_true.1 hw j hm
      rw [hoj] at h1
      simp only [Array.any_eq_true', Bool.and_eq_true, beq_iff_eq] at h1
      obtain ⟨e, he, hbi, hon⟩ := h1
      have h2 := hall e he hbi
      rw [hon] at h2
      have h0 := (mem_ready.1 hri).1
      rcases Nat.lt_or_ge i l.size with h' | h'
      · simp [h'] at h0 h2; rw [h0] at h2; cases h2
      · simp [Array.getElem?_eq_none h'] at h2
  rw [begun_set hjn]; exact hl
/-- one operation alone may come up -/
theorem till_one {i : Nat} {o : Oper} {fuel : Nat} {listed : Array Bool} {a : Act} {w : World} (hr : Region.ready md ops listed = [i]) (ho : ops[i]? = some o)
    (h : ∀ K' : Act → World → Prop, Shut (∀ a w, Till St S1 S2 (listed.setIfInBounds i true) w → (Till St S1 S2 (listed.setIfInBounds i true) w → wpAnyT P md ops Q St S1 S2 fuel (listed.setIfInBounds i true) a w) → K' a w) → if Region.wanted o (yielded ops a.tmps) = true then Oper.wp P o a w K' Q else K' (a.put o.dst undef) w) :
    wpAnyT P md ops Q St S1 S2 (fuel + 1) listed a w := by
  refine ⟨(fun h0 => by rw [hr] at h0; cases h0), fun j hj => ?_⟩
  rw [hr] at hj
  obtain rfl : j = i := by simpa using hj
  exact wpOp_step ho (fun K' hK => h K' (fun a w h1 h2 => hK a w ⟨h1, h2 h1⟩))
theorem till_done {listed : Array Bool} {a : Act} {w : World} (hr : Region.ready md ops listed = []) (h : Q .normal a w) : ∀ fuel, wpAnyT P md ops Q St S1 S2 fuel listed a w
  | 0 => ⟨hr, h⟩
  | _ + 1 => ⟨fun _ => h, by rw [hr]; simp⟩
theorem till_region {id : Nat} {a : Act} {w : World} (hm : P.follows .mixedOrders = true) (hS : Till St S1 S2 (Array.replicate ops.size false) w.drew)
    (h : Till St S1 S2 (Array.replicate ops.size false) w.drew → wpAnyT P .any ops Q St S1 S2 ops.size (Array.replicate ops.size false) a w.drew) : (Code.region id ops true).wp P Q a w :=
  wp_region_any hm (wpAny_of_till _ _ _ _ (h hS))
end
end Go.Proofs.Ytcgccoigjcdjeaa
