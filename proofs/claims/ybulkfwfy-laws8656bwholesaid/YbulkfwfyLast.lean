/-
  A REGION THAT DRAWS ITS ORDER, LOADS A CELL AND STORES INTO THAT CELL AT ITS END ('x.f = append(x.f, ..)').
  The kit's law on loads that are taken first (Derived/OrdersHeld.lean) asks that the condition S on the world hold behind EVERY operation; the last store breaks it.
  Here one operation, number 'st', is let off: behind it S is not asked. The price: what is taken first under S must be waited for by 'st'.
-/
import Derived.OrdersHeld
import Derived.StillTail
import Derived.Deep.RegionHeld
namespace Go.Proofs.Ybulkfwfy.Last

section
variable {P : Program} {ops : Array Oper} {Q : Exit → Act → World → Prop} {md : Region.Mode} {S : World → Prop} {st : Nat}

/-- Whatever order is picked from here on; behind each operation but number 'st' the world meets S. -/
def wpAnyT (P : Program) (md : Region.Mode) (ops : Array Oper) (Q : Exit → Act → World → Prop) (S : World → Prop) (st : Nat) : Nat → Array Bool → Act → World → Prop
  | 0, listed, a, w => Region.ready md ops listed = [] ∧ Q .normal a w
  | fuel + 1, listed, a, w =>
    (Region.ready md ops listed = [] → Q .normal a w) ∧
    ∀ i ∈ Region.ready md ops listed, wpOp P ops Q i (fun a' w' => (i ≠ st → S w') ∧ wpAnyT P md ops Q S st fuel (listed.setIfInBounds i true) a' w') a w

theorem wpAny_of_T : ∀ (fuel : Nat) (listed : Array Bool) (a : Act) (w : World), wpAnyT P md ops Q S st fuel listed a w → wpAny P md ops Q fuel listed a w
  | 0, _, _, _, h => h
  | fuel + 1, _, _, _, h => ⟨h.1, fun i hi => wpOp_mono (fun a' w' k => wpAny_of_T fuel _ a' w' k.2) (h.2 i hi)⟩

/-- What must be known so that number i may come ahead of all others. -/
theorem apart_of {i : Nat} {oj : Oper} {listed : Array Bool} (hr : i ∈ Region.ready md ops listed)
    (hall : ∀ e ∈ oj.after, Region.binds md e = true → listed.getD e.on false = true) : ∀ e ∈ oj.after, Region.binds md e = true → e.on ≠ i := fun e he hb heq => by
  have h1 := hall e he hb
  have h0 := (mem_ready.1 hr).1
  rw [heq, getD_both h0] at h1
  cases h1

/-- An operation that yields its value in every world that meets S, and for which 'st' waits, may be taken first. -/
theorem first {i : Nat} {oi : Oper} {v : Value} (hi : ops[i]? = some oi) (hsel : ∀ (j : Nat) (o : Oper) cs b, ops[j]? = some o → o.op ≠ .select cs b)
    (hQ : ∀ c a w, Q (.panic c) (a.put oi.dst v) w → Q (.panic c) a w) (hw : Region.waitsFor md ops st i = true) :
    ∀ (fuel : Nat) (listed : Array Bool) (a : Act) (w : World),
      (∀ j oj, ops[j]? = some oj → j ≠ i → listed.getD j true = false → (∀ e ∈ oj.after, Region.binds md e = true → e.on ≠ i) → oi.apart ops oj = true) →
      i ∈ Region.ready md ops listed → YieldsIf P ops S oi v a → S w →
      wpAnyT P md ops Q S st fuel (listed.setIfInBounds i true) (a.put oi.dst v) w → wpAnyT P md ops Q S st (fuel + 1) listed a w := by
  intro fuel
  induction fuel with
  | zero =>
    intro listed a w _ hr hy hS H
    refine ⟨fun h => absurd hr (by rw [h]; exact List.not_mem_nil), fun j hj => ?_⟩
    by_cases hji : j = i
    · subst hji
      exact hy.wpOp hi hS ⟨fun _ => hS, H⟩
    · exact absurd (ready_mono hj hji) (by rw [H.1]; exact List.not_mem_nil)
  | succ fuel ih =>
    intro listed a w hfree hr hy hS H
    refine ⟨fun h => absurd hr (by rw [h]; exact List.not_mem_nil), fun j hj => ?_⟩
    by_cases hji : j = i
    · subst hji
      exact hy.wpOp hi hS ⟨fun _ => hS, H⟩
    · obtain ⟨hjun, oj, hoj, hall⟩ := mem_ready.1 hj
      have hnot := apart_of hr hall
      have hjst : j ≠ st := fun e => by
        subst e
        obtain ⟨o', ho', e, he, hb, hon⟩ := Region.waitsFor_spec hw
        obtain rfl : o' = oj := Option.some.inj (ho'.symm.trans hoj)
        exact hnot e he hb hon
      have h1 := H.2 j (ready_mono hj hji)
      have h2 := wpOp_putIf hoj (hfree j oj hoj hji hjun hnot) (fun cs b => hsel i oi cs b hi) (fun cs b => hsel j oj cs b hoj) hQ hy h1
      refine wpOp_mono (fun a' w' h3 => ⟨h3.2.1, ih (listed.setIfInBounds j true) a' w' (fun k ok hk hki hun hno => ?_) (ready_mono hr (Ne.symm hji)) h3.1 (h3.2.1 hjst) ?_⟩) h2
      · refine hfree k ok hk hki ?_ hno
        by_cases hjk : j = k
        · subst hjk; exact hjun
        · rw [getD_set_ne true hjk] at hun; exact hun
      · rw [Array.setIfInBounds_comm _ _ hji]
        exact h3.2.2

theorem at_drop {l : List Oper} {i : Nat} {o : Oper} {tl : List Oper} (h : l.drop i = o :: tl) : l.toArray[i]? = some o := by
  have h1 : (l.drop i)[0]? = some o := by rw [h]; rfl
  rw [List.getElem?_drop] at h1
  simpa using h1

/-- Take number i first. -/
theorem take {l : List Oper} (i : Nat) {oi : Oper} {tl : List Oper} {v : Value} {fuel : Nat} {listed : Array Bool} {a : Act} {w : World} (hi : l.drop i = oi :: tl)
    (hs : Region.noSelect l.toArray = true) (hf : Region.free md l.toArray listed i = true) (hr : (Region.ready md l.toArray listed).contains i = true) (hw : Region.waitsFor md l.toArray st i = true)
    (hQ : ∀ c a w, Q (.panic c) (a.put oi.dst v) w → Q (.panic c) a w) (hg : oi.guard = none) (hy : ∀ w, S w → (execOp a.eval oi).run P w = .ok (.value v) w) (hS : S w)
    (h : wpAnyT P md l.toArray Q S st fuel (listed.setIfInBounds i true) (a.put oi.dst v) w) : wpAnyT P md l.toArray Q S st (fuel + 1) listed a w :=
  first (at_drop hi) (Region.noSelect_spec hs) hQ hw fuel listed a w (Region.free_spec (at_drop hi) hf) (by simpa using hr) (.inl ⟨by simp [Region.wanted, hg], hy⟩) hS h

/-- Number i alone may come up: it is carried out. -/
theorem one {l : List Oper} (i : Nat) {oi : Oper} {tl : List Oper} {fuel : Nat} {listed : Array Bool} {a : Act} {w : World} (hi : l.drop i = oi :: tl)
    (hr : Region.ready md l.toArray listed = [i])
    (h : ∀ K : Act → World → Prop, Shut (∀ a' w', (i ≠ st → S w') → ((i ≠ st → S w') → wpAnyT P md l.toArray Q S st fuel (listed.setIfInBounds i true) a' w') → K a' w') →
      if Region.wanted oi (yielded l.toArray a.tmps) = true then Oper.wp P oi a w K Q else K (a.put oi.dst undef) w) : wpAnyT P md l.toArray Q S st (fuel + 1) listed a w := by
  refine ⟨fun h0 => absurd (hr ▸ h0) (by simp), fun j hj => ?_⟩
  rw [hr] at hj
  obtain rfl : j = i := by simpa using hj
  exact wpOp_step (at_drop hi) fun K hK => h K fun a' w' hS hT => hK a' w' ⟨hS, hT hS⟩

theorem done {listed : Array Bool} {a : Act} {w : World} (hr : Region.ready md ops listed = []) (h : Q .normal a w) : ∀ fuel, wpAnyT P md ops Q S st fuel listed a w
  | 0 => ⟨hr, h⟩
  | _ + 1 => ⟨fun _ => h, by rw [hr]; simp⟩

theorem start {l : List Oper} {id : Nat} {a : Act} {w : World} (S : World → Prop) (st : Nat) (hm : P.follows .mixedOrders = true) (hS : S w.drew)
    (h : S w.drew → wpAnyT P .any l.toArray Q S st l.toArray.size (Array.replicate l.toArray.size false) a w.drew) : (Code.region id l.toArray true).wp P Q a w :=
  wp_region_any hm (wpAny_of_T _ _ _ _ (h hS))
end
end Go.Proofs.Ybulkfwfy.Last
