/- Regions that draw their order: operations whose value holds in every world that meets a condition may be taken first; the condition is owed only behind those operations that may come up ahead of them. -/
import Derived.OrdersHeld
namespace Go.Vc
section
variable {P : Program} {ops : Array Oper} {Q : Exit → Act → World → Prop} {md : Region.Mode}

/-- What has come up bears all that it waits for. -/
def Closed (md : Region.Mode) (ops : Array Oper) (listed : Array Bool) : Prop :=
  ∀ k o, ops[k]? = some o → listed.getD k false = true → ∀ e ∈ o.after, Region.binds md e = true → listed.getD e.on false = true

theorem Closed.init (n : Nat) : Closed md ops (Array.replicate n false) := by
  intro k o _ h
  exfalso
  rcases Nat.lt_or_ge k n with hk | hk
  · simp [hk] at h
  · simp [Nat.not_lt.2 hk] at h

theorem Closed.set {listed : Array Bool} {j : Nat} (h : Closed md ops listed) (hj : j ∈ Region.ready md ops listed) : Closed md ops (listed.setIfInBounds j true) := by
  intro k o hk hl e he hb
  obtain ⟨_, oj, hoj, hall⟩ := mem_ready.1 hj
  by_cases hjk : j = k
  · subst hjk
    rw [hoj] at hk
    injection hk with hk
    subst hk
    exact getD_set_true (hall e he hb)
  · rw [getD_set_ne false hjk] at hl
    exact getD_set_true (h k o hk hl e he hb)

/-- 'j' waits for 'i', through others or not. -/
def waitsN (md : Region.Mode) (ops : Array Oper) : Nat → Nat → Nat → Bool
  | 0, _, _ => false
  | n + 1, j, i => match ops[j]? with
    | some o => o.after.any fun e => Region.binds md e && (e.on == i || waitsN md ops n e.on i)
    | none => false

theorem waitsN_listed : ∀ (n j i : Nat) (listed : Array Bool), Closed md ops listed → listed.getD j false = true → waitsN md ops n j i = true → listed.getD i false = true
  | 0, _, _, _, _, _, h => by simp [waitsN] at h
  | n + 1, j, i, listed, hc, hj, h => by
    simp only [waitsN] at h
    cases ho : ops[j]? with
    | none => simp [ho] at h
    | some o =>
      simp only [ho, Array.any_eq_true'] at h
      obtain ⟨e, he, h2⟩ := h
      simp only [Bool.and_eq_true, Bool.or_eq_true, beq_iff_eq] at h2
      obtain ⟨hb, h3⟩ := h2
      have hl := hc j o ho hj e he hb
      rcases h3 with h3 | h3
      · rw [← h3]; exact hl
      · exact waitsN_listed n e.on i listed hc hl h3

theorem waitsN_ready {n j i : Nat} {listed : Array Bool} (hc : Closed md ops listed) (hj : j ∈ Region.ready md ops listed) (hi : listed.getD i true = false) : waitsN md ops n j i = false := by
  cases hw : waitsN md ops n j i with
  | false => rfl
  | true =>
    exfalso
    cases n with
    | zero => simp [waitsN] at hw
    | succ n =>
      obtain ⟨_, oj, hoj, hall⟩ := mem_ready.1 hj
      simp only [waitsN, hoj, Array.any_eq_true'] at hw
      obtain ⟨e, he, h2⟩ := hw
      simp only [Bool.and_eq_true, Bool.or_eq_true, beq_iff_eq] at h2
      obtain ⟨hb, h3⟩ := h2
      have hl := hall e he hb
      have hl2 : listed.getD i false = true := by
        rcases h3 with h3 | h3
        · rw [← h3]; exact hl
        · exact waitsN_listed n e.on i listed hc hl h3
      rcases Nat.lt_or_ge i listed.size with h' | h'
      · simp [h'] at hi hl2; rw [hi] at hl2; cases hl2
      · simp [Array.getElem?_eq_none h'] at hl2

/-- Which conditions are still owed behind 'j'. -/
def owed (md : Region.Mode) (ops : Array Oper) (j : Nat) (E : List (Nat × (World → Prop))) : List (Nat × (World → Prop)) :=
  E.filter fun p => !waitsN md ops ops.size j p.1

/-- Whatever order is picked from here on; behind an operation the conditions of those taken ahead hold, but where it waits for them. -/
def wpAnyE (P : Program) (md : Region.Mode) (ops : Array Oper) (Q : Exit → Act → World → Prop) : Nat → Array Bool → List (Nat × (World → Prop)) → Act → World → Prop
  | 0, listed, _, a, w => Region.ready md ops listed = [] ∧ Q .normal a w
  | fuel + 1, listed, E, a, w =>
    (Region.ready md ops listed = [] → Q .normal a w) ∧
    ∀ j ∈ Region.ready md ops listed, wpOp P ops Q j (fun a' w' => (∀ p ∈ owed md ops j E, p.2 w') ∧ wpAnyE P md ops Q fuel (listed.setIfInBounds j true) (owed md ops j E) a' w') a w

theorem wpAny_of_E : ∀ (fuel : Nat) (listed : Array Bool) (E : List (Nat × (World → Prop))) (a : Act) (w : World), wpAnyE P md ops Q fuel listed E a w → wpAny P md ops Q fuel listed a w
  | 0, _, _, _, _, h => h
  | fuel + 1, _, _, _, _, h => ⟨h.1, fun i hi => wpOp_mono (fun a' w' h' => wpAny_of_E fuel _ _ a' w' h'.2) (h.2 i hi)⟩

theorem wpAnyE_sub : ∀ (fuel : Nat) (listed : Array Bool) (E E' : List (Nat × (World → Prop))) (a : Act) (w : World), (∀ p ∈ E', p ∈ E) →
    wpAnyE P md ops Q fuel listed E a w → wpAnyE P md ops Q fuel listed E' a w
  | 0, _, _, _, _, _, _, h => h
  | fuel + 1, listed, E, E', a, w, hs, h => by
    have hs' : ∀ j, ∀ p ∈ owed md ops j E', p ∈ owed md ops j E := fun j p hp => by
      unfold owed at *
      rw [List.mem_filter] at *
      exact ⟨hs p hp.1, hp.2⟩
    exact ⟨h.1, fun j hj => wpOp_mono (fun a' w' h' => ⟨fun p hp => h'.1 p (hs' j p hp), wpAnyE_sub fuel _ _ _ _ _ (hs' j) h'.2⟩) (h.2 j hj)⟩

theorem wpAnyE_first {S : World → Prop} {i : Nat} {oi : Oper} {v : Value} (hi : ops[i]? = some oi) (hsel : ∀ (j : Nat) (o : Oper) cs b, ops[j]? = some o → o.op ≠ .select cs b)
    (hQ : ∀ c a w, Q (.panic c) (a.put oi.dst v) w → Q (.panic c) a w) :
    ∀ (fuel : Nat) (listed : Array Bool) (E : List (Nat × (World → Prop))) (a : Act) (w : World), Closed md ops listed →
      (∀ j oj, ops[j]? = some oj → j ≠ i → listed.getD j true = false → (∀ e ∈ oj.after, Region.binds md e = true → e.on ≠ i) → oi.apart ops oj = true) →
      i ∈ Region.ready md ops listed → YieldsIf P ops S oi v a → S w → (∀ p ∈ E, p.2 w) →
      wpAnyE P md ops Q fuel (listed.setIfInBounds i true) ((i, S) :: E) (a.put oi.dst v) w → wpAnyE P md ops Q (fuel + 1) listed E a w := by
  intro fuel
  have hown : ∀ (E : List (Nat × (World → Prop))) (w : World), (∀ p ∈ E, p.2 w) → ∀ j, ∀ p ∈ owed md ops j E, p.2 w := fun E w h j p hp => h p (List.mem_filter.1 hp).1
  have hsub : ∀ (E : List (Nat × (World → Prop))) (j : Nat), ∀ p ∈ owed md ops j E, p ∈ (i, S) :: E := fun E j p hp => List.mem_cons_of_mem _ (List.mem_filter.1 hp).1
  induction fuel with
  | zero =>
    intro listed E a w hcl _ hr hy hS hE H
    refine ⟨fun h => (by rw [h] at hr; cases hr), fun j hj => ?_⟩
    by_cases hji : j = i
    · subst hji; exact hy.wpOp hi hS ⟨hown E w hE _, H⟩
    · have := ready_mono hj hji
      rw [H.1] at this
      cases this
  | succ fuel ih =>
    intro listed E a w hcl hfree hr hy hS hE H
    refine ⟨fun h => (by rw [h] at hr; cases hr), fun j hj => ?_⟩
    by_cases hji : j = i
    · subst hji
      exact hy.wpOp hi hS ⟨hown E w hE _, wpAnyE_sub _ _ _ _ _ _ (hsub E _) H⟩
    · have h1 := H.2 j (ready_mono hj hji)
      obtain ⟨hjun, oj, hoj, hall⟩ := mem_ready.1 hj
      have hiun := (mem_ready.1 hr).1
      have hnot : ∀ e ∈ oj.after, Region.binds md e = true → e.on ≠ i := fun e he hb heq => by
        have h1 := hall e he hb
        rw [heq] at h1
        rcases Nat.lt_or_ge i listed.size with h' | h'
        · simp [h'] at hiun h1; rw [hiun] at h1; cases h1
        · simp [Array.getElem?_eq_none h'] at h1
      have h2 := wpOp_putIf hoj (hfree j oj hoj hji hjun hnot) (fun cs b => hsel i oi cs b hi) (fun cs b => hsel j oj cs b hoj) hQ hy h1
      have hfree' : ∀ k ok, ops[k]? = some ok → k ≠ i → (listed.setIfInBounds j true).getD k true = false →
          (∀ e ∈ ok.after, Region.binds md e = true → e.on ≠ i) → oi.apart ops ok = true := fun k ok hk hki hun hno => by
        refine hfree k ok hk hki ?_ hno
        by_cases hjk : j = k
        · subst hjk; exact hjun
        · rw [getD_set_ne true hjk] at hun; exact hun
      have hnw : waitsN md ops ops.size j i = false := waitsN_ready hcl hj hiun
      have how : owed md ops j ((i, S) :: E) = (i, S) :: owed md ops j E := by simp [owed, hnw]
      refine wpOp_mono (fun a' w' h3 => ?_) h2
      obtain ⟨h3y, h3E, h3H⟩ := h3
      rw [how] at h3E h3H
      have hS' : S w' := h3E (i, S) (List.mem_cons_self ..)
      have hE' : ∀ p ∈ owed md ops j E, p.2 w' := fun p hp => h3E p (List.mem_cons_of_mem _ hp)
      refine ⟨hE', ih _ _ a' w' (hcl.set hj) hfree' (ready_mono hr (Ne.symm hji)) h3y hS' hE' ?_⟩
      rw [Array.setIfInBounds_comm _ _ hji]
      exact h3H

/-! ### The moves -/
theorem wpAnyE_take {S : World → Prop} {i : Nat} {oi : Oper} {v : Value} {fuel : Nat} {listed : Array Bool} {E : List (Nat × (World → Prop))} {a : Act} {w : World} (hi : ops[i]? = some oi)
    (hs : Region.noSelect ops = true) (hc : Closed md ops listed) (hf : Region.free md ops listed i = true) (hr : (Region.ready md ops listed).contains i = true)
    (hQ : ∀ c a w, Q (.panic c) (a.put oi.dst v) w → Q (.panic c) a w) (hy : YieldsIf P ops S oi v a) (hS : S w) (hE : ∀ p ∈ E, p.2 w)
    (h : wpAnyE P md ops Q fuel (listed.setIfInBounds i true) ((i, S) :: E) (a.put oi.dst v) w) : wpAnyE P md ops Q (fuel + 1) listed E a w :=
  wpAnyE_first hi (Region.noSelect_spec hs) hQ fuel listed E a w hc (Region.free_spec hi hf) (by simpa using hr) hy hS hE h

theorem wpAnyE_one {j : Nat} {fuel : Nat} {listed : Array Bool} {E : List (Nat × (World → Prop))} {a : Act} {w : World} (hr : Region.ready md ops listed = [j])
    (h : wpOp P ops Q j (fun a' w' => (∀ p ∈ owed md ops j E, p.2 w') ∧ wpAnyE P md ops Q fuel (listed.setIfInBounds j true) (owed md ops j E) a' w') a w) : wpAnyE P md ops Q (fuel + 1) listed E a w :=
  ⟨fun h0 => absurd (hr.symm.trans h0) (by simp), fun i hi => by rw [hr] at hi; rw [List.mem_singleton] at hi; subst hi; exact h⟩

theorem wpAnyE_done {listed : Array Bool} {E : List (Nat × (World → Prop))} {a : Act} {w : World} (hr : Region.ready md ops listed = []) (h : Q .normal a w) :
    ∀ fuel, wpAnyE P md ops Q fuel listed E a w
  | 0 => ⟨hr, h⟩
  | _ + 1 => ⟨fun _ => h, by rw [hr]; simp⟩

theorem wp_region_E {id : Nat} {a : Act} {w : World} (hm : P.follows .mixedOrders = true)
    (h : wpAnyE P .any ops Q ops.size (Array.replicate ops.size false) [] a { w with drawn := w.drawn + 1 }) : (Code.region id ops true).wp P Q a w :=
  wp_region_any hm (wpAny_of_E _ _ _ _ _ h)
end
end Go.Vc
