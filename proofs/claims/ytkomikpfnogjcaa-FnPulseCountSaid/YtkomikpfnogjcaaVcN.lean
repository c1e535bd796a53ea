/- Every instruction: what is asked of it is enough. -/
import Derived.Test.YtkomikpfnogjcaaVcM
namespace Go.Vc
open Go.RowKit (Below)
section
variable {P : Program} {w0 : World} {cx : Cx} {ρ : Ren} {s : S} {K : AV → S → Prop} {a : Act} {o : Oper} {w : World}

theorem map_some {α β : Type} {f : α → β} {x : Option α} {y : β} (h : x.map f = some y) : ∃ z, x = some z ∧ f z = y := by
  cases x with
  | none => simp at h
  | some z => exact ⟨z, rfl, by simpa using h⟩

/-- In which way an operation is served: its value hangs on no world; it is a load; it writes. -/
inductive Serves (P : Program) (w0 : World) (cx : Cx) (o : Oper) (a : Act) (ρ : Ren) (s : S) (K : AV → S → Prop) (w : World) (i : I) : Prop where
  | q (hq : i.quiet = true) (h : QOk P o a ρ s K)
  | l (x : Operand) (x' : X) (t : TypeId) (n : Option Nat) (hi : i = .ld x' n) (hop : o.op = .load t x) (ha : aggT P t = some n) (hx : compX x = some x')
  | e (hq : i.quiet = false) (h : EOk P w0 cx o a ρ s K w)

theorem serves_call (hE : EnvR ρ s.env a.tmps) (hC : Core w0 cx ρ s.H w) {c : Call} {i : I} (hop : o.op = .call c) (hi : compCall P c = some i) (h : evI P w0 i s K) : Serves P w0 cx o a ρ s K w i := by
  obtain ⟨callee, args, ts⟩ := c
  unfold compCall at hi
  cases callee with
  | invoke r m => simp at hi
  | value f =>
    cases f with
    | func g =>
      simp only at hi
      obtain ⟨xs, hx, rfl⟩ := map_some hi
      exact .e rfl (e_call hE hC hop hx h)
    | tmp t => simp at hi
    | const v => simp at hi
    | global g => simp at hi
  | builtin b =>
    cases b <;> simp only [reduceCtorEq] at hi
    case len =>
      split at hi
      · rename_i x t ha ht
        split at hi
        · rename_i hu
          obtain ⟨x', hx, rfl⟩ := map_some hi
          exact .q rfl (q_len hE hop ha ht (.inl ⟨rfl, hu⟩) hx h)
        · rename_i e hu
          obtain ⟨x', hx, rfl⟩ := map_some hi
          exact .q rfl (q_len hE hop ha ht (.inr ⟨rfl, e, hu⟩) hx h)
        · cases hi
      · cases hi
    case min =>
      split at hi
      · rename_i x l hx
        cases hi
        exact .q rfl (q_mn hE hop hx h)
      · cases hi
    case max =>
      split at hi
      · rename_i x l hx
        cases hi
        exact .q rfl (q_mx hE hop hx h)
      · cases hi
    case append =>
      split at hi
      · rename_i x y t u ha ht
        split at hi
        · rename_i e d x' y' hu1 hu2 hx hy
          split at hi
          · rename_i hd
            split at hi
            · rename_i wd bt z hs hb hz
              split at hi
              · rename_i hzl
                cases hi
                exact .e rfl (e_app hE hC hop ha ht hu1 hu2 hd hs hb hz hzl hx hy h)
              · cases hi
            · cases hi
          · cases hi
        · cases hi
      · cases hi
    case copy =>
      split at hi
      · rename_i x y t l ha ht
        split at hi
        · rename_i e x' y' ht' hx hy
          obtain ⟨wd, hs, rfl⟩ := map_some hi
          exact .e rfl (e_cpy hE hC hop ha (by rw [← Array.getElem?_toList, ht]; rfl) ht' hs hx hy h)
        · cases hi
      · cases hi

theorem serves (hE : EnvR ρ s.env a.tmps) (hC : Core w0 cx ρ s.H w) {i : I} (hi : compI P o = some i) (h : evI P w0 i s K) : Serves P w0 cx o a ρ s K w i := by
  unfold compI at hi
  split at hi
  case h_1 x hop => obtain ⟨x', hx, rfl⟩ := map_some hi; exact .q rfl (q_mov hE (.inl hop) hx h)
  case h_2 x hop => obtain ⟨x', hx, rfl⟩ := map_some hi; exact .q rfl (q_mov hE (.inr hop) hx h)
  case h_3 x hop => obtain ⟨x', hx, rfl⟩ := map_some hi; exact .q rfl (q_nil hE hop hx h)
  case h_4 t x f hop =>
    split at hi
    · rename_i fs y hu hx
      split at hi
      · rename_i fd hf
        split at hi
        · rename_i n hs
          split at hi
          · cases hi
          · rename_i hn
            cases hi
            exact .q rfl (q_ffa hE hop hx hu hf hs hn h)
        · cases hi
      · cases hi
    · cases hi
  case h_5 t x f hop =>
    split at hi
    · rename_i fs y hu hx
      split at hi
      · rename_i fd hf
        obtain ⟨n, ha, rfl⟩ := map_some hi
        exact .q rfl (q_fld hE hop hx hu hf ha h)
      · cases hi
    · cases hi
  case h_6 t x hop =>
    split at hi
    · rename_i n y ha hx
      cases hi
      exact .l x y t n rfl hop ha hx
    · cases hi
  case h_7 t x v hop =>
    split at hi
    · rename_i n y z hs hx hv
      cases hi
      exact .e rfl (e_st hE hC hop hs hx hv h)
    · cases hi
  case h_8 c x y hop =>
    split at hi
    · rename_i c' x' y' hc hx hy
      cases hi
      exact .q rfl (q_pick hE hop hc hx hy h)
    · cases hi
  case h_9 op t x y u hop =>
    split at hi
    · rename_i x' y' hu hx hy
      split at hi
      · cases hi
        exact .q rfl (q_beq hE hop hu (.inl ⟨rfl, rfl⟩) hx hy h)
      · cases hi
        exact .q rfl (q_beq hE hop hu (.inr ⟨rfl, rfl⟩) hx hy h)
      · cases hi
    · rename_i d x' y' hd hu hx hy
      split at hi
      · cases hi; exact .q rfl (q_bik hE hop hx hy (.inl (by omega)) h)
      · cases hi; exact .q rfl (q_bik hE hop hx hy (.inl (by omega)) h)
      · cases hi; exact .q rfl (q_bik hE hop hx hy (.inr (.inl rfl)) h)
      · cases hi; exact .q rfl (q_bik hE hop hx hy (.inr (.inr rfl)) h)
      · cases hi; exact .q rfl (q_bin hE hop hx hy h)
    · cases hi
  case h_10 op t x hop => obtain ⟨x', hx, rfl⟩ := map_some hi; exact .q rfl (q_un hE hop hx h)
  case h_11 src dst x hop =>
    split at hi
    · rename_i k0 k y hs hd hx
      cases hi
      exact .q rfl (q_cvi hE hop hs hd hx h)
    · rename_i e y hs hd hx
      split at hi
      · rename_i he
        cases hi
        exact .e rfl (e_s2b hE hC hop hs hd he hx h)
      · cases hi
    · rename_i e y hs hd hx
      split at hi
      · rename_i he
        cases hi
        exact .e rfl (e_b2s hE hC hop hs hd he hx h)
      · cases hi
    · rename_i y hs hd hx
      cases hi
      exact .q rfl (q_str hE hop hs hd hx h)
    · cases hi
  case h_12 t x ix hop =>
    split at hi
    · rename_i e y z hu hx hix
      obtain ⟨wd, hs, rfl⟩ := map_some hi
      exact .q rfl (q_ia hE hop hu hs hx hix h)
    · cases hi
  case h_13 t x ix hop =>
    split at hi
    · rename_i y z hu hx hix
      cases hi
      exact .q rfl (q_si hE hop hu hx hix h)
    · cases hi
  case h_14 t x lo hi' hop =>
    split at hi
    · rename_i e y l r hu hx hl hr
      obtain ⟨wd, hs, rfl⟩ := map_some hi
      exact .e rfl (e_slc hE hC hop hu hs hx hl hr h)
    · rename_i y l r hu hx hl hr
      cases hi
      exact .q rfl (q_sls hE hop hu hx hl hr h)
    · cases hi
  case h_15 t x hop =>
    split at hi
    · cases hi
    · rename_i d y hd hu hx
      cases hi
      exact .q rfl (q_mki hE hop hu (fun ms h => hd ms h) hx h)
    · cases hi
  case h_16 g first caps hop =>
    split at hi
    · rename_i hf
      obtain ⟨xs, hx, rfl⟩ := map_some hi
      exact .q rfl (q_mkf hE hop hf hx h)
    · cases hi
  case h_17 x ix hop => obtain ⟨x', hx, rfl⟩ := map_some hi; exact .q rfl (q_ext hE hop hx h)
  case h_18 c hop => exact serves_call hE hC hop hi h
  case h_19 t hop => obtain ⟨z, hz, rfl⟩ := map_some hi; exact .e rfl (e_alc hC hop hz h)
  case h_20 t x hop => obtain ⟨x', hx, rfl⟩ := map_some hi; exact .e rfl (e_box hE hC hop hx h)
  case h_21 t ps hop =>
    split at hi
    · rename_i fs z hu hz
      split at hi
      · rename_i pl hpl
        obtain ⟨parts, hp, rfl⟩ := map_some hi
        exact .q rfl (q_bld_struct hE hop hu hz hpl hp h)
      · cases hi
    · rename_i len e z hu hz
      split at hi
      · rename_i n hs
        obtain ⟨parts, hp, rfl⟩ := map_some hi
        exact .q rfl (q_bld_array hE hop hu hz hs hp h)
      · cases hi
    · cases hi
  case h_22 t len ps hop =>
    split at hi
    · rename_i e hu
      split at hi
      · rename_i n z hs hz
        split at hi
        · cases hi
        · rename_i hn
          obtain ⟨parts, hp, rfl⟩ := map_some hi
          have h1 : n ≠ 0 := fun h => hn (.inl h)
          have h2 : z.length = n := Classical.byContradiction fun h => hn (.inr (.inl h))
          have h3 : len ≠ 0 := fun h => hn (.inr (.inr (.inl h)))
          have h4 : ¬ (len * n > 16777216) := fun h => hn (.inr (.inr (.inr h)))
          exact .e rfl (e_bsl hE hC hop hu hs hz h1 h2 h3 hp (by omega) h)
      · cases hi
    · cases hi
  case h_23 t l c hop =>
    split at hi
    · rename_i e x y hu hx hy
      split at hi
      · rename_i wd bt z hs hb hz
        split at hi
        · rename_i hzl
          cases hi
          exact .e rfl (e_mks hE hC hop hu hs hb hz hzl hx hy h)
        · cases hi
      · cases hi
    · cases hi
  case h_24 => cases hi

/-- What a quiet operation yields, and in which worlds it would. -/
theorem quiet_of (hE : EnvR ρ s.env a.tmps) (hC : Core w0 cx ρ s.H w) {i : I} (hi : compI P o = some i) (hq : i.quiet = true) (h : evI P w0 i s K) :
    ∃ x v, ∃ C : World → Prop, K x s ∧ x.R ρ v ∧ C w ∧ (∀ w', C w' → (execOp a.eval o).run P w' = .ok (.value v) w') ∧
      ∀ ρ' H' w', RH w0 ρ' H' w' → (∃ t, ρ' = ρ ++ t) → (∀ y n c z, i = .ld y n → y.get s.env = some (.o (.c c)) → c.isV = false → x = .o z → ld1 w0 H' c n (fun b => b = z ∧ z.sure = true)) → C w' := by
  cases serves hE hC hi h with
  | q _ h =>
    obtain ⟨x, v, hK, hR, hrun⟩ := h
    exact ⟨x, v, fun _ => True, hK, hR, trivial, fun w' _ => hrun w', fun _ _ _ _ _ _ => trivial⟩
  | l x x' t n hi' hop ha hx =>
    subst hi'
    obtain ⟨y, v, C, hK, hR, hCw, hrun, hback⟩ := q_ld hE hC.rh hop ha hx h
    exact ⟨.o y, v, C, hK, hR, hCw, hrun, fun ρ' H' w' hRH ht hk => hback ρ' H' w' hRH ht fun c hc hv => hk x' n c y rfl hc hv rfl⟩
  | e hq' _ => rw [hq] at hq'; cases hq'
theorem eok_of (hE : EnvR ρ s.env a.tmps) (hC : Core w0 cx ρ s.H w) {i : I} (hi : compI P o = some i) (h : evI P w0 i s K) : EOk P w0 cx o a ρ s K w := by
  cases serves hE hC hi h with
  | q _ h =>
    obtain ⟨x, v, hK, hR, hrun⟩ := h
    exact eok_of_run ⟨x, s, [], v, w, hK, rfl, by rw [List.append_nil]; exact hR, by rw [List.append_nil]; exact hC, hrun w⟩
  | l x x' t n hi' hop ha hx =>
    subst hi'
    obtain ⟨y, v, C, hK, hR, hCw, hrun, hback⟩ := q_ld hE hC.rh hop ha hx h
    exact eok_of_run ⟨.o y, s, [], v, w, hK, rfl, by rw [List.append_nil]; exact hR, by rw [List.append_nil]; exact hC, hrun w hCw⟩
  | e _ h => exact h
end
end Go.Vc
