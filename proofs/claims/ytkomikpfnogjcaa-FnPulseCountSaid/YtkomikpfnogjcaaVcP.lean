/- Code and functions: what is asked of them is enough. -/
import Derived.Test.YtkomikpfnogjcaaVcO
namespace Go.Vc
open Go.RowKit (Below)
section
variable {P : Program} {w0 : World} {cx : Cx} {N : Nat}

/-! ### One state in another -/
theorem embH_spec {σ : List Nat} {H : List Blk} : ∀ {H0 : List Blk} {is : List Nat}, embH σ H H0 is → H0.length = is.length ∧ (∀ i ∈ is, i < H.length) ∧ ∀ (b : Nat) (k : Blk), H0[b]? = some k → k.live = true → ∃ i, is[b]? = some i ∧ H[i]? = some (k.ren σ) ∧ (k.ren σ).live = true
  | [], [], _ => ⟨rfl, by simp, fun b k h => by simp at h⟩
  | [], _ :: _, h => h.elim
  | k :: r, [], h => by cases k <;> exact h.elim
  | k :: r, i :: is, h => by
    cases hk : k.live with
    | false =>
      have hd : k = .dead := by cases k <;> first | rfl | cases hk
      subst hd
      obtain ⟨hi, h⟩ := h
      obtain ⟨h1, h2, h3⟩ := embH_spec h
      refine ⟨by simp [h1], fun j hj => ?_, fun b k' hb hl => ?_⟩
      · rcases List.mem_cons.1 hj with rfl | hj
        · exact hi
        · exact h2 j hj
      · cases b with
        | zero => simp at hb; subst hb; cases hl
        | succ b => simpa using h3 b k' (by simpa using hb) hl
    | true =>
      have h' : H[i]? = some (k.ren σ) ∧ (k.ren σ).live = true ∧ embH σ H r is := by cases k <;> first | exact h | cases hk
      obtain ⟨hi, hl0, h⟩ := h'
      obtain ⟨h1, h2, h3⟩ := embH_spec h
      refine ⟨by simp [h1], fun j hj => ?_, fun b k' hb hl => ?_⟩
      · rcases List.mem_cons.1 hj with rfl | hj
        · exact (List.getElem?_eq_some_iff.1 hi).1
        · exact h2 j hj
      · cases b with
        | zero => simp at hb; subst hb; exact ⟨i, rfl, hi, hl0⟩
        | succ b => simpa using h3 b k' (by simpa using hb) hl

theorem nodupB_spec : ∀ {l : List Nat}, nodupB l = true → l.Nodup
  | [], _ => List.nodup_nil
  | x :: r, h => by
    simp only [nodupB, Bool.and_eq_true, Bool.not_eq_true'] at h
    refine List.nodup_cons.2 ⟨fun hx => ?_, nodupB_spec h.2⟩
    have : r.any (Nat.beq x) = true := List.any_eq_true.2 ⟨x, hx, by simp⟩
    rw [this] at h
    cases h.1

theorem liveIds_mem : ∀ {H0 : List Blk} {is : List Nat} {b : Nat} {k : Blk} {i : Nat}, H0[b]? = some k → k.live = true → is[b]? = some i → i ∈ liveIds H0 is
  | [], _, b, _, _, h, _, _ => by simp at h
  | k0 :: r, [], b, _, _, _, _, h => by simp at h
  | k0 :: r, j :: is, 0, k, i, h, hl, hi => by
    simp at h hi
    subst h
    subst hi
    cases k0 <;> first | (cases hl; done) | simp [liveIds]
  | k0 :: r, j :: is, b + 1, k, i, h, hl, hi => by
    have := liveIds_mem (H0 := r) (is := is) (b := b) (k := k) (i := i) (by simpa using h) hl (by simpa using hi)
    cases k0 <;> simp [liveIds, this]
theorem liveIds_inj : ∀ {H0 : List Blk} {is : List Nat}, (liveIds H0 is).Nodup → ∀ {b b' : Nat} {k k' : Blk} {i : Nat}, H0[b]? = some k → H0[b']? = some k' → k.live = true → k'.live = true → is[b]? = some i → is[b']? = some i → b = b'
  | [], _, _, b, b', _, _, _, h, _, _, _, _, _ => by simp at h
  | k0 :: r, [], _, b, b', _, _, _, _, _, _, _, h, _ => by simp at h
  | k0 :: r, j :: is, hn, b, b', k, k', i, h1, h2, l1, l2, i1, i2 => by
    cases b with
    | zero =>
      cases b' with
      | zero => rfl
      | succ b' =>
        exfalso
        simp at h1 i1
        subst h1
        subst i1
        have hm := liveIds_mem (H0 := r) (is := is) (by simpa using h2) l2 (by simpa using i2)
        have hn' : (j :: liveIds r is).Nodup := by cases k0 <;> first | (cases l1; done) | exact hn
        exact (List.nodup_cons.1 hn').1 hm
    | succ b =>
      cases b' with
      | zero =>
        exfalso
        simp at h2 i2
        subst h2
        subst i2
        have hm := liveIds_mem (H0 := r) (is := is) (by simpa using h1) l1 (by simpa using i1)
        have hn' : (j :: liveIds r is).Nodup := by cases k0 <;> first | (cases l2; done) | exact hn
        exact (List.nodup_cons.1 hn').1 hm
      | succ b' =>
        have hn' : (liveIds r is).Nodup := by cases k0 <;> first | exact hn | exact (List.nodup_cons.1 hn).2
        have := liveIds_inj (H0 := r) (is := is) hn' (b := b) (b' := b') (k := k) (k' := k') (i := i) (by simpa using h1) (by simpa using h2) l1 l2 (by simpa using i1) (by simpa using i2)
        omega

theorem EmbH.core {m : Nat} {σ : List Nat} {H0 H : List Blk} {ρ : Ren} {w : World} (h : EmbH m σ H0 H) (hm : cx.ρe.length = m) (hC : Core w0 cx ρ H w) : Core w0 cx (ρ.sub σ) H0 w := by
  obtain ⟨hσ, hH, hn⟩ := h
  obtain ⟨h1, h2, h3⟩ := embH_spec hH
  have hlen : (ρ.sub σ).length = H0.length := by rw [h1]; simp [Ren.sub]
  have himg : ∀ g, image (ρ.sub σ) H0 g → image ρ H g := by
    rintro g ⟨b, k, hb, hl, hg⟩
    obtain ⟨i, hi, hHi, hl'⟩ := h3 b k hb hl
    exact ⟨i, _, hHi, hl', by rw [← Ren.sub_at hi]; exact hg⟩
  refine ⟨⟨hlen, fun b k e hb he => ?_, fun b b' k k' g hb hb' l l' a a' => ?_, fun g hg => hC.rh.lo g (himg g hg), hC.rh.base⟩, hC.fr, fun g hg => hC.own g (himg g hg), ?_⟩
  · cases hl : k.live with
    | false => cases k <;> first | trivial | cases hl
    | true =>
      obtain ⟨i, hi, hHi, hl'⟩ := h3 b k hb hl
      rw [Ren.sub_get hi] at he
      cases he
      have hilt : i < ρ.length := by rw [hC.rh.len]; exact (List.getElem?_eq_some_iff.1 hHi).1
      have hok := hC.rh.ok i _ (ρ.getD i (none, 0)) hHi (by rw [List.getD_eq_getElem?_getD, List.getElem?_eq_getElem hilt]; rfl)
      exact hok.of_ren hl hl'
  · obtain ⟨i, hi, hHi, hli⟩ := h3 b k hb l
    obtain ⟨i', hi', hHi', hli'⟩ := h3 b' k' hb' l'
    rw [Ren.sub_at hi] at a
    rw [Ren.sub_at hi'] at a'
    have := hC.rh.inj i i' _ _ g hHi hHi' hli hli' a a'
    subst this
    exact liveIds_inj (nodupB_spec hn) hb hb' l l' hi hi'
  · obtain ⟨u, hu⟩ := hC.pre
    refine ⟨(ρ.sub σ).drop m, ?_⟩
    have htake : (ρ.sub σ).take m = cx.ρe := by
      unfold Ren.sub
      rw [← List.map_take, hσ]
      apply List.ext_getElem?
      intro i
      rw [List.getElem?_map]
      rcases Nat.lt_or_ge i m with hi | hi
      · have hi2 : i < cx.ρe.length := by omega
        rw [List.getElem?_range hi]
        simp only [Option.map_some]
        rw [List.getElem?_eq_getElem hi2, hu, List.getD_eq_getElem?_getD, List.getElem?_append_left hi2, List.getElem?_eq_getElem hi2]
        rfl
      · rw [List.getElem?_eq_none (by simpa using hi), List.getElem?_eq_none (by omega)]
        rfl
    rw [← htake, List.take_append_drop]

theorem embE_spec {σ : List Nat} {e : Env} : ∀ {e0 : Env}, embE σ e e0 → ∀ t x, look e0 t = some x → look e t = some (x.ren σ)
  | [], _, t, x, h => by cases h
  | (k, y) :: r, h, t, x, hx => by
    simp only [look] at hx
    by_cases hk : k = t
    · subst hk
      simp at hx
      subst hx
      exact h.1
    · rw [beq_ne hk, cond_false] at hx
      exact embE_spec h.2 t x hx
theorem EmbS.rel {m : Nat} {s0 s : S} {ρ : Ren} {a : Act} {w : World} (h : EmbS m s0 s) (hm : cx.ρe.length = m) (hR : Rel w0 cx N ρ s a w) : ∃ ρ0, Rel w0 cx N ρ0 s0 a w := by
  obtain ⟨σ, hH, hE⟩ := h
  refine ⟨ρ.sub σ, hR.sz, hR.df, fun t x hx => ?_, hH.core hm hR.core⟩
  obtain ⟨v, h1, h2⟩ := hR.env t _ (embE_spec hE t x hx)
  exact ⟨v, h1, AV.R.of_ren h2⟩

/-! ### Code -/
theorem wp_loop_ix {c : Code} {Q : Exit → Act → World → Prop} (I : Nat → Act → World → Prop) (round : ∀ n a w, I n a w → c.wp P (Exit.then (fun a' w' => ∃ n', n' < n ∧ I n' a' w') Q) a w) {n : Nat} {a : Act} {w : World} (h0 : I n a w) : (Code.loop c).wp P Q a w := by
  intro b k cs
  have key : ∀ n a w, I n a w → ∃ e a' w', Q e a' w' ∧ Arrives P (lone (b.at a (.code c :: .inLoop c :: k)) cs w) b k cs e a' w' := by
    intro n
    induction n using Nat.strongRecOn with
    | _ n ih =>
      intro a w hI
      obtain ⟨e, a₁, w₁, hq, harr⟩ := round n a w hI b (.inLoop c :: k) cs
      cases e with
      | normal =>
        obtain ⟨n', hlt, hI₁⟩ := hq
        obtain ⟨e₂, a₂, w₂, hq₂, harr₂⟩ := ih n' hlt a₁ w₁ hI₁
        exact ⟨e₂, a₂, w₂, hq₂, .of_steps (Steps.trans harr (.one step_inLoop)) harr₂⟩
      | exit id => exact ⟨_, a₁, w₁, hq, .pass (x := .inLoop c) rfl (fun _ _ => .inl (by simp)) harr⟩
      | goto l => exact ⟨_, a₁, w₁, hq, .pass (x := .inLoop c) rfl (fun _ _ => .inl (by simp)) harr⟩
      | ret => exact ⟨_, a₁, w₁, hq, .pass (x := .inLoop c) rfl (fun _ _ => .inl (by simp)) harr⟩
      | panic ch => exact ⟨_, a₁, w₁, hq, .pass (x := .inLoop c) rfl (fun _ _ => .inl (by simp)) harr⟩
      | outgrown => exact ⟨_, a₁, w₁, hq, .pass (x := .inLoop c) rfl (fun _ _ => .inl (by simp)) harr⟩
  obtain ⟨e, a', w', hq, harr⟩ := key _ a w h0
  exact ⟨e, a', w', hq, .of_steps (.one step_loop) harr⟩

theorem evC_sound : ∀ (c : Code) (ic : IC) (_ : compC P N c = some ic) (K : Exit → S → Prop) (s : S) (ρ : Ren) (a : Act) (w : World), evC P w0 cx.ρe.length ic s K → Rel w0 cx N ρ s a w → c.wp P (QK w0 cx N K) a w
  | .skip, ic, hc, K, s, ρ, a, w, h, hR => by
    simp only [compC, Option.some.injEq] at hc
    subst hc
    exact wp_skip ⟨rfl, s, ρ, h, hR⟩
  | .region id ops draw, ic, hc, K, s, ρ, a, w, h, hR => by
    simp only [compC, compReg] at hc
    cases draw with
    | false =>
      simp only [Bool.false_eq_true, if_false] at hc
      obtain ⟨gs, hg, rfl⟩ := map_some hc
      exact wp_region_list (evGs_sound hg h hR)
    | true =>
      simp only [if_true] at hc
      split at hc
      · rename_i hm
        obtain ⟨ds, hd, rfl⟩ := map_some hc
        simp only [Bool.and_eq_true] at hm
        refine wp_region_E hm.1 ?_
        have hR' : Rel w0 cx N ρ s a { w with drawn := w.drawn + 1 } := ⟨hR.sz, hR.df, hR.env, hR.core.same rfl rfl rfl rfl⟩
        exact evD_sound hm.2 hd h hR' (Closed.init _) (by simp) (by simp) (by intro p hp; cases hp)
      · cases hc
  | .seq x y, ic, hc, K, s, ρ, a, w, h, hR => by
    simp only [compC] at hc
    cases h1 : compC P N x with
    | none => simp [h1] at hc
    | some ix =>
      cases h2 : compC P N y with
      | none => simp [h1, h2] at hc
      | some iy =>
        simp only [h1, h2, Option.some.injEq] at hc
        have hseq : ∀ (K2 : Exit → S → Prop), (∀ s ρ a w, K2 .normal s → Rel w0 cx N ρ s a w → y.wp P (QK w0 cx N K) a w) → (∀ e s, e ≠ .normal → K2 e s → K e s) → evC P w0 cx.ρe.length ix s K2 → (Code.seq x y).wp P (QK w0 cx N K) a w := by
          intro K2 hn he hx
          refine wp_seq (wp_mono (evC_sound x ix h1 K2 s ρ a w hx hR) fun e a' w' hq => ?_)
          obtain ⟨hok, s', ρ', hK2, hR'⟩ := hq
          cases e with
          | normal => exact hn s' ρ' a' w' hK2 hR'
          | _ => first | exact ⟨rfl, s', ρ', he _ _ (by simp) hK2, hR'⟩ | cases hok
        have hdirect : evC P w0 cx.ρe.length ix s (evThen (evC P w0 cx.ρe.length iy) K) → (Code.seq x y).wp P (QK w0 cx N K) a w := by
          intro h
          refine hseq _ (fun s' ρ' a' w' h' hR' => evC_sound y iy h2 K s' ρ' a' w' h' hR') (fun e s' hne h' => ?_) h
          cases e <;> first | exact absurd rfl hne | exact h'
        split at hc
        · subst hc
          rcases h with h | ⟨ι, st, h, hall⟩
          · exact hdirect h
          · refine hseq _ (fun s' ρ' a' w' h' hR' => ?_) (fun e s' hne h' => ?_) h
            · obtain ⟨j, hj⟩ := h'
              obtain ⟨ρ0, hR0⟩ := hj.rel rfl hR'
              exact evC_sound y iy h2 K _ ρ0 a' w' (hall j) hR0
            · cases e <;> first | exact absurd rfl hne | exact h'
        · subst hc
          exact hdirect h
  | .cond t x y, ic, hc, K, s, ρ, a, w, h, hR => by
    simp only [compC] at hc
    cases h0 : compX t with
    | none => simp [h0] at hc
    | some t' =>
      cases h1 : compC P N x with
      | none => simp [h0, h1] at hc
      | some ix =>
        cases h2 : compC P N y with
        | none => simp [h0, h1, h2] at hc
        | some iy =>
          simp only [h0, h1, h2, Option.some.injEq] at hc
          subst hc
          obtain ⟨b, hb, ht, hf⟩ := getBr_R hR.env h0 h
          refine wp_cond_split hb (fun hbt => ?_) (fun hbf => ?_)
          · exact evC_sound x ix h1 K s ρ a w (ht hbt) hR
          · exact evC_sound y iy h2 K s ρ a w (hf hbf) hR
  | .block id x, ic, hc, K, s, ρ, a, w, h, hR => by
    simp only [compC] at hc
    obtain ⟨ix, hx, rfl⟩ := map_some hc
    refine wp_block (wp_mono (evC_sound x ix hx _ s ρ a w h hR) fun e a' w' hq => ?_)
    obtain ⟨hok, s', ρ', hK, hR'⟩ := hq
    cases e with
    | exit id' =>
      simp only [Exit.inBlock]
      change (bif Nat.beq id' id then K .normal s' else K (.exit id') s') at hK
      by_cases hid : id' = id
      · subst hid
        rw [if_pos rfl]
        simp only [Nat.beq_refl, cond_true] at hK
        exact ⟨rfl, s', ρ', hK, hR'⟩
      · rw [if_neg hid]
        rw [beq_ne hid, cond_false] at hK
        exact ⟨rfl, s', ρ', hK, hR'⟩
    | _ => first | exact ⟨rfl, s', ρ', hK, hR'⟩ | cases hok
  | .loop x, ic, hc, K, s, ρ, a, w, h, hR => by
    simp only [compC] at hc
    obtain ⟨ix, hx, rfl⟩ := map_some hc
    obtain ⟨ι, st, μ, ⟨j0, hj0⟩, hround⟩ := h
    obtain ⟨ρ0, hR0⟩ := hj0.rel rfl hR
    refine wp_loop_ix (fun n a w => ∃ j ρ, μ j = n ∧ Rel w0 cx N ρ (st j) a w) (fun n a w hI => ?_) ⟨j0, ρ0, rfl, hR0⟩
    obtain ⟨j, ρ1, rfl, hR1⟩ := hI
    refine wp_mono (evC_sound x ix hx _ (st j) ρ1 a w (hround j) hR1) fun e a' w' hq => ?_
    obtain ⟨hok, s', ρ', hK, hR'⟩ := hq
    cases e with
    | normal =>
      obtain ⟨j', hj', hlt⟩ := hK
      obtain ⟨ρ2, hR2⟩ := hj'.rel rfl hR'
      exact ⟨μ j', hlt, j', ρ2, rfl, hR2⟩
    | _ => first | exact ⟨rfl, s', ρ', hK, hR'⟩ | cases hok
  | .exit id, ic, hc, K, s, ρ, a, w, h, hR => by
    simp only [compC, Option.some.injEq] at hc
    subst hc
    exact wp_exit ⟨rfl, s, ρ, h, hR⟩
  | .ret, ic, hc, K, s, ρ, a, w, h, hR => by
    simp only [compC, Option.some.injEq] at hc
    subst hc
    exact wp_ret ⟨rfl, s, ρ, h, hR⟩
  | .rangeFunc .., ic, hc, K, s, ρ, a, w, h, hR => by simp [compC] at hc
  | .scope _, ic, hc, K, s, ρ, a, w, h, hR => by simp [compC] at hc
  | .label _, ic, hc, K, s, ρ, a, w, h, hR => by simp [compC] at hc
  | .goto _, ic, hc, K, s, ρ, a, w, h, hR => by simp [compC] at hc
  | .refuse _, ic, hc, K, s, ρ, a, w, h, hR => by simp [compC] at hc
end
end Go.Vc
