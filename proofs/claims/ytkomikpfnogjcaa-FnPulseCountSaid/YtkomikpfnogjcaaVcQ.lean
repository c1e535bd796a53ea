/- A function that meets what is asked of it keeps what is said of its calls. -/
import Derived.Test.YtkomikpfnogjcaaVcP
namespace Go.Vc
open Go.RowKit (Below)
section
variable {P : Program} {w0 : World}

theorem envF_spec : ∀ {args : List A1} {n : Nat} {k : Env → Prop}, envF n args k → ∃ e, k e ∧ ∀ t x, look e t = some x → ∃ a, x = .o a ∧ n ≤ t ∧ args[t - n]? = some a
  | [], n, k, h => ⟨[], h, fun t x hx => by cases hx⟩
  | y :: r, n, k, h => by
    obtain ⟨e, hk, he⟩ := envF_spec (args := r) h
    refine ⟨_, hk, fun t x hx => ?_⟩
    simp only [look] at hx
    by_cases hnt : n = t
    · subst hnt
      simp at hx
      exact ⟨y, hx.symm, Nat.le_refl _, by simp⟩
    · rw [beq_ne hnt, cond_false] at hx
      obtain ⟨a, ha, hle, hg⟩ := he t x hx
      refine ⟨a, ha, by omega, ?_⟩
      have : t - n = (t - (n + 1)) + 1 := by omega
      rw [this]
      simpa using hg

theorem run_mapM_l {α β : Type} (f : α → Sem β) (w : World) : ∀ (xs : List α) (ys : List β), All2 (fun x y => (f x).run P w = .ok y w) xs ys → (xs.mapM f).run P w = .ok ys w
  | [], _, h => by cases h; simp
  | x :: r, _, h => by
    cases h with
    | cons h1 h2 => simp [h1, run_mapM_l f w r _ h2]
theorem run_mapM {α β : Type} (f : α → Sem β) (xs : Array α) (w : World) (ys : List β) (h : All2 (fun x y => (f x).run P w = .ok y w) xs.toList ys) : (xs.mapM f).run P w = .ok ys.toArray w := by
  rw [Array.mapM_eq_mapM_toList]
  rw [map_eq_pure_bind, Sem.run_bind, run_mapM_l f w _ _ h]
  rfl

def resRun (tmps : Array Value) : ResultVar → Sem Value
  | .tmp t => pure (tmps.getD t undef)
  | .cell a t => do loadVar t (← asAddr (tmps.getD a undef))
theorem results_eq (fn : Func) (tmps : Array Value) : results fn tmps = (do let vs ← fn.results.mapM (resRun tmps); pure (if h : vs.size = 1 then vs[0] else .tuple vs)) := by
  unfold results
  congr 2
theorem resF_spec {ρ : Ren} {s : S} {a : Act} {w : World} (hE : EnvR ρ s.env a.tmps) (hC : RH w0 ρ s.H w) : ∀ {l : List ResultVar} {rs : List IR} {k : List A1 → Prop}, compRes P l = some rs → resF w0 s rs k →
    ∃ xs vs, k xs ∧ All2 (A1.R ρ) xs vs ∧ All2 (fun r v => (resRun a.tmps r).run P w = .ok v w) l vs
  | [], rs, k, hc, h => by
    simp only [compRes, Option.some.injEq] at hc
    subst hc
    exact ⟨[], [], h, .nil, .nil⟩
  | .tmp t :: r, rs, k, hc, h => by
    simp only [compRes] at hc
    obtain ⟨l, hl, rfl⟩ := map_some hc
    simp only [resF] at h
    obtain ⟨y, h, hy⟩ := get1_R (o := .tmp t) (x := .t t) hE rfl h
    obtain ⟨xs, vs, hk, hA, hB⟩ := resF_spec hE hC hl h
    exact ⟨_, _, hk, .cons hy hA, .cons (by rfl) hB⟩
  | .cell b t :: r, rs, k, hc, h => by
    simp only [compRes] at hc
    cases ha : aggT P t with
    | none => simp [ha] at hc
    | some n =>
      cases hl : compRes P r with
      | none => simp [ha, hl] at hc
      | some l =>
        simp only [ha, hl, Option.some.injEq] at hc
        subst hc
        simp only [resF] at h
        obtain ⟨c, h, hR⟩ := getC_R (o := .tmp b) (x := .t b) hE rfl h
        obtain ⟨ad, y, us, he, h, hAu, hlu, hcell, _, hn1, hn2⟩ := ld1_sound hC h hR
        obtain ⟨xs, vs, hk, hA, hB⟩ := resF_spec hE hC hl h
        have he : a.tmps.getD b undef = .pointer (some ad) := he
        rcases aggT_spec ha with ⟨rfl, hag⟩ | ⟨m, rfl, hsz, hag⟩
        · obtain ⟨z, rfl⟩ := hn1 rfl
          simp only [A1.cells] at hAu
          obtain ⟨u, rfl, hzu⟩ : ∃ u, us = [u] ∧ z.R ρ u := by cases hAu with | cons hz hr => cases hr; exact ⟨_, rfl, hz⟩
          have h0 := hcell 0 u rfl
          have h1 : ad.add 0 = ad := rfl
          rw [h1] at h0
          exact ⟨_, u :: vs, hk, .cons hzu hA, .cons (by simp [resRun, he, asAddr, loadVar, hag, h0]) hB⟩
        · obtain ⟨cs, rfl⟩ := hn2 m rfl
          have hlc := run_loadCells_list (P := P) (w := w) ad us (fun j v hv => hcell j v hv)
          simp only [Option.getD_some] at hlu
          rw [hlu] at hlc
          exact ⟨_, .agg us.toArray :: vs, hk, .cons ⟨us.toArray, rfl, by simpa [A1.cells] using hAu⟩ hA, .cons (by simp [resRun, he, asAddr, loadVar, hag, run_sizeT hsz, hlc]) hB⟩

theorem results_spec {ρ : Ren} {s : S} {a : Act} {w : World} {fn : Func} {rs : List IR} {k : List A1 → Prop} (hE : EnvR ρ s.env a.tmps) (hC : RH w0 ρ s.H w) (hc : compRes P fn.results.toList = some rs) (h : resF w0 s rs k) :
    ∃ xs v, k xs ∧ (results fn a.tmps).run P w = .ok v w ∧ (resV xs).R ρ v := by
  obtain ⟨xs, vs, hk, hA, hB⟩ := resF_spec hE hC hc h
  have hm := run_mapM (P := P) (resRun a.tmps) fn.results w vs hB
  refine ⟨xs, if h : vs.toArray.size = 1 then vs.toArray[0] else .tuple vs.toArray, hk, ?_, ?_⟩
  · rw [results_eq, Sem.run_bind, hm]
    simp
  · cases hA with
    | nil => exact ⟨#[], rfl, .nil⟩
    | cons h1 h2 =>
      cases h2 with
      | nil => exact h1
      | cons h2 h3 => exact ⟨_, rfl, .cons h1 (.cons h2 h3)⟩

theorem callsA_of_ev {f : FuncId} {F : IFn} {args : List A1} {H : List Blk} {R : AV → List Blk → Prop} (hc : compF P f = some F) (h : evF P w0 F args H R) : CallsA P w0 f args H R := by
  unfold compF at hc
  cases hf : P.funcs[f]? with
  | none => simp [hf] at hc
  | some fn =>
    cases hb : fn.body with
    | none => simp [hf, hb] at hc
    | some c =>
      simp only [hf, hb] at hc
      split at hc
      · cases hc
      · rename_i hnm
        cases hcc : compC P fn.ntmps c with
        | none => simp [hcc] at hc
        | some ic =>
          cases hcr : compRes P fn.results.toList with
          | none => simp [hcc, hcr] at hc
          | some rs =>
            simp only [hcc, hcr] at hc
            split at hc
            · rename_i hnt
              cases hc
              obtain ⟨hlen, h⟩ := chk_spec h
              have hlen : args.length = fn.params.size + fn.nfree := Nat.eq_of_beq_eq_true hlen
              obtain ⟨e, h, he⟩ := envF_spec h
              refine ⟨by simp [hf, hb]; simpa using hnm, fun ρ w vs hRH hA => calls_of_wp hf hb ?_⟩
              have hvl : vs.length = args.length := hA.length.symm
              have hm : H.length = ρ.length := hRH.len.symm
              rw [hm] at h
              have hR0 : Rel w0 ⟨w, image ρ H, ρ, []⟩ fn.ntmps ρ ⟨e, H⟩ { tmps := vs.toArray ++ Array.replicate (fn.ntmps - vs.toArray.size) undef, defers := [] } w := by
                refine ⟨?_, rfl, fun t x hx => ?_, ⟨hRH, FrameP.refl _ _, fun g hg => .inl hg, ⟨[], by simp⟩⟩⟩
                · simp
                  omega
                · obtain ⟨a, rfl, _, ha⟩ := he t x hx
                  obtain ⟨v, hv, hav⟩ := hA.at_ _ _ ha
                  refine ⟨v, ?_, hav⟩
                  have hv : vs[t]? = some v := by simpa using hv
                  have htl := (List.getElem?_eq_some_iff.1 hv).1
                  rw [Array.getElem?_append_left (by simpa using htl)]
                  simpa using hv
              refine wp_mono (evC_sound (cx := ⟨w, image ρ H, ρ, []⟩) c ic hcc _ _ ρ _ w h hR0) fun ex a' w' hq => ?_
              obtain ⟨hok, s', ρ', hK, hR⟩ := hq
              have key : (resF w0 s' rs fun l => Fin ρ.length R (resV l) s'.H) → bodyPost P fn (fun en w' => ∃ r H' ρ' v, R r H' ∧ en = .returned v ∧ AV.R ρ' r v ∧ RH w0 ρ' H' w' ∧ (∃ t, ρ' = ρ ++ t) ∧ FrameP w (image ρ H) w' ∧ ∀ g, image ρ' H' g → image ρ H g ∨ w.heap.size ≤ g) .ret a' w' := by
                intro hres
                obtain ⟨xs, v, hfin, hrun, hxv⟩ := results_spec hR.env hR.core.rh hcr hres
                refine ⟨hR.df, v, hrun, ?_⟩
                rcases hfin with hfin | ⟨σ, r0, H0, hemb, hr, hfin⟩
                · exact ⟨_, _, ρ', v, hfin, rfl, hxv, hR.core.rh, hR.core.pre, hR.core.fr, hR.core.own⟩
                · have hcore := EmbH.core (cx := ⟨w, image ρ H, ρ, []⟩) hemb rfl hR.core
                  rw [hr] at hxv
                  exact ⟨_, _, _, v, hfin, rfl, AV.R.of_ren hxv, hcore.rh, hcore.pre, hcore.fr, hcore.own⟩
              cases ex with
              | normal => exact key hK
              | ret => exact key hK
              | exit id => exact hK.elim
              | _ => cases hok
            · cases hc

theorem CallsA.mono {f : FuncId} {args : List A1} {H : List Blk} {R R' : AV → List Blk → Prop} (h : CallsA P w0 f args H R) (hr : ∀ r H', R r H' → R' r H') : CallsA P w0 f args H R' :=
  ⟨h.cal, fun ρ w vs hRH hA => (h.out ρ w vs hRH hA).mono fun e w' ⟨r, H', ρ', v, hR, rest⟩ => ⟨r, H', ρ', v, hr _ _ hR, rest⟩⟩
end
end Go.Vc
