/- Loads; parts of structs; structs that are built. -/
import Derived.Test.YtkomikpfnogjcaaVcF
namespace Go.Vc
open Go.RowKit (Below)
section
variable {P : Program} {w0 : World} {ρ : Ren} {s : S} {K : AV → S → Prop} {a : Act} {o : Oper}

theorem CV.norm_isV {c : CV} (h : c.isV = false) : c.norm = c ∨ ∃ b, c = .kb b := by
  cases c <;> first | exact .inl rfl | exact .inr ⟨_, rfl⟩
theorem All2.same {l : List CV} {vs us : List Value} (hs : l.all CV.sure = true) (h : All2 (CV.R ρ) l vs) (k : All2 (CV.R ρ) l us) : vs = us := by
  induction h generalizing us with
  | nil => cases k; rfl
  | cons ha _ ih =>
    cases k with
    | cons hb hk =>
      simp only [List.all_cons, Bool.and_eq_true] at hs
      rw [CV.R.same hs.1 ha hb, ih hs.2 hk]
theorem one_spec {k : CV → Prop} {l : List CV} (h : one k l) : ∃ x, l = [x] ∧ k x := by
  unfold one at h
  split at h
  · exact ⟨_, rfl, h⟩
  · exact h.elim

/-- What 'ld1' says, in cells. -/
theorem ld1_sound {H : List Blk} {w : World} (hC : RH w0 ρ H w) {c : CV} {n : Option Nat} {k : A1 → Prop} (h : ld1 w0 H c n k) {v : Value} (hv : c.R ρ v) :
    ∃ ad y vs, v = .pointer (some ad) ∧ k y ∧ All2 (CV.R ρ) y.cells vs ∧ vs.length = n.getD 1 ∧ (∀ j u, vs[j]? = some u → w.cell? (ad.add j) = some u) ∧ (c.isV = true → ∀ j u, vs[j]? = some u → w0.cell? (ad.add j) = some u) ∧
      (n = none → ∃ x, y = .c x) ∧ (∀ m, n = some m → ∃ xs, y = .a xs) := by
  unfold ld1 at h
  split at h
  · obtain ⟨ad, cs, vs, h1, h2, h3, h4, h5, h6⟩ := ldn_sound hC h hv
    obtain ⟨x, rfl, hk⟩ := one_spec h2
    have hkx : k (.c x) := by
      split at hk
      · exact hk.elim
      · exact hk.elim
      · exact hk
    exact ⟨ad, .c x, vs, h1, hkx, h3, h4, h5, h6, (fun _ => ⟨x, rfl⟩), (fun m hm => by cases hm)⟩
  · obtain ⟨ad, cs, vs, h1, h2, h3, h4, h5, h6⟩ := ldn_sound hC h hv
    exact ⟨ad, .a cs, vs, h1, h2, h3, h4, h5, h6, (fun hm => by cases hm), fun m _ => ⟨cs, rfl⟩⟩

theorem q_ld (hE : EnvR ρ s.env a.tmps) {w : World} (hC : RH w0 ρ s.H w) {t : TypeId} {x : Operand} {x' : X} {n : Option Nat} (hop : o.op = .load t x) (ha : aggT P t = some n) (hx : compX x = some x') (h : evI P w0 (.ld x' n) s K) :
    ∃ y v, ∃ C : World → Prop, K (.o y) s ∧ y.R ρ v ∧ C w ∧ (∀ w', C w' → (execOp a.eval o).run P w' = .ok (.value v) w') ∧
      ∀ ρ' H' w', RH w0 ρ' H' w' → (∃ t, ρ' = ρ ++ t) → (∀ c, x'.get s.env = some (.o (.c c)) → c.isV = false → ld1 w0 H' c n (fun b => b = y ∧ y.sure = true)) → C w' := by
  simp only [evI] at h
  obtain ⟨c, hg, h, hR⟩ := getC_R' hE hx h
  obtain ⟨ad, y, vs, he, hK, hA, hl, hcell, hext, hn1, hn2⟩ := ld1_sound hC h hR
  have hback : ∀ ρ' H' w', RH w0 ρ' H' w' → (∃ t, ρ' = ρ ++ t) → (∀ c, x'.get s.env = some (.o (.c c)) → c.isV = false → ld1 w0 H' c n (fun b => b = y ∧ y.sure = true)) → ∀ j u, vs[j]? = some u → w'.cell? (ad.add j) = some u := by
    rintro ρ' H' w' hC' ⟨t, rfl⟩ hk
    cases hv : c.isV with
    | true =>
      have hcn : c.norm.isV = true := by cases c <;> first | exact hv | cases hv | rfl
      intro j u hu
      have h0 := hext hcn j u hu
      rw [hC'.base.cell (World.block_lt_of_cell? w0 _ h0)]
      exact h0
    | false =>
      have hl1 := hk c hg hv
      rcases CV.norm_isV hv with hn | ⟨b, rfl⟩
      · rw [hn] at hR
        obtain ⟨ad', y', vs', he', ⟨rfl, hs⟩, hA', _, hcell', _⟩ := ld1_sound hC' hl1 (hR.more t)
        rw [he] at he'
        cases he'
        have hsure : y'.cells.all CV.sure = true := by
          cases y' with
          | c x => simpa [A1.cells, A1.sure] using hs
          | a xs => simpa [A1.cells, A1.sure] using hs
        have := All2.same hsure (hA.mono fun _ _ => CV.R.more t) hA'
        subst this
        exact hcell'
      · cases n <;> exact hl1.elim
  refine ⟨y, ?_⟩
  rcases aggT_spec ha with ⟨rfl, hag⟩ | ⟨m, rfl, hsz, hag⟩
  · obtain ⟨z, rfl⟩ := hn1 rfl
    simp only [A1.cells] at hA
    obtain ⟨u, rfl, hzu⟩ : ∃ u, vs = [u] ∧ z.R ρ u := by cases hA with | cons hz hr => cases hr; exact ⟨_, rfl, hz⟩
    refine ⟨u, fun w' => ∀ j r, [u][j]? = some r → w'.cell? (ad.add j) = some r, hK, hzu, hcell, fun w' hw => ?_, hback⟩
    have h0 := hw 0 u rfl
    have h1 : ad.add 0 = ad := rfl
    rw [h1] at h0
    simp [execOp, hop, he, Instr.loadAt, Instr.sureAddr, loadVar, hag, h0]
  · obtain ⟨cs, rfl⟩ := hn2 m rfl
    refine ⟨.agg vs.toArray, fun w' => ∀ j r, vs[j]? = some r → w'.cell? (ad.add j) = some r, hK, ⟨vs.toArray, rfl, by simpa [A1.cells] using hA⟩, hcell, fun w' hw => ?_, hback⟩
    have hlc := run_loadCells_list (P := P) (w := w') ad vs (fun j v hv => hw j v hv)
    simp only [Option.getD_some] at hl
    rw [hl] at hlc
    simp [execOp, hop, he, Instr.loadAt, Instr.sureAddr, loadVar, hag, run_sizeT hsz, hlc]

theorem q_fld (hE : EnvR ρ s.env a.tmps) {t : TypeId} {x : Operand} {f : Nat} {x' : X} {fs : Array Field} {fd : Field} {n : Option Nat} (hop : o.op = .field t x f) (hx : compX x = some x') (hu : P.underlying t = some (.struct fs)) (hf : fs[f]? = some fd)
    (ha : aggT P fd.type = some n) (h : evI P w0 (.fld x' fd.offset n) s K) : QOk P o a ρ s K := by
  simp only [evI] at h
  obtain ⟨z, h, hR⟩ := get1_R hE hx h
  cases z <;> simp only at h
  case a xs =>
    obtain ⟨ys, he, hA⟩ := hR
    obtain ⟨h1, h⟩ := dropF_spec h
    have hpart : ∀ w', (execOp a.eval o).run P w' = ((part fd.type ys fd.offset).run P w').andThen fun v w' => .ok (.value v) w' := fun w' => by
      simp only [execOp, hop, he, Instr.field, asAgg, Sem.run_bind, run_underlying hu, Result.andThen_ok, hf, Sem.run_pure]
    rcases aggT_spec ha with ⟨rfl, hag⟩ | ⟨m, rfl, hsz, hag⟩
    · simp only at h
      obtain ⟨h2, h⟩ := takeF_spec h
      obtain ⟨c, hc, h⟩ := one_spec h
      have hget : xs[fd.offset]? = some c := by
        have : (xs.drop fd.offset)[0]? = some c := by
          have := congrArg (fun l => l[0]?) hc
          simpa [List.getElem?_take] using this
        simpa using this
      obtain ⟨v, hv, hcR⟩ := hA.at_ _ _ hget
      have hv' : ys[fd.offset]? = some v := by simpa using hv
      exact ⟨_, v, h, hcR, fun w' => by rw [hpart]; simp [part, hag, hv']⟩
    · simp only at h
      obtain ⟨h2, h⟩ := takeF_spec h
      refine ⟨_, .agg (ys.extract fd.offset (fd.offset + m)), h, ⟨_, rfl, ?_⟩, fun w' => by rw [hpart]; simp [part, hag, run_sizeT hsz]⟩
      have := (hA.drop_ fd.offset).take_ m
      simpa [Array.toList_extract, List.extract_eq_take_drop] using this
end
end Go.Vc
