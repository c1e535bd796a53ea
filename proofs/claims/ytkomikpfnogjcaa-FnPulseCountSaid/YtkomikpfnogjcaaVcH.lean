/- Structs that are built; what an operation that writes leaves. -/
import Derived.Test.YtkomikpfnogjcaaVcG
namespace Go.Vc
open Go.RowKit (Below)
section
variable {P : Program} {w0 : World} {ρ : Ren} {s : S} {K : AV → S → Prop} {a : Act} {o : Oper}

theorem A1.R.cells {y : A1} {v : Value} (h : y.R ρ v) : All2 (CV.R ρ) y.cells v.cells.toList := by
  cases y with
  | c x =>
    have h1 := CV.R.one h
    have h2 : v.cells = #[v] := by cases v <;> first | rfl | cases h1
    rw [h2]
    exact .cons h .nil
  | a xs =>
    obtain ⟨ys, rfl, h⟩ := h
    exact h
theorem A1.R.size {y : A1} {v : Value} (h : y.R ρ v) : v.cells.size = y.cells.length := by rw [h.cells.length]; simp

theorem fill_list : ∀ (l : List Value) (cells : Array Value) (off k : Nat), off + k + l.length ≤ cells.size →
    ((l.zipIdx k).foldl (fun cs p => cs.setIfInBounds (off + p.2) p.1) cells).toList = cells.toList.take (off + k) ++ (l ++ cells.toList.drop (off + k + l.length))
  | [], cells, off, k, h => by simp
  | v :: l, cells, off, k, h => by
    simp only [List.zipIdx_cons, List.foldl_cons]
    have hlt : off + k < cells.toList.length := by simp at h ⊢; omega
    rw [fill_list l _ off (k + 1) (by simp at h ⊢; omega)]
    have e1 : off + (k + 1) = (off + k) + 1 := by omega
    rw [e1, Array.toList_setIfInBounds]
    have e2 : (cells.toList.set (off + k) v).take (off + k + 1) = cells.toList.take (off + k) ++ [v] := by
      rw [List.take_succ_eq_append_getElem (by simpa using hlt)]
      simp [List.take_set_of_le]
    have e3 : (cells.toList.set (off + k) v).drop (off + k + 1 + l.length) = cells.toList.drop (off + k + (v :: l).length) := by
      rw [List.drop_set_of_lt (by omega)]
      congr 1
      simp
      omega
    rw [e2, e3]
    simp

theorem fill_sound (hE : EnvR ρ s.env a.tmps) {place : Nat → Option (Nat × Nat)} : ∀ {ps : List (Nat × Operand)} {parts : List (Nat × Nat × X)} {z : List CV} {cells : Array Value} {k : List CV → Prop},
    compParts place ps = some parts → fillF z parts s.env k → All2 (CV.R ρ) z cells.toList →
    ∃ z' cells', k z' ∧ All2 (CV.R ρ) z' cells'.toList ∧ Instr.fill place cells (ps.map fun p => (p.1, a.eval p.2)) = some cells'
  | [], parts, z, cells, k, hp, h, hA => by
    simp only [compParts, Option.some.injEq] at hp
    subst hp
    exact ⟨z, cells, h, hA, rfl⟩
  | (i, x) :: r, parts, z, cells, k, hp, h, hA => by
    simp only [compParts] at hp
    cases h1 : place i with
    | none => simp [h1] at hp
    | some on =>
      obtain ⟨off, n⟩ := on
      cases h2 : compX x with
      | none => simp [h1, h2] at hp
      | some y =>
        cases h3 : compParts place r with
        | none => simp [h1, h2, h3] at hp
        | some l =>
          simp only [h1, h2, h3, Option.some.injEq] at hp
          subst hp
          simp only [fillF] at h
          obtain ⟨v, h, hR⟩ := get1_R hE h2 h
          obtain ⟨hn, h⟩ := chk_spec h
          have hn : v.cells.length = n := by simpa using hn
          obtain ⟨hle, h⟩ := putF_spec h
          have hsz := hR.size
          have hcs := hA.length
          have hA2 : All2 (CV.R ρ) (z.take off ++ (v.cells ++ z.drop (off + v.cells.length))) ((a.eval x).cells.zipIdx.foldl (fun cs (c, j) => cs.setIfInBounds (off + j) c) cells).toList := by
            have e := fill_list (a.eval x).cells.toList cells off 0 (by simp at hcs ⊢; omega)
            have e2 : (a.eval x).cells.zipIdx.foldl (fun cs (c, j) => cs.setIfInBounds (off + j) c) cells = ((a.eval x).cells.toList.zipIdx 0).foldl (fun cs p => cs.setIfInBounds (off + p.2) p.1) cells := by
              rw [← Array.foldl_toList]
              simp
            rw [e2, e]
            have hl : v.cells.length = (a.eval x).cells.toList.length := by simp [hsz]
            rw [hl]
            exact (hA.take_ _).append (hR.cells.append (by simpa using hA.drop_ (off + (a.eval x).cells.toList.length)))
          obtain ⟨z', cells', hk, hA3, hf⟩ := fill_sound hE h3 h hA2
          refine ⟨z', cells', hk, hA3, ?_⟩
          simp only [List.map_cons, Instr.fill, h1]
          have hc1 : (decide ((a.eval x).cells.size ≠ n) || decide (off + (a.eval x).cells.size > cells.size)) = false := by
            simp at hcs
            simp only [Bool.or_eq_false_iff, decide_eq_false_iff_not]
            exact ⟨by omega, by omega⟩
          rw [hc1]
          exact hf

theorem zeroT_spec {t : TypeId} {z : List Value} (h : zeroT P t = some z) : (∀ u ∈ z, u.oneCell' = true) ∧ ∃ v, v.cells.toList = z ∧ ∀ w, (zeroValue t).run P w = .ok v w := by
  unfold zeroT at h
  split at h
  · rename_i v hv
    split at h
    · rename_i h1
      simp only [Option.some.injEq] at h
      subst h
      refine ⟨fun u hu => ?_, v, rfl, fun w => ?_⟩
      · exact List.all_eq_true.1 h1 u hu
      · cases hi : P.info? t with
        | none => simp [hi] at hv
        | some i =>
          simp only [hi, Option.bind_some] at hv
          simp [zeroValue, typeInfo, hi, hv]
    · cases h
  · cases h
theorem zero_R {z : List Value} (h : ∀ u ∈ z, u.oneCell' = true) : All2 (CV.R ρ) (z.map .val) z := by
  induction z with
  | nil => exact .nil
  | cons u r ih => exact .cons ⟨rfl, h u (by simp)⟩ (ih fun v hv => h v (by simp [hv]))
theorem placesOf_spec : ∀ {fs : List Field} {pl : List (Nat × Nat)}, placesOf P fs = some pl → ∀ w, (fs.mapM fun f => do pure (f.offset, ← sizeOf f.type) : Sem (List (Nat × Nat))).run P w = .ok pl w
  | [], pl, h, w => by simp only [placesOf, Option.some.injEq] at h; subst h; rfl
  | f :: r, pl, h, w => by
    simp only [placesOf] at h
    cases h1 : sizeT P f.type with
    | none => simp [h1] at h
    | some n =>
      cases h2 : placesOf P r with
      | none => simp [h1, h2] at h
      | some l =>
        simp only [h1, h2, Option.some.injEq] at h
        subst h
        have := placesOf_spec h2 w
        simp only [List.mapM_cons, Sem.run_bind, run_sizeT h1, Result.andThen_ok, Sem.run_pure, this]

theorem q_bld_struct (hE : EnvR ρ s.env a.tmps) {t : TypeId} {ps : Array (Nat × Operand)} {fs : Array Field} {z : List Value} {pl : List (Nat × Nat)} {parts : List (Nat × Nat × X)} (hop : o.op = .build t ps) (hu : P.underlying t = some (.struct fs))
    (hz : zeroT P t = some z) (hpl : placesOf P fs.toList = some pl) (hp : compParts (pl[·]?) ps.toList = some parts) (h : evI P w0 (.bld z parts) s K) : QOk P o a ρ s K := by
  simp only [evI] at h
  have h := mapF_spec h
  obtain ⟨h1, v, hv, hzr⟩ := zeroT_spec hz
  obtain ⟨z', cells', hk, hA, hf⟩ := fill_sound hE hp h (cells := v.cells) (by rw [hv]; exact zero_R h1)
  refine ⟨_, .agg cells', hk, ⟨_, rfl, hA⟩, fun w' => ?_⟩
  have hpm := placesOf_spec hpl w'
  simp only [execOp, hop, Instr.build, Sem.run_bind, hzr, Result.andThen_ok, run_underlying hu, Array.mapM_eq_mapM_toList, Sem.run_map, hpm, Array.toList_map]
  have e : (fun (x : Nat) => (pl.toArray)[x]?) = (fun x => pl[x]?) := by funext x; simp
  rw [e]
  have e2 : List.map (fun x : Nat × Operand => (x.1, a.eval x.2)) ps.toList = ps.toList.map fun p => (p.1, a.eval p.2) := rfl
  simp only [hf, Sem.run_pure, Result.andThen_ok]
theorem q_bld_array (hE : EnvR ρ s.env a.tmps) {t e : TypeId} {len n : Nat} {ps : Array (Nat × Operand)} {z : List Value} {parts : List (Nat × Nat × X)} (hop : o.op = .build t ps) (hu : P.underlying t = some (.array len e))
    (hz : zeroT P t = some z) (hs : sizeT P e = some n) (hp : compParts (fun i => some (i * n, n)) ps.toList = some parts) (h : evI P w0 (.bld z parts) s K) : QOk P o a ρ s K := by
  simp only [evI] at h
  have h := mapF_spec h
  obtain ⟨h1, v, hv, hzr⟩ := zeroT_spec hz
  obtain ⟨z', cells', hk, hA, hf⟩ := fill_sound hE hp h (cells := v.cells) (by rw [hv]; exact zero_R h1)
  refine ⟨_, .agg cells', hk, ⟨_, rfl, hA⟩, fun w' => ?_⟩
  simp only [execOp, hop, Instr.build, Sem.run_bind, hzr, Result.andThen_ok, run_underlying hu, run_sizeT hs, Array.toList_map, hf, Sem.run_pure]

/-! ### Writing operations: what they leave -/
variable {cx : Cx} {w : World}
/-- What an operation leaves, for 'K' to go on with. -/
def EOk (P : Program) (w0 : World) (cx : Cx) (o : Oper) (a : Act) (ρ : Ren) (s : S) (K : AV → S → Prop) (w : World) : Prop :=
  ∀ (next : Act → World → Prop) (Q : Exit → Act → World → Prop), (∀ x s' t v w', K x s' → s'.env = s.env → x.R (ρ ++ t) v → Core w0 cx (ρ ++ t) s'.H w' → next (a.put o.dst v) w') → o.wp P a w next Q

theorem eok_of_run (h : ∃ x s' t v w', K x s' ∧ s'.env = s.env ∧ x.R (ρ ++ t) v ∧ Core w0 cx (ρ ++ t) s'.H w' ∧ (execOp a.eval o).run P w = .ok (.value v) w') : EOk P w0 cx o a ρ s K w := by
  intro next Q hn
  obtain ⟨x, s', t, v, w', hK, he, hR, hC, hr⟩ := h
  unfold Oper.wp
  rw [hr]
  exact hn x s' t v w' hK he hR hC
theorem eok_of_skip (h : ∃ s' t w', K (.t []) s' ∧ s'.env = s.env ∧ Core w0 cx (ρ ++ t) s'.H w' ∧ (execOp a.eval o).run P w = .ok .skip w') : EOk P w0 cx o a ρ s K w := by
  intro next Q hn
  obtain ⟨s', t, w', hK, he, hC, hr⟩ := h
  unfold Oper.wp
  rw [hr]
  exact hn (.t []) s' t undef w' hK he ⟨#[], rfl, .nil⟩ hC
end
end Go.Vc
