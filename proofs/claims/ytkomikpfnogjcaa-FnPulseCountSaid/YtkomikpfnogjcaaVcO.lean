/- Code: what is asked of it is enough. -/
import Derived.Test.YtkomikpfnogjcaaVcN
import Derived.Test.YtkomikpfnogjcaaVcA
namespace Go.Vc
open Go.RowKit (Below)
section
variable {P : Program} {w0 : World} {cx : Cx} {N : Nat}

structure Rel (w0 : World) (cx : Cx) (N : Nat) (ρ : Ren) (s : S) (a : Act) (w : World) : Prop where
  sz : a.tmps.size = N
  df : a.defers = cx.ds
  env : EnvR ρ s.env a.tmps
  core : Core w0 cx ρ s.H w

def okExit : Exit → Bool
  | .normal => true
  | .exit _ => true
  | .ret => true
  | _ => false
def QK (w0 : World) (cx : Cx) (N : Nat) (K : Exit → S → Prop) (e : Exit) (a : Act) (w : World) : Prop := okExit e = true ∧ ∃ s ρ, K e s ∧ Rel w0 cx N ρ s a w

theorem beq_ne {a b : Nat} (h : a ≠ b) : Nat.beq a b = false := by
  cases hb : Nat.beq a b with
  | false => rfl
  | true => exact absurd (Nat.eq_of_beq_eq_true hb) h
theorem put_env {ρ : Ren} {e : Env} {tmps : Array Value} {d : Nat} {x : AV} {v : Value} (hE : EnvR ρ e tmps) (hd : d < tmps.size) (hR : x.R ρ v) : EnvR ρ ((d, x) :: e) (tmps.setIfInBounds d v) := by
  intro t y hy
  simp only [look] at hy
  by_cases h : d = t
  · subst h
    simp at hy
    subst hy
    exact ⟨v, by simp [hd], hR⟩
  · have hb : Nat.beq d t = false := beq_ne h
    rw [hb, cond_false] at hy
    obtain ⟨u, h1, h2⟩ := hE t y hy
    exact ⟨u, by rw [Array.getElem?_setIfInBounds_ne h]; exact h1, h2⟩
theorem put_spec {ρ : Ren} {s : S} {a : Act} {w : World} {d : Option Nat} {x : AV} {v : Value} {K : S → Prop} (h : put s d x K) (hsz : a.tmps.size = N) (hdf : a.defers = cx.ds) (hE : EnvR ρ s.env a.tmps) (hC : Core w0 cx ρ s.H w) (hd : ∀ k, d = some k → k < N) (hR : x.R ρ v) :
    ∃ s', K s' ∧ Rel w0 cx N ρ s' (a.put d v) w ∧ s'.H = s.H ∧ ∀ k, d = some k → look s'.env k = some x := by
  obtain ⟨e, H⟩ := s
  cases d with
  | none => exact ⟨_, h, ⟨hsz, hdf, hE, hC⟩, rfl, fun k hk => by cases hk⟩
  | some k => exact ⟨_, h, ⟨by simpa [Act.put] using hsz, hdf, put_env hE (by rw [hsz]; exact hd k rfl) hR, hC⟩, rfl, fun k' hk => by cases hk; simp [look]⟩

theorem compG_spec {ops : Array Oper} {o : Oper} {g : G} (h : compG P N ops o = some g) :
    compI P o = some g.i ∧ g.dst = o.dst ∧ (∀ d, o.dst = some d → d < N) ∧ ((o.guard = none ∧ g.gd = none) ∨ ∃ j want t, o.guard = some (j, want) ∧ (ops[j]?).bind (·.dst) = some t ∧ g.gd = some (t, want)) := by
  unfold compG at h
  split at h
  · cases h
  · rename_i i hi
    split at h
    · rename_i hd
      have hdN : ∀ d, o.dst = some d → d < N := fun d he => by rw [he] at hd; exact Nat.le_of_ble_eq_true hd
      split at h
      · rename_i hg
        cases h
        exact ⟨hi, rfl, hdN, .inl ⟨hg, rfl⟩⟩
      · rename_i j want hg
        split at h
        · rename_i t ht
          cases h
          exact ⟨hi, rfl, hdN, .inr ⟨j, want, t, hg, ht, rfl⟩⟩
        · cases h
    · cases h

/-- Guarded operations: carried out or not; what is known of the guard behind. -/
theorem evG_cases {ops : Array Oper} {o : Oper} {g : G} {ρ : Ren} {s : S} {a : Act} {K : S → Prop} (hc : compG P N ops o = some g) (h : evG P w0 g s K) (hE : EnvR ρ s.env a.tmps) :
    (Region.wanted o (yielded ops a.tmps) = true ∧ ∃ e', evI P w0 g.i ⟨e', s.H⟩ (fun x s' => put s' g.dst x K) ∧ EnvR ρ e' a.tmps ∧ (e' = s.env ∨ ∃ t b, e' = (t, .o (.c (.kb b))) :: s.env)) ∨
    (Region.wanted o (yielded ops a.tmps) = false ∧ ∃ e', put ⟨e', s.H⟩ g.dst (.t []) K ∧ EnvR ρ e' a.tmps) := by
  obtain ⟨_, _, _, hg⟩ := compG_spec hc
  unfold evG at h
  rcases hg with ⟨hg, hgd⟩ | ⟨j, want, t, hg, ht, hgd⟩
  · rw [hgd] at h
    exact .inl ⟨by simp [Region.wanted, hg], s.env, h, hE, .inl rfl⟩
  · rw [hgd] at h
    simp only at h
    have hy : ∀ v, a.tmps[t]? = some v → yielded ops a.tmps j = (match v with | .bool b => some b | _ => none) := by
      intro v hv
      simp only [yielded, ht, Option.bind_some, hv]
      cases v <;> rfl
    have hw : Region.wanted o (yielded ops a.tmps) = (yielded ops a.tmps j == some want) := by simp [Region.wanted, hg]
    have hkb : ∀ b v, a.tmps[t]? = some v → v = .bool b → EnvR ρ ((t, .o (.c (.kb b))) :: s.env) a.tmps := by
      intro b v hv hb k y hk
      simp only [look] at hk
      by_cases htk : t = k
      · subst htk
        simp at hk
        subst hk
        exact ⟨v, hv, hb⟩
      · have hbq : Nat.beq t k = false := beq_ne htk
        rw [hbq, cond_false] at hk
        exact hE k y hk
    split at h
    · rename_i b hlk
      obtain ⟨v, hv, hR⟩ := hE t _ hlk
      have hR : v = .bool b := hR
      rw [hw, hy v hv, hR]
      split at h
      · exact .inl ⟨rfl, s.env, h, hE, .inl rfl⟩
      · exact .inl ⟨rfl, s.env, h, hE, .inl rfl⟩
      · exact .inr ⟨rfl, s.env, h, hE⟩
      · exact .inr ⟨rfl, s.env, h, hE⟩
    · rename_i b hlk
      obtain ⟨v, hv, hR⟩ := hE t _ hlk
      have hR : v = .bool b := hR.1
      rw [hw, hy v hv, hR]
      split at h
      · cases b with
        | true => exact .inl ⟨rfl, _, h.1 rfl, hkb true v hv hR, .inr ⟨_, _, rfl⟩⟩
        | false => exact .inr ⟨rfl, _, h.2 rfl, hkb false v hv hR⟩
      · cases b with
        | true => exact .inr ⟨rfl, _, h.1 rfl, hkb true v hv hR⟩
        | false => exact .inl ⟨rfl, _, h.2 rfl, hkb false v hv hR, .inr ⟨_, _, rfl⟩⟩
    · rename_i hlk
      obtain ⟨v, hv, ys, hR, hA⟩ := hE t _ hlk
      rw [hw, hy v hv, hR]
      exact .inr ⟨rfl, s.env, h, hE⟩
    · exact h.elim

theorem undef_R {ρ : Ren} : (AV.t []).R ρ undef := ⟨#[], rfl, .nil⟩

/-! ### Regions in the order of the text -/
theorem evGs_sound {ops : Array Oper} {K : Exit → S → Prop} : ∀ {l : List Oper} {gs : List G} {s : S} {ρ : Ren} {a : Act} {w : World}, compGs P N ops l = some gs → evGs P w0 gs s (K .normal) → Rel w0 cx N ρ s a w → wpList P ops (QK w0 cx N K) l a w
  | [], gs, s, ρ, a, w, hc, h, hR => by
    simp only [compGs, Option.some.injEq] at hc
    subst hc
    exact ⟨rfl, s, ρ, h, hR⟩
  | o :: r, gs, s, ρ, a, w, hc, h, hR => by
    simp only [compGs] at hc
    cases h1 : compG P N ops o with
    | none => simp [h1] at hc
    | some g =>
      cases h2 : compGs P N ops r with
      | none => simp [h1, h2] at hc
      | some l =>
        simp only [h1, h2, Option.some.injEq] at hc
        subst hc
        rw [evGs_cons] at h
        obtain ⟨hi, hdst, hdN, _⟩ := compG_spec h1
        unfold wpList
        rcases evG_cases h1 h hR.env with ⟨hw, e', h, hE, _⟩ | ⟨hw, e', h, hE⟩
        · rw [if_pos hw]
          refine .inl (eok_of (s := ⟨e', s.H⟩) (cx := cx) hE hR.core hi h _ _ fun x s' t v w' hput he hx hC => ?_)
          have hE2 : EnvR (ρ ++ t) s'.env a.tmps := by rw [he]; exact hE.more t
          obtain ⟨s2, hs2, hR2, _⟩ := put_spec hput hR.sz hR.df hE2 hC (fun k hk => hdN k (by rw [← hdst]; exact hk)) hx
          rw [hdst] at hR2
          exact evGs_sound h2 hs2 hR2
        · rw [hw]
          simp only [Bool.false_eq_true, if_false]
          obtain ⟨s2, hs2, hR2, _⟩ := put_spec (v := undef) h hR.sz hR.df hE hR.core (fun k hk => hdN k (by rw [← hdst]; exact hk)) undef_R
          rw [hdst] at hR2
          exact evGs_sound h2 hs2 hR2

/-! ### Regions that draw their order -/
def Lcond (w0 : World) (H : List Blk) (L : List (Nat × CV × Option Nat × A1)) (i : Nat) : Prop :=
  match L.find? (fun p => Nat.beq p.1 i) with
  | some (_, c, n, a) => ld1 w0 H c n fun b => b = a ∧ a.sure = true
  | none => True
theorem chkL_spec {H : List Blk} {L : List (Nat × CV × Option Nat × A1)} : ∀ {l : List Nat}, chkL w0 H l L → ∀ i ∈ l, Lcond w0 H L i
  | [], _, i, hi => by cases hi
  | j :: r, h, i, hi => by
    simp only [chkL] at h
    rcases List.mem_cons.1 hi with rfl | hi
    · exact h.1
    · exact chkL_spec h.2 i hi
/-- What was taken ahead holds again wherever the loads find what they found. -/
def LinkE (w0 : World) (ρ : Ren) (tk : List Nat) (L : List (Nat × CV × Option Nat × A1)) (E : List (Nat × (World → Prop))) : Prop :=
  ∀ p ∈ E, ∀ ρ' H' w', RH w0 ρ' H' w' → (∃ t, ρ' = ρ ++ t) → (p.1 ∈ tk → Lcond w0 H' L p.1) → p.2 w'

theorem evD_sound {ops : Array Oper} {K : Exit → S → Prop} (hsel : Region.noSelect ops = true) : ∀ {n : Nat} {listed : Array Bool} {tk : List Nat} {ds : List DG} {L : List (Nat × CV × Option Nat × A1)} {E : List (Nat × (World → Prop))} {s : S} {ρ : Ren} {a : Act} {w : World},
    planD P N ops n listed tk = some ds → evD P w0 ds L s (K .normal) → Rel w0 cx N ρ s a w → Closed .any ops listed → (∀ p ∈ E, p.2 w) → (∀ p ∈ E, listed.getD p.1 false = true) → LinkE w0 ρ tk L E →
    wpAnyE P .any ops (QK w0 cx N K) n listed E a w := by
  intro n
  have hQ : ∀ (o : Oper) (v : Value) (c : List PanicEntry) (a : Act) (w : World), QK w0 cx N K (.panic c) (a.put o.dst v) w → QK w0 cx N K (.panic c) a w := fun o v c a w h => by cases h.1
  induction n with
  | zero =>
    intro listed tk ds L E s ρ a w hp h hR hcl hE hEl hLk
    simp only [planD] at hp
    split at hp
    · rename_i hr
      cases hp
      exact ⟨hr, rfl, s, ρ, h, hR⟩
    · cases hp
  | succ n ih =>
    intro listed tk ds L E s ρ a w hp h hR hcl hE hEl hLk
    simp only [planD] at hp
    split at hp
    · -- one that is taken first
      rename_i i hfind
      have hmem := List.mem_of_find?_eq_some hfind
      have hqa := List.find?_some hfind
      split at hp
      · rename_i g hg
        obtain ⟨ds', hp', rfl⟩ := map_some hp
        cases ho : ops[i]? with
        | none => simp [ho] at hg
        | some o =>
          have hcg : compG P N ops o = some g := by simpa [ho] using hg
          obtain ⟨hi, hdst, hdN, _⟩ := compG_spec hcg
          simp only [quietAt, hg, Bool.and_eq_true, Bool.or_eq_true, Bool.not_eq_true'] at hqa
          obtain ⟨⟨hq, hld⟩, hfree⟩ := hqa
          rw [evD_quiet] at h
          have hun : listed.getD i true = false := (mem_ready.1 hmem).1
          have hunf : listed.getD i false = false := by
            rcases Nat.lt_or_ge i listed.size with h' | h'
            · simpa [h'] using hun
            · simp [Array.getElem?_eq_none h']
          have hne : ∀ p ∈ E, p.1 ≠ i := fun p hp he => by have := hEl p hp; rw [he, hunf] at this; cases this
          have hlt : i < listed.size := by
            rcases Nat.lt_or_ge i listed.size with h' | h'
            · exact h'
            · simp [Array.getElem?_eq_none h'] at hun
          have hlisted : ∀ (C : World → Prop), ∀ p ∈ (i, C) :: E, (listed.setIfInBounds i true).getD p.1 false = true := by
            intro C p hp
            rcases List.mem_cons.1 hp with rfl | hp
            · simp [hlt]
            · exact getD_set_true (hEl p hp)
          -- what is known of those taken before
          have hkeep : ∀ (L' : List (Nat × CV × Option Nat × A1)) (tk' : List Nat), (∀ p ∈ E, p.1 ∈ tk → p.1 ∈ tk') → (∀ p ∈ E, ∀ H', Lcond w0 H' L' p.1 → Lcond w0 H' L p.1) → LinkE w0 ρ tk' L' E := by
            intro L' tk' h1 h2 p hp ρ' H' w' hRH ht hk
            exact hLk p hp ρ' H' w' hRH ht fun hm => h2 p hp H' (hk (h1 p hp hm))
          have htk : ∀ p ∈ E, p.1 ∈ tk → p.1 ∈ (if g.i.isLd = true then i :: tk else tk) := fun p _ hm => by split <;> simp [hm]
          have hLc : ∀ (l : Option (CV × Option Nat × A1)), ∀ p ∈ E, ∀ H', Lcond w0 H' (match l with | some l => (i, l) :: L | none => L) p.1 → Lcond w0 H' L p.1 := by
            intro l p hp H' hk
            cases l with
            | none => exact hk
            | some l =>
              obtain ⟨c, m, b⟩ := l
              unfold Lcond at hk ⊢
              simp only at hk
              rw [List.find?_cons_of_neg (by simp only; rw [beq_ne (Ne.symm (hne p hp))]; simp)] at hk
              exact hk
          have hkeepE := fun l => hkeep _ _ htk (hLc l)
          have hcons : ∀ (C : World → Prop) (l : Option (CV × Option Nat × A1)), (∀ ρ' H' w', RH w0 ρ' H' w' → (∃ t, ρ' = ρ ++ t) → (i ∈ (if g.i.isLd = true then i :: tk else tk) → Lcond w0 H' (match l with | some l => (i, l) :: L | none => L) i) → C w') →
              LinkE w0 ρ (if g.i.isLd = true then i :: tk else tk) (match l with | some l => (i, l) :: L | none => L) ((i, C) :: E) := by
            intro C l hC p hp
            rcases List.mem_cons.1 hp with rfl | hp
            · exact hC
            · exact hkeepE l p hp
          rcases evG_cases hcg h hR.env with ⟨hw, e', h, hE', he'⟩ | ⟨hw, e', h, hE'⟩
          · obtain ⟨x, v, C, hput, hx, hCw, hrun, hback⟩ := quiet_of (s := ⟨e', s.H⟩) (cx := cx) hE' hR.core hi hq h
            obtain ⟨s2, hs2, hR2, hH2, hlook⟩ := put_spec hput hR.sz hR.df hE' hR.core (fun k hk => hdN k (by rw [← hdst]; exact hk)) hx
            rw [hdst] at hR2
            have hy : YieldsIf P ops C o v a := .inl ⟨hw, hrun⟩
            refine wpAnyE_take ho hsel hcl hfree (by simpa using hmem) (hQ o v) hy hCw hE ?_
            refine ih hp' hs2 hR2 (hcl.set hmem) (fun p hp => ?_) (hlisted C) (hcons C _ fun ρ' H' w' hRH ht hk => hback ρ' H' w' hRH ht fun y m c z hgi hyc hcv hxz => ?_)
            · rcases List.mem_cons.1 hp with rfl | hp
              · exact hCw
              · exact hE p hp
            · -- a load: it was written down
              have hisld : g.i.isLd = true := by rw [hgi]; rfl
              have hlk := hk (by simp [hisld])
              have hds : g.dst.isSome = true := by rcases hld with h | h <;> first | (rw [hisld] at h; cases h) | exact h
              obtain ⟨d, hd⟩ := Option.isSome_iff_exists.1 hds
              have hyc2 : y.get s.env = some (.o (.c c)) := by
                rcases he' with rfl | ⟨t, b, rfl⟩
                · exact hyc
                · cases y with
                  | k u => cases u <;> exact hyc
                  | t q =>
                    simp only [X.get, look] at hyc ⊢
                    by_cases htq : t = q
                    · subst htq
                      simp at hyc
                      subst hyc
                      rw [hgi] at h
                      simp [evI, getC, X.get, look, CV.norm, ld1] at h
                      cases m <;> exact h.elim
                    · rw [beq_ne htq, cond_false] at hyc
                      exact hyc
              have hl2 := hlook d hd
              rw [hxz] at hl2
              have hldof : ldOf g s s2 = some (c, m, z) := by
                unfold ldOf
                rw [hgi, hd]
                simp only [hyc2, hl2]
                cases c <;> first | rfl | cases hcv
              rw [hldof] at hlk
              simp only [Lcond, List.find?_cons, Nat.beq_refl] at hlk
              exact hlk
          · obtain ⟨s2, hs2, hR2, hH2, hlook⟩ := put_spec (v := undef) h hR.sz hR.df hE' hR.core (fun k hk => hdN k (by rw [← hdst]; exact hk)) undef_R
            rw [hdst] at hR2
            have hy : YieldsIf P ops (fun _ => True) o undef a := .inr ⟨hw, rfl⟩
            refine wpAnyE_take ho hsel hcl hfree (by simpa using hmem) (hQ o undef) hy trivial hE ?_
            refine ih hp' hs2 hR2 (hcl.set hmem) (fun p hp => ?_) (hlisted _) (hcons _ _ fun _ _ _ _ _ _ => trivial)
            rcases List.mem_cons.1 hp with rfl | hp
            · trivial
            · exact hE p hp
      · cases hp
    · -- one that writes: no other may come up
      rename_i hfind
      split at hp
      · rename_i hr
        cases hp
        exact wpAnyE_done hr ⟨rfl, s, ρ, h, hR⟩ _
      · rename_i j hr
        split at hp
        · rename_i g hg
          obtain ⟨ds', hp', rfl⟩ := map_some hp
          cases ho : ops[j]? with
          | none => simp [ho] at hg
          | some o =>
            have hcg : compG P N ops o = some g := by simpa [ho] using hg
            obtain ⟨hi, hdst, hdN, _⟩ := compG_spec hcg
            rw [evD_loud] at h
            have hmem : j ∈ Region.ready .any ops listed := by rw [hr]; simp
            have hElj : ∀ p ∈ owed .any ops j E, (listed.setIfInBounds j true).getD p.1 false = true := fun p hp => getD_set_true (hEl p (List.mem_filter.1 hp).1)
            have hmtk : ∀ p ∈ owed .any ops j E, p.1 ∈ tk → p.1 ∈ tk.filter fun i => !waitsN .any ops ops.size j i := fun p hp hm => List.mem_filter.2 ⟨hm, (List.mem_filter.1 hp).2⟩
            refine wpAnyE_one hr ?_
            unfold wpOp
            rw [ho]
            simp only
            rcases evG_cases hcg h hR.env with ⟨hw, e', h, hE', _⟩ | ⟨hw, e', h, hE'⟩
            · rw [if_pos hw]
              refine .inl (eok_of (s := ⟨e', s.H⟩) (cx := cx) hE' hR.core hi h _ _ fun x s' t v w' hput he hx hC => ?_)
              have hE2 : EnvR (ρ ++ t) s'.env a.tmps := by rw [he]; exact hE'.more t
              obtain ⟨s2, ⟨hchk, hs2⟩, hR2, hH2, _⟩ := put_spec hput hR.sz hR.df hE2 hC (fun k hk => hdN k (by rw [← hdst]; exact hk)) hx
              rw [hdst] at hR2
              have hall := chkL_spec hchk
              have hEw : ∀ p ∈ owed .any ops j E, p.2 w' := fun p hp => hLk p (List.mem_filter.1 hp).1 (ρ ++ t) s2.H w' hR2.core.rh ⟨t, rfl⟩ fun hm => hall _ (hmtk p hp hm)
              refine ⟨hEw, ih hp' hs2 hR2 (hcl.set hmem) hEw hElj fun p hp ρ' H' w'' hRH ht hk => ?_⟩
              obtain ⟨t2, ht2⟩ := ht
              exact hLk p (List.mem_filter.1 hp).1 ρ' H' w'' hRH ⟨t ++ t2, by rw [ht2, List.append_assoc]⟩ fun hm => hk (hmtk p hp hm)
            · rw [hw]
              simp only [Bool.false_eq_true, if_false]
              obtain ⟨s2, ⟨hchk, hs2⟩, hR2, hH2, _⟩ := put_spec (v := undef) h hR.sz hR.df hE' hR.core (fun k hk => hdN k (by rw [← hdst]; exact hk)) undef_R
              rw [hdst] at hR2
              have hEw : ∀ p ∈ owed .any ops j E, p.2 w := fun p hp => hE p (List.mem_filter.1 hp).1
              refine ⟨hEw, ih hp' hs2 hR2 (hcl.set hmem) hEw hElj fun p hp ρ' H' w'' hRH ht hk => ?_⟩
              exact hLk p (List.mem_filter.1 hp).1 ρ' H' w'' hRH ht fun hm => hk (hmtk p hp hm)
        · cases hp
      · cases hp
end
end Go.Vc
