/- Lemmas on how values and blocks are told: more blocks, other numbers. -/
import Derived.Test.YtkomikpfnogjcaaVcC
namespace Go.Vc
open Go.RowKit (Below)

/-! ### Lists that go together -/
namespace All2
variable {α β γ : Type} {R R' : α → β → Prop}
theorem mono (h : ∀ a b, R a b → R' a b) {l m} (hl : All2 R l m) : All2 R' l m := by
  induction hl with
  | nil => exact .nil
  | cons ha _ ih => exact .cons (h _ _ ha) ih
theorem length {l m} (h : All2 R l m) : l.length = m.length := by
  induction h with
  | nil => rfl
  | cons _ _ ih => simp [ih]
theorem append {l m l' m'} (h : All2 R l m) (h' : All2 R l' m') : All2 R (l ++ l') (m ++ m') := by
  induction h with
  | nil => exact h'
  | cons ha _ ih => exact .cons ha ih
theorem at_ {l m} (h : All2 R l m) : ∀ (i : Nat) a, l[i]? = some a → ∃ b, m[i]? = some b ∧ R a b := by
  induction h with
  | nil => intro i a h; simp at h
  | cons ha _ ih =>
    intro i a h
    cases i with
    | zero => simp at h; subst h; exact ⟨_, rfl, ha⟩
    | succ i => simpa using ih i a (by simpa using h)
theorem map_left {f : γ → α} {l m} (h : All2 (fun c b => R (f c) b) l m) : All2 R (l.map f) m := by
  induction h with
  | nil => exact .nil
  | cons ha _ ih => exact .cons ha ih
theorem of_map_left {f : γ → α} {l : List γ} {m} (h : All2 R (l.map f) m) : All2 (fun c b => R (f c) b) l m := by
  induction l generalizing m with
  | nil => cases h; exact .nil
  | cons c l ih => cases h with | cons ha hr => exact .cons ha (ih hr)
theorem split_ {l l' : List α} {m : List β} (h : All2 R (l ++ l') m) : ∃ m1 m2, m = m1 ++ m2 ∧ All2 R l m1 ∧ All2 R l' m2 := by
  induction l generalizing m with
  | nil => exact ⟨[], m, rfl, .nil, h⟩
  | cons c l ih =>
    cases h with
    | cons ha hr =>
      obtain ⟨m1, m2, rfl, h1, h2⟩ := ih hr
      exact ⟨_ :: m1, m2, rfl, .cons ha h1, h2⟩
theorem set_ {l m} (h : All2 R l m) {i : Nat} {a b} (hab : R a b) : All2 R (l.set i a) (m.set i b) := by
  induction h generalizing i with
  | nil => exact .nil
  | cons ha hl ih =>
    cases i with
    | zero => exact .cons hab hl
    | succ i => exact .cons ha ih
theorem drop_ {l m} (h : All2 R l m) (n : Nat) : All2 R (l.drop n) (m.drop n) := by
  induction h generalizing n with
  | nil => cases n <;> exact .nil
  | cons ha hl ih =>
    cases n with
    | zero => exact .cons ha hl
    | succ n => exact ih n
theorem take_ {l m} (h : All2 R l m) (n : Nat) : All2 R (l.take n) (m.take n) := by
  induction h generalizing n with
  | nil => cases n <;> exact .nil
  | cons ha hl ih =>
    cases n with
    | zero => exact .nil
    | succ n => exact .cons ha (ih n)
end All2

/-! ### More blocks -/
theorem Ren.at_append {ρ t : Ren} {b : Nat} {g : Nat} (h : ρ.at b = some g) : Ren.at (ρ ++ t) b = some g := by
  unfold Ren.at at *
  cases hb : ρ[b]? with
  | none => rw [hb] at h; cases h
  | some e =>
    rw [hb] at h
    rw [List.getElem?_append_left (List.getElem?_eq_some_iff.1 hb).1, hb]
    exact h
theorem getElem?_app {α : Type} {l t : List α} {b : Nat} {e : α} (h : l[b]? = some e) : (l ++ t)[b]? = some e := by
  rw [List.getElem?_append_left (List.getElem?_eq_some_iff.1 h).1, h]
theorem CV.R.more {ρ : Ren} (t : Ren) {c : CV} {v : Value} (h : c.R ρ v) : c.R (ρ ++ t) v := by
  cases c <;> simp only [CV.R] at h ⊢
  case vec b n =>
    obtain ⟨e, he, h⟩ := h
    exact ⟨e, getElem?_app he, h⟩
  case clo g caps =>
    obtain ⟨vs, hv, h⟩ := h
    exact ⟨vs, hv, h.mono fun a b ⟨x, hx, hb⟩ => ⟨x, Ren.at_append hx, hb⟩⟩
  all_goals first
    | exact h
    | (obtain ⟨g, hg, h⟩ := h; exact ⟨g, Ren.at_append hg, h⟩)
theorem A1.R.more {ρ : Ren} (t : Ren) {c : A1} {v : Value} (h : c.R ρ v) : c.R (ρ ++ t) v := by
  cases c with
  | c x => exact CV.R.more t h
  | a xs => obtain ⟨ys, hv, h⟩ := h; exact ⟨ys, hv, h.mono fun _ _ => CV.R.more t⟩
theorem AV.R.more {ρ : Ren} (t : Ren) {c : AV} {v : Value} (h : c.R ρ v) : c.R (ρ ++ t) v := by
  cases c with
  | o x => exact A1.R.more t h
  | t xs => obtain ⟨ys, hv, h⟩ := h; exact ⟨ys, hv, h.mono fun _ _ => A1.R.more t⟩

theorem CV.R.norm {ρ : Ren} {c : CV} {v : Value} (h : c.R ρ v) : c.norm.R ρ v := by
  cases c <;> first | exact h | (simp only [CV.R] at h; subst h; exact ⟨rfl, rfl⟩)
theorem A1.R.norm {ρ : Ren} {c : A1} {v : Value} (h : c.R ρ v) : c.norm.R ρ v := by
  cases c with
  | c x => exact CV.R.norm h
  | a xs => exact h

theorem CV.R.one {ρ : Ren} {c : CV} {v : Value} (h : c.R ρ v) : v.oneCell' = true := by
  cases c <;> simp only [CV.R] at h
  case val x => obtain ⟨rfl, h⟩ := h; exact h
  case ptr => obtain ⟨_, _, rfl⟩ := h; rfl
  case row => obtain ⟨_, _, rfl⟩ := h; rfl
  case sli => obtain ⟨_, _, rfl, _⟩ := h; rfl
  case vec => obtain ⟨_, _, h⟩ := h; rcases h with ⟨_, _, rfl, _⟩ | ⟨_, _, rfl⟩ <;> rfl
  case clo => obtain ⟨_, rfl, _⟩ := h; rfl
  case ifc => obtain ⟨_, _, rfl⟩ := h; rfl
  case kb => subst h; rfl
  case any => exact h

theorem CV.R.same {ρ : Ren} {c : CV} {v u : Value} (hs : c.sure = true) (h : c.R ρ v) (k : c.R ρ u) : v = u := by
  cases c <;> simp only [CV.R] at h k
  case val x => rw [h.1, k.1]
  case ptr => obtain ⟨g, hg, rfl⟩ := h; obtain ⟨g', hg', rfl⟩ := k; rw [hg] at hg'; cases hg'; rfl
  case row => obtain ⟨g, hg, rfl⟩ := h; obtain ⟨g', hg', rfl⟩ := k; rw [hg] at hg'; cases hg'; rfl
  case sli => obtain ⟨g, hg, rfl, _⟩ := h; obtain ⟨g', hg', rfl, _⟩ := k; rw [hg] at hg'; cases hg'; rfl
  case ifc => obtain ⟨g, hg, rfl⟩ := h; obtain ⟨g', hg', rfl⟩ := k; rw [hg] at hg'; cases hg'; rfl
  case vec =>
    obtain ⟨e, he, h⟩ := h
    obtain ⟨e', he', k⟩ := k
    rw [he] at he'
    cases he'
    rcases h with ⟨g, hg, rfl, _⟩ | ⟨hg, _, rfl⟩ <;> rcases k with ⟨g', hg', rfl, _⟩ | ⟨hg', _, rfl⟩
    · rw [hg] at hg'; cases hg'; rfl
    · rw [hg] at hg'; cases hg'
    · rw [hg] at hg'; cases hg'
    · rfl
  case clo g caps =>
    obtain ⟨vs, rfl, h⟩ := h
    obtain ⟨us, rfl, k⟩ := k
    congr 1
    apply Array.toList_inj.1
    clear hs
    generalize vs.toList = l at h
    generalize us.toList = m at k
    induction h generalizing m with
    | nil => cases k; rfl
    | cons ha _ ih =>
      cases k with
      | cons hb hk =>
        obtain ⟨x, hx, rfl⟩ := ha
        obtain ⟨y, hy, rfl⟩ := hb
        rw [hx] at hy
        cases hy
        rw [ih _ hk]
  case kb => rw [h, k]
  case any => simp [CV.sure] at hs

/-! ### Other numbers -/
def Ren.sub (ρ : Ren) (σ : List Nat) : Ren := σ.map fun i => ρ.getD i (none, 0)
theorem Ren.sub_get {ρ : Ren} {σ : List Nat} {b i : Nat} (h : σ[b]? = some i) : (ρ.sub σ)[b]? = some (ρ.getD i (none, 0)) := by
  simp [Ren.sub, h]
theorem Ren.sub_at {ρ : Ren} {σ : List Nat} {b i : Nat} (h : σ[b]? = some i) : (ρ.sub σ).at b = ρ.at i := by
  unfold Ren.at
  rw [Ren.sub_get h]
  cases hi : ρ[i]? with
  | none => simp [List.getD_eq_getElem?_getD, hi]
  | some e => simp [List.getD_eq_getElem?_getD, hi]
theorem Ren.sub_at' {ρ : Ren} {σ : List Nat} {b g : Nat} (h : (ρ.sub σ).at b = some g) : ∃ i, σ[b]? = some i ∧ ρ.at i = some g := by
  cases hb : σ[b]? with
  | none => simp [Ren.at, Ren.sub, hb] at h
  | some i => exact ⟨i, rfl, by rw [← Ren.sub_at hb]; exact h⟩

theorem renC_R {ρ : Ren} {σ : List Nat} : ∀ (caps l : List (Nat × Nat)) (vs : List Value), renC σ caps = some l →
    All2 (fun (c : Nat × Nat) v => ∃ h, ρ.at c.1 = some h ∧ v = Value.pointer (some ⟨h, c.2, none⟩)) l vs →
    All2 (fun (c : Nat × Nat) v => ∃ h, (ρ.sub σ).at c.1 = some h ∧ v = Value.pointer (some ⟨h, c.2, none⟩)) caps vs
  | [], l, vs, h, k => by simp [renC] at h; subst h; cases k; exact .nil
  | (b, o) :: r, l, vs, h, k => by
    simp only [renC] at h
    cases hb : σ[b]? with
    | none => simp [hb] at h
    | some i =>
      cases hr : renC σ r with
      | none => simp [hb, hr] at h
      | some l' =>
        simp only [hb, hr, Option.some.injEq] at h
        subst h
        cases k with
        | cons ha hk =>
          obtain ⟨x, hx, rfl⟩ := ha
          exact .cons ⟨x, by rw [Ren.sub_at hb]; exact hx, rfl⟩ (renC_R r l' _ hr hk)

/-- A value told in other numbers is the one told in these. -/
theorem CV.R.of_ren {ρ : Ren} {σ : List Nat} {c : CV} {v : Value} (h : (c.ren σ).R ρ v) : c.R (ρ.sub σ) v := by
  cases c with
  | val x => exact h
  | kb b => exact h
  | any => exact h
  | bad => exact h
  | ptr b o =>
    simp only [CV.ren] at h
    cases hb : σ[b]? with
    | none => simp [hb, CV.R] at h
    | some i => simp only [hb, CV.R] at h ⊢; rw [Ren.sub_at hb]; exact h
  | row b wd k j =>
    simp only [CV.ren] at h
    cases hb : σ[b]? with
    | none => simp [hb, CV.R] at h
    | some i => simp only [hb, CV.R] at h ⊢; rw [Ren.sub_at hb]; exact h
  | sli b wd o n c =>
    simp only [CV.ren] at h
    cases hb : σ[b]? with
    | none => simp [hb, CV.R] at h
    | some i => simp only [hb, CV.R] at h ⊢; rw [Ren.sub_at hb]; exact h
  | ifc t b o =>
    simp only [CV.ren] at h
    cases hb : σ[b]? with
    | none => simp [hb, CV.R] at h
    | some i => simp only [hb, CV.R] at h ⊢; rw [Ren.sub_at hb]; exact h
  | vec b n =>
    simp only [CV.ren] at h
    cases hb : σ[b]? with
    | none => simp [hb, CV.R] at h
    | some i =>
      simp only [hb, CV.R] at h ⊢
      obtain ⟨e, he, h⟩ := h
      refine ⟨e, ?_, h⟩
      rw [Ren.sub_get hb, List.getD_eq_getElem?_getD, he]
      rfl
  | clo g caps =>
    simp only [CV.ren] at h
    cases hc : renC σ caps with
    | none => simp [hc, CV.R] at h
    | some l =>
      simp only [hc, CV.R] at h ⊢
      obtain ⟨vs, hv, h⟩ := h
      exact ⟨vs, hv, renC_R _ _ _ hc h⟩
theorem A1.R.of_ren {ρ : Ren} {σ : List Nat} {c : A1} {v : Value} (h : (c.ren σ).R ρ v) : c.R (ρ.sub σ) v := by
  cases c with
  | c x => exact CV.R.of_ren h
  | a xs => obtain ⟨ys, hv, h⟩ := h; exact ⟨ys, hv, h.of_map_left.mono fun _ _ => CV.R.of_ren⟩
theorem AV.R.of_ren {ρ : Ren} {σ : List Nat} {c : AV} {v : Value} (h : (c.ren σ).R ρ v) : c.R (ρ.sub σ) v := by
  cases c with
  | o x => exact A1.R.of_ren h
  | t xs => obtain ⟨ys, hv, h⟩ := h; exact ⟨ys, hv, h.of_map_left.mono fun _ _ => A1.R.of_ren⟩

theorem renC_R' {ρ : Ren} {σ : List Nat} : ∀ (caps : List (Nat × Nat)) (vs : List Value),
    All2 (fun (c : Nat × Nat) v => ∃ h, (ρ.sub σ).at c.1 = some h ∧ v = Value.pointer (some ⟨h, c.2, none⟩)) caps vs →
    ∃ l, renC σ caps = some l ∧ All2 (fun (c : Nat × Nat) v => ∃ h, ρ.at c.1 = some h ∧ v = Value.pointer (some ⟨h, c.2, none⟩)) l vs
  | [], vs, k => by cases k; exact ⟨[], rfl, .nil⟩
  | (b, o) :: r, vs, k => by
    cases k with
    | cons ha hk =>
      obtain ⟨x, hx, rfl⟩ := ha
      obtain ⟨i, hi, hx⟩ := Ren.sub_at' hx
      obtain ⟨l, hl, hr⟩ := renC_R' r _ hk
      exact ⟨(i, o) :: l, by simp [renC, hi, hl], .cons ⟨x, hx, rfl⟩ hr⟩

/-- And back, where all numbers are numbers of blocks. -/
theorem CV.R.ren {ρ : Ren} {σ : List Nat} (hσ : ∀ i ∈ σ, i < ρ.length) {c : CV} {v : Value} (h : c.R (ρ.sub σ) v) : (c.ren σ).R ρ v := by
  cases c with
  | val x => exact h
  | kb b => exact h
  | any => exact h
  | bad => exact h
  | ptr b o => obtain ⟨g, hg, h⟩ := h; obtain ⟨i, hi, hg⟩ := Ren.sub_at' hg; simp only [CV.ren, hi]; exact ⟨g, hg, h⟩
  | row b wd k j => obtain ⟨g, hg, h⟩ := h; obtain ⟨i, hi, hg⟩ := Ren.sub_at' hg; simp only [CV.ren, hi]; exact ⟨g, hg, h⟩
  | sli b wd o n c => obtain ⟨g, hg, h⟩ := h; obtain ⟨i, hi, hg⟩ := Ren.sub_at' hg; simp only [CV.ren, hi]; exact ⟨g, hg, h⟩
  | ifc t b o => obtain ⟨g, hg, h⟩ := h; obtain ⟨i, hi, hg⟩ := Ren.sub_at' hg; simp only [CV.ren, hi]; exact ⟨g, hg, h⟩
  | vec b n =>
    obtain ⟨e, he, h⟩ := h
    cases hb : σ[b]? with
    | none => simp [Ren.sub, hb] at he
    | some i =>
      rw [Ren.sub_get hb] at he
      simp only [Option.some.injEq] at he
      simp only [CV.ren, hb]
      refine ⟨e, ?_, h⟩
      have hl := hσ i (List.mem_of_getElem? hb)
      rw [← he, List.getD_eq_getElem?_getD, List.getElem?_eq_getElem hl]
      rfl
  | clo g caps =>
    obtain ⟨vs, hv, h⟩ := h
    obtain ⟨l, hl, h⟩ := renC_R' _ _ h
    simp only [CV.ren, hl]
    exact ⟨vs, hv, h⟩
theorem A1.R.ren {ρ : Ren} {σ : List Nat} (hσ : ∀ i ∈ σ, i < ρ.length) {c : A1} {v : Value} (h : c.R (ρ.sub σ) v) : (c.ren σ).R ρ v := by
  cases c with
  | c x => exact CV.R.ren hσ h
  | a xs => obtain ⟨ys, hv, h⟩ := h; exact ⟨ys, hv, (h.mono fun _ _ => CV.R.ren hσ).map_left⟩
theorem AV.R.ren {ρ : Ren} {σ : List Nat} (hσ : ∀ i ∈ σ, i < ρ.length) {c : AV} {v : Value} (h : c.R (ρ.sub σ) v) : (c.ren σ).R ρ v := by
  cases c with
  | o x => exact A1.R.ren hσ h
  | t xs => obtain ⟨ys, hv, h⟩ := h; exact ⟨ys, hv, (h.mono fun _ _ => A1.R.ren hσ).map_left⟩

theorem renB_spec {σ : List Nat} : ∀ {bs l : List Nat}, renB σ bs = some l → bs.length = l.length ∧ ∀ k, k < bs.length → σ[bs.getD k 0]? = some (l.getD k 0)
  | [], l, h => by simp [renB] at h; subst h; exact ⟨rfl, fun k hk => by simp at hk⟩
  | b :: r, l, h => by
    simp only [renB] at h
    cases hb : σ[b]? with
    | none => simp [hb] at h
    | some i =>
      cases hr : renB σ r with
      | none => simp [hb, hr] at h
      | some l' =>
        simp only [hb, hr, Option.some.injEq] at h
        subst h
        obtain ⟨h1, h2⟩ := renB_spec hr
        refine ⟨by simp [h1], fun k hk => ?_⟩
        cases k with
        | zero => simpa using hb
        | succ k => simpa using h2 k (by simpa using hk)

theorem flat_ren {α : Type} (e : Enc α) {σ bs l : List Nat} (h : renB σ bs = some l) (xs : List α) : (flat e bs xs).map (CV.ren σ) = flat e l xs := by
  obtain ⟨h1, h2⟩ := renB_spec h
  unfold flat
  rw [List.map_flatMap]
  congr 1
  funext x
  exact e.nat σ bs l x h1 h2

theorem Blk.ok.of_ren {ρ : Ren} {σ : List Nat} {e : Option Nat × Nat} {w : World} {k : Blk} (hl : k.live = true) (h : (k.ren σ).ok ρ e w) (hlr : (k.ren σ).live = true) : k.ok (ρ.sub σ) e w := by
  cases k with
  | dead => trivial
  | cells T cs =>
    obtain ⟨g, arr, h1, h2, h3⟩ := h
    exact ⟨g, arr, h1, h2, h3.of_map_left.mono fun _ _ => CV.R.of_ren⟩
  | vec wr T en bs wd xs =>
    simp only [Blk.ren] at h hlr
    cases hb : renB σ bs with
    | none => simp [hb, Blk.live] at hlr
    | some l =>
      simp only [hb] at h
      obtain ⟨h0, h1, h2⟩ := h
      obtain ⟨hb1, hb2⟩ := renB_spec hb
      refine ⟨h0, fun x => ?_, ?_⟩
      · rw [← h1 x, ← en.nat σ bs l x hb1 hb2]; simp
      · rcases h2 with h2 | ⟨g, arr, fz, h2, h3, h4, h5, hc, ⟨sp, h6, h7⟩, h8⟩
        · exact .inl h2
        · refine .inr ⟨g, arr, fz, h2, h3, h4, h5, hc, ⟨sp, ?_, h7⟩, h8⟩
          rw [← flat_ren en hb] at h6
          have hsp : sp = sp.map (CV.ren σ) := by
            conv => lhs; rw [← List.map_id sp]
            exact List.map_congr_left fun x hx => by rw [h7 x hx]; rfl
          rw [hsp, ← List.map_append] at h6
          exact h6.of_map_left.mono fun _ _ => CV.R.of_ren
theorem Blk.ok.ren {ρ : Ren} {σ : List Nat} (hσ : ∀ i ∈ σ, i < ρ.length) {e : Option Nat × Nat} {w : World} {k : Blk} (h : k.ok (ρ.sub σ) e w) : (k.ren σ).ok ρ e w := by
  cases k with
  | dead => trivial
  | cells T cs =>
    obtain ⟨g, arr, h1, h2, h3⟩ := h
    exact ⟨g, arr, h1, h2, (h3.mono fun _ _ => CV.R.ren hσ).map_left⟩
  | vec wr T en bs wd xs =>
    simp only [Blk.ren]
    cases hb : renB σ bs with
    | none => trivial
    | some l =>
      obtain ⟨h0, h1, h2⟩ := h
      obtain ⟨hb1, hb2⟩ := renB_spec hb
      refine ⟨h0, fun x => ?_, ?_⟩
      · rw [← h1 x, ← en.nat σ bs l x hb1 hb2]; simp
      · rcases h2 with h2 | ⟨g, arr, fz, h2, h3, h4, h5, hc, ⟨sp, h6, h7⟩, h8⟩
        · exact .inl h2
        · refine .inr ⟨g, arr, fz, h2, h3, h4, h5, hc, ⟨sp, ?_, h7⟩, h8⟩
          have h9 := (h6.mono fun _ _ => CV.R.ren hσ).map_left
          rw [List.map_append, flat_ren en hb] at h9
          have hsp : sp = sp.map (CV.ren σ) := by
            conv => lhs; rw [← List.map_id sp]
            exact List.map_congr_left fun x hx => by rw [h7 x hx]; rfl
          rw [← hsp] at h9
          exact h9
theorem Blk.ok.more {ρ : Ren} (t : Ren) {e : Option Nat × Nat} {w : World} {k : Blk} (h : k.ok ρ e w) : k.ok (ρ ++ t) e w := by
  cases k with
  | dead => trivial
  | cells T cs =>
    obtain ⟨g, arr, h1, h2, h3⟩ := h
    exact ⟨g, arr, h1, h2, h3.mono fun _ _ => CV.R.more t⟩
  | vec wr T en bs wd xs =>
    obtain ⟨h0, h1, h2⟩ := h
    refine ⟨h0, h1, ?_⟩
    rcases h2 with h2 | ⟨g, arr, fz, h2, h3, h4, h5, hc, ⟨sp, h6, h7⟩, h8⟩
    · exact .inl h2
    · exact .inr ⟨g, arr, fz, h2, h3, h4, h5, hc, ⟨sp, h6.mono fun _ _ => CV.R.more t, h7⟩, h8⟩
/-- A block is told of the world by its own block alone. -/
theorem Blk.ok.keep {ρ : Ren} {e : Option Nat × Nat} {w w' : World} {k : Blk} (h : k.ok ρ e w) (hk : ∀ g, e.1 = some g → k.live = true → w'.heap[g]? = w.heap[g]?) : k.ok ρ e w' := by
  cases k with
  | dead => trivial
  | cells T cs =>
    obtain ⟨g, arr, h1, h2, h3⟩ := h
    exact ⟨g, arr, h1, (hk g h1 rfl).trans h2, h3⟩
  | vec wr T en bs wd xs =>
    obtain ⟨h0, h1, h2⟩ := h
    refine ⟨h0, h1, ?_⟩
    rcases h2 with h2 | ⟨g, arr, fz, h2, h3, h4⟩
    · exact .inl h2
    · exact .inr ⟨g, arr, fz, h2, (hk g h2 rfl).trans h3, h4⟩
theorem Blk.ok.block {ρ : Ren} {e : Option Nat × Nat} {w : World} {k : Blk} (h : k.ok ρ e w) (hl : k.live = true) {g : Nat} (hg : e.1 = some g) : g < w.heap.size := by
  have key : ∀ {x : Obj}, w.heap[g]? = some x → g < w.heap.size := fun h => (Array.getElem?_eq_some_iff.1 h).1
  cases k with
  | dead => simp [Blk.live] at hl
  | cells T cs =>
    obtain ⟨g', arr, h1, h2, _⟩ := h
    rw [hg] at h1
    cases h1
    exact key h2
  | vec wr T en bs wd xs =>
    obtain ⟨_, _, h2⟩ := h
    rcases h2 with h2 | ⟨g', arr, fz, h2, h3, _⟩
    · rw [hg] at h2; cases h2.1
    · rw [hg] at h2; cases h2; exact key h3
end Go.Vc
