/- A generator of conditions for functions of the model: families of rows, ghost steps, rows as memory. -/
import Derived.Test.YtkomikpfnogjcaaDoorVmB
namespace Go.Vc
open Go.RowKit (Below)

theorem Ghost.refl (w0 : World) (H : List Blk) : Ghost w0 H H := fun ρ w h => ⟨[], by rw [List.append_nil]; exact h, fun g hg => by rwa [List.append_nil] at hg⟩
theorem Ghost.trans {w0 : World} {H H1 H2 : List Blk} (h1 : Ghost w0 H H1) (h2 : Ghost w0 H1 H2) : Ghost w0 H H2 := fun ρ w h => by
  obtain ⟨t, a, b⟩ := h1 ρ w h
  obtain ⟨u, c, d⟩ := h2 (ρ ++ t) w a
  rw [List.append_assoc] at c d
  exact ⟨t ++ u, c, fun g hg => b g (d g hg)⟩
theorem push_get {H : List Blk} {k : Blk} {b : Nat} {q : Blk} (hq : (H ++ [k])[b]? = some q) : (b < H.length ∧ H[b]? = some q) ∨ (b = H.length ∧ q = k) := by
  rcases Nat.lt_or_ge b H.length with hb | hb
  · rw [List.getElem?_append_left hb] at hq; exact .inl ⟨hb, hq⟩
  · have hb2 : b < (H ++ [k]).length := (List.getElem?_eq_some_iff.1 hq).1
    have : b = H.length := by simp at hb2; omega
    subst this
    simp at hq
    exact .inr ⟨rfl, hq.symm⟩
/-- A family of no rows. -/
theorem Ghost.fam0 (w0 : World) (H : List Blk) {α : Type} (T : TypeId) (e : Enc α) (wd : Nat) (h0 : 0 < wd) (hl : ∀ x, (e.f [] x).length = wd) : Ghost w0 H (H ++ [.fam T e wd []]) := fun ρ w h => by
  have hnone : ∀ g, ¬ owns (none, 0) g := by
    rintro g (h | ⟨_, ms, c, h1, h2⟩)
    · cases h
    · have := encM_inj (a := ms) (b := []) h1
      subst this
      cases h2
  have hown : ∀ b q g, (H ++ [.fam T e wd []])[b]? = some q → Ren.own (ρ ++ [(none, 0)]) b g → b < H.length ∧ H[b]? = some q ∧ ρ.own b g := by
    intro b q g hq hg
    rcases push_get hq with ⟨h1, h2⟩ | ⟨h1, _⟩
    · rw [own_append (by rw [h.len]; exact h1)] at hg
      exact ⟨h1, h2, hg⟩
    · rw [h1, ← h.len, own_last] at hg
      exact absurd hg (hnone g)
  have himg : ∀ g, image (ρ ++ [(none, 0)]) (H ++ [.fam T e wd []]) g → image ρ H g := by
    rintro g ⟨b, q, hq, hl, hg⟩
    obtain ⟨_, h2, h3⟩ := hown b q g hq hg
    exact ⟨b, q, h2, hl, h3⟩
  refine ⟨[(none, 0)], ⟨by simp [h.len], fun b q e1 hq he => ?_, fun b b' k k' g hb hb' l l' a a' => ?_, fun g hg => h.lo g (himg g hg), h.base⟩, himg⟩
  · rcases push_get hq with ⟨h1, h2⟩ | ⟨h1, rfl⟩
    · rw [List.getElem?_append_left (by rw [h.len]; exact h1)] at he
      exact (h.ok b q e1 h2 he).more _
    · rw [h1, ← h.len] at he
      simp at he
      subst he
      exact ⟨h0, hl, rfl, [], rfl, rfl, fun i j m m' g hi => by simp at hi, fun j m xs hj => by simp at hj⟩
  · obtain ⟨_, h2, h3⟩ := hown b k g hb a
    obtain ⟨_, h2', h3'⟩ := hown b' k' g hb' a'
    exact h.inj b b' k k' g h2 h2' l l' h3 h3'

/-- Row 'i' comes to family 'f', as its member 'J'; the family is told under a new number. -/
def tau (f i nf J : Nat) : CV → CV
  | .mem b j n => bif Nat.beq b f then .mem nf j n else .mem b j n
  | .vec b n => bif Nat.beq b i then .mem nf J n else .vec b n
  | x => x
theorem tau_nat (f i nf J : Nat) {c : CV} (h : c = .any) : tau f i nf J c = .any := by subst h; rfl
/-- How a block may be told behind a row's coming to a family. -/
def reK (f i nf J b : Nat) (k k1 : Blk) : Prop :=
  k1 = .dead ∨ (b ≠ f ∧ b ≠ i ∧ (k1 = k ∨ (∃ T cs, k = .cells T cs ∧ k1 = .cells T (cs.map (tau f i nf J))) ∨
    ∃ (α β : Type) (wr : Bool) (T : TypeId) (e1 : Enc α) (bs1 : List Nat) (xs1 : List α) (e2 : Enc β) (bs2 : List Nat) (xs2 : List β) (wd : Nat),
      k = .vec wr T e1 bs1 wd xs1 ∧ k1 = .vec wr T e2 bs2 wd xs2 ∧ xs2.length = xs1.length ∧ (∀ x, (e2.f bs2 x).length = wd) ∧ flat e2 bs2 xs2 = (flat e1 bs1 xs1).map (tau f i nf J)))
theorem All2.map_cv {ρ ρ' : Ren} {f : CV → CV} (hf : ∀ c v, c.R ρ v → (f c).R ρ' v) : ∀ {l : List CV} {vs : List Value}, All2 (CV.R ρ) l vs → All2 (CV.R ρ') (l.map f) vs
  | _, _, .nil => .nil
  | _, _, .cons h r => .cons (hf _ _ h) (All2.map_cv hf r)
theorem Ghost.join {w0 : World} {H H1 : List Blk} {α : Type} {T : TypeId} {e : Enc α} {wd : Nat} {xss : List (List α)} {wr : Bool} {zs : List α} {f i : Nat} (hf : H[f]? = some (.fam T e wd xss)) (hi : H[i]? = some (.vec wr T e [] wd zs))
    (hlen : H1.length = H.length) (hre : ∀ (b : Nat) k, H[b]? = some k → ∃ k1, H1[b]? = some k1 ∧ reK f i H.length xss.length b k k1) : Ghost w0 H (H1 ++ [.fam T e wd (xss ++ [zs])]) := fun ρ w h => by
  have hfi : f ≠ i := by
    rintro rfl
    rw [hf] at hi
    cases hi
  obtain ⟨ef, hef, h0, hw, h1, ms, h2, h3, h4, h5⟩ := h.get hf
  obtain ⟨ei, hei, _, _, h6⟩ := h.get hi
  have hei1 : ∀ g, ei.1 = some g → ρ.own i g := fun g hg => own_of hei (.inl hg)
  have hfm : ∀ (j : Nat) m g, ms[j]? = some m → m.1 = some g → ρ.own f g := fun j m g hj hm => own_of hef (.inr ⟨h1, ms, m.2, h2, by rw [← hm]; exact List.mem_of_getElem? hj⟩)
  have hH1 : ∀ (b : Nat) k1, H1[b]? = some k1 → ∃ k, H[b]? = some k ∧ reK f i H.length xss.length b k k1 := by
    intro b k1 hb
    have hlt : b < H.length := by rw [← hlen]; exact (List.getElem?_eq_some_iff.1 hb).1
    obtain ⟨k1', hk1, hr⟩ := hre b _ (List.getElem?_eq_getElem hlt)
    rw [hb] at hk1
    cases hk1
    exact ⟨_, List.getElem?_eq_getElem hlt, hr⟩
  have hlive : ∀ (b : Nat) k k1, reK f i H.length xss.length b k k1 → k1.live = true → b ≠ f ∧ b ≠ i ∧ k.live = true := by
    intro b k k1 hr hl
    rcases hr with rfl | ⟨a, c, hr⟩
    · cases hl
    · refine ⟨a, c, ?_⟩
      rcases hr with rfl | ⟨T, cs, rfl, rfl⟩ | ⟨α, β, wr, T, e1, bs1, xs1, e2, bs2, xs2, wd, rfl, rfl, _⟩
      · exact hl
      · rfl
      · rfl
  obtain ⟨e', he'⟩ : ∃ e', e' = ((none : Option Nat), encM (ms ++ [ei])) := ⟨_, rfl⟩
  have hnew : ∀ g, owns e' g → ρ.own f g ∨ ρ.own i g := by
    rintro g (hg | ⟨_, ms', c, hm, hc⟩)
    · rw [he'] at hg; cases hg
    · rw [he'] at hm
      have := encM_inj hm
      subst this
      rcases List.mem_append.1 hc with hc | hc
      · exact .inl (own_of hef (.inr ⟨h1, ms, c, h2, hc⟩))
      · have : (some g, c) = ei := by simpa using hc
        exact .inr (hei1 g (by rw [← this]))
  have hat : ∀ b : Nat, b < H.length → Ren.own (ρ ++ [e']) b = ρ.own b := fun b hb => own_append (by rw [h.len]; exact hb)
  have hlast : Ren.own (ρ ++ [e']) H.length = owns e' := by rw [← h.len]; exact own_last
  have himg : ∀ g, image (ρ ++ [e']) (H1 ++ [.fam T e wd (xss ++ [zs])]) g → image ρ H g := by
    rintro g ⟨b, q, hq, hl, hg⟩
    rcases push_get hq with ⟨q1, q2⟩ | ⟨q1, _⟩
    · obtain ⟨k, hk, hr⟩ := hH1 b q q2
      rw [hat b (by omega)] at hg
      exact ⟨b, k, hk, (hlive b k q hr hl).2.2, hg⟩
    · rw [q1, hlen, hlast] at hg
      rcases hnew g hg with hg | hg
      · exact ⟨f, _, hf, rfl, hg⟩
      · exact ⟨i, _, hi, rfl, hg⟩
  have hget : (ρ ++ [e'])[H.length]? = some e' := by rw [← h.len]; simp
  have hτ : ∀ c v, CV.R ρ c v → (tau f i H.length xss.length c).R (ρ ++ [e']) v := by
    intro c v hc
    cases c with
    | mem b j n =>
      simp only [tau]
      cases hb : Nat.beq b f with
      | false => exact CV.R.more [e'] hc
      | true =>
        have := Nat.eq_of_beq_eq_true hb
        subst this
        obtain ⟨e1, ms', m, g1, g2, g3, g4⟩ := hc
        rw [hef] at g1
        cases g1
        have := encM_inj (g2.trans h2.symm)
        subst this
        exact ⟨e', ms' ++ [ei], m, hget, by rw [he'], getElem?_app g3, g4⟩
    | vec b n =>
      simp only [tau]
      cases hb : Nat.beq b i with
      | false => exact CV.R.more [e'] hc
      | true =>
        have := Nat.eq_of_beq_eq_true hb
        subst this
        obtain ⟨e1, g1, g2⟩ := hc
        rw [hei] at g1
        cases g1
        exact ⟨e', ms ++ [ei], ei, hget, by rw [he'], by rw [← h3]; simp, g2⟩
    | _ => exact CV.R.more [e'] hc
  refine ⟨[e'], ⟨by simp [h.len, hlen], fun b q e1 hq he => ?_, fun b b' k k' g hb hb' l l' a a' => ?_, fun g hg => h.lo g (himg g hg), h.base⟩, himg⟩
  · rcases push_get hq with ⟨q1, q2⟩ | ⟨q1, rfl⟩
    · obtain ⟨k, hk, hr⟩ := hH1 b q q2
      rw [List.getElem?_append_left (by rw [h.len, ← hlen]; exact q1)] at he
      have hok := h.ok b k e1 hk he
      rcases hr with rfl | ⟨a, c, hr⟩
      · trivial
      · rcases hr with rfl | ⟨T, cs, rfl, rfl⟩ | ⟨α, β, wr, T, en1, bs1, xs1, en2, bs2, xs2, wd, rfl, rfl, hxl, hw2, hfl⟩
        · exact hok.more _
        · obtain ⟨g, arr, r1, r2, r3⟩ := hok
          exact ⟨g, arr, r1, r2, All2.map_cv hτ r3⟩
        · obtain ⟨r0, r1, r2⟩ := hok
          refine ⟨r0, hw2, ?_⟩
          rcases r2 with ⟨r2, r3, r4⟩ | ⟨g, arr, fz, r2, r3, r4, r5, r6, ⟨sp, r7, r8⟩, r9⟩
          · refine .inl ⟨r2, ?_, r4⟩
            rw [r3] at hxl
            exact List.length_eq_zero_iff.1 hxl
          · refine .inr ⟨g, arr, fz, r2, r3, r4, by rw [hxl]; exact r5, r6, ⟨sp, ?_, r8⟩, r9⟩
            have := All2.map_cv hτ r7
            rw [List.map_append, ← hfl] at this
            have hsp : sp.map (tau f i H.length xss.length) = sp := by
              conv => rhs; rw [← List.map_id sp]
              exact List.map_congr_left fun x hx => by rw [r8 x hx]; rfl
            rw [hsp] at this
            exact this
    · rw [q1, hlen, hget] at he
      cases he
      refine ⟨h0, hw, by rw [he'], ms ++ [ei], by rw [he'], by simp [h3], fun j j' m m' g hj hj' hm hm' => ?_, fun j m xs hj hx => ?_⟩
      · rcases Nat.lt_or_ge j ms.length with c | c <;> rcases Nat.lt_or_ge j' ms.length with c' | c'
        · rw [List.getElem?_append_left c] at hj
          rw [List.getElem?_append_left c'] at hj'
          exact h4 j j' m m' g hj hj' hm hm'
        · rw [List.getElem?_append_left c] at hj
          have e2 : j' = ms.length := by have := (List.getElem?_eq_some_iff.1 hj').1; simp at this; omega
          subst e2
          simp at hj'
          subst hj'
          exact absurd (h.inj f i _ _ g hf hi rfl rfl (hfm j m g hj hm) (hei1 g hm')) hfi
        · rw [List.getElem?_append_left c'] at hj'
          have e2 : j = ms.length := by have := (List.getElem?_eq_some_iff.1 hj).1; simp at this; omega
          subst e2
          simp at hj
          subst hj
          exact absurd (h.inj f i _ _ g hf hi rfl rfl (hfm j' m' g hj' hm') (hei1 g hm)) hfi
        · have e1 := (List.getElem?_eq_some_iff.1 hj).1
          have e2 := (List.getElem?_eq_some_iff.1 hj').1
          simp at e1 e2
          omega
      · rcases Nat.lt_or_ge j ms.length with c | c
        · rw [List.getElem?_append_left c] at hj
          rw [List.getElem?_append_left (by omega)] at hx
          rcases h5 j m xs hj hx with r | ⟨g, arr, fz, r1, r2, r3, r4, r5, sp, r6, r7⟩
          · exact .inl r
          · exact .inr ⟨g, arr, fz, r1, r2, r3, r4, r5, sp, r6.mono fun _ _ => CV.R.more _, r7⟩
        · have e1 : j = ms.length := by have := (List.getElem?_eq_some_iff.1 hj).1; simp at this; omega
          subst e1
          simp at hj
          subst hj
          rw [h3] at hx
          simp at hx
          subst hx
          rcases h6 with r | ⟨g, arr, fz, r1, r2, r3, r4, r5, ⟨sp, r6, r7⟩, _⟩
          · exact .inl r
          · exact .inr ⟨g, arr, fz, r1, r2, r3, r4, r5, sp, r6.mono fun _ _ => CV.R.more _, r7⟩
  · have hcase : ∀ (b : Nat) k, (H1 ++ [.fam T e wd (xss ++ [zs])])[b]? = some k → k.live = true → Ren.own (ρ ++ [e']) b g → (b < H.length ∧ b ≠ f ∧ b ≠ i ∧ ∃ k0, H[b]? = some k0 ∧ k0.live = true ∧ ρ.own b g) ∨ (b = H.length ∧ (ρ.own f g ∨ ρ.own i g)) := by
      intro b k hb l a
      rcases push_get hb with ⟨q1, q2⟩ | ⟨q1, _⟩
      · obtain ⟨k0, hk, hr⟩ := hH1 b k q2
        rw [hat b (by omega)] at a
        obtain ⟨r1, r2, r3⟩ := hlive b k0 k hr l
        exact .inl ⟨by omega, r1, r2, k0, hk, r3, a⟩
      · rw [q1, hlen, hlast] at a
        exact .inr ⟨by omega, hnew g a⟩
    rcases hcase b k hb l a with ⟨r1, r2, r3, k0, r4, r5, r6⟩ | ⟨r1, r2⟩ <;> rcases hcase b' k' hb' l' a' with ⟨t1, t2, t3, k0', t4, t5, t6⟩ | ⟨t1, t2⟩
    · exact h.inj b b' k0 k0' g r4 t4 r5 t5 r6 t6
    · rcases t2 with t2 | t2
      · exact absurd (h.inj b f k0 _ g r4 hf r5 rfl r6 t2) r2
      · exact absurd (h.inj b i k0 _ g r4 hi r5 rfl r6 t2) r3
    · rcases r2 with r2 | r2
      · exact absurd (h.inj b' f k0' _ g t4 hf t5 rfl t6 r2) t2
      · exact absurd (h.inj b' i k0' _ g t4 hi t5 rfl t6 r2) t3
    · omega
/-- As 'Ghost.join', with the blocks told one by one. -/
def reL (f i nf J : Nat) : Nat → List Blk → List Blk → Prop
  | _, [], [] => True
  | b, k :: r, k1 :: r1 => reK f i nf J b k k1 ∧ reL f i nf J (b + 1) r r1
  | _, _, _ => False
theorem reL_spec {f i nf J : Nat} : ∀ {n : Nat} {H H1 : List Blk}, reL f i nf J n H H1 → H1.length = H.length ∧ ∀ (b : Nat) k, H[b]? = some k → ∃ k1, H1[b]? = some k1 ∧ reK f i nf J (n + b) k k1
  | _, [], [], _ => ⟨rfl, fun b k h => by simp at h⟩
  | n, k :: r, k1 :: r1, ⟨h1, h2⟩ => by
    obtain ⟨h3, h4⟩ := reL_spec h2
    refine ⟨by simp [h3], fun b q hb => ?_⟩
    cases b with
    | zero => simp at hb; subst hb; exact ⟨k1, rfl, h1⟩
    | succ b =>
      obtain ⟨q1, g1, g2⟩ := h4 b q (by simpa using hb)
      exact ⟨q1, by simpa using g1, by rw [show n + (b + 1) = n + 1 + b by omega]; exact g2⟩
theorem Ghost.joinL {w0 : World} {H H1 : List Blk} {α : Type} {T : TypeId} {e : Enc α} {wd : Nat} {xss : List (List α)} {wr : Bool} {zs : List α} (f i : Nat) (hf : H[f]? = some (.fam T e wd xss)) (hi : H[i]? = some (.vec wr T e [] wd zs))
    (hre : reL f i H.length xss.length 0 H H1) : Ghost w0 H (H1 ++ [.fam T e wd (xss ++ [zs])]) := by
  obtain ⟨h1, h2⟩ := reL_spec hre
  refine Ghost.join hf hi h1 fun b k hb => ?_
  obtain ⟨k1, h3, h4⟩ := h2 b k hb
  rw [Nat.zero_add] at h4
  exact ⟨k1, h3, h4⟩
theorem reK.keep {f i nf J b : Nat} {k : Blk} (h1 : b ≠ f) (h2 : b ≠ i) : reK f i nf J b k k := .inr ⟨h1, h2, .inl rfl⟩
theorem reK.dead {f i nf J b : Nat} {k : Blk} : reK f i nf J b k .dead := .inl rfl
theorem reK.cells {f i nf J b : Nat} {T : TypeId} {cs cs1 : List CV} (h1 : b ≠ f) (h2 : b ≠ i) (h : cs.map (tau f i nf J) = cs1) : reK f i nf J b (.cells T cs) (.cells T cs1) := .inr ⟨h1, h2, .inr (.inl ⟨T, cs, rfl, by rw [h]⟩)⟩
theorem reK.vec {f i nf J b : Nat} {α β : Type} {wr : Bool} {T : TypeId} {e1 : Enc α} {bs1 : List Nat} {xs1 : List α} {e2 : Enc β} {bs2 : List Nat} {xs2 : List β} {wd : Nat} (h1 : b ≠ f) (h2 : b ≠ i) (h3 : xs2.length = xs1.length) (h4 : ∀ x, (e2.f bs2 x).length = wd) (h5 : flat e2 bs2 xs2 = (flat e1 bs1 xs1).map (tau f i nf J)) :
    reK f i nf J b (.vec wr T e1 bs1 wd xs1) (.vec wr T e2 bs2 wd xs2) := .inr ⟨h1, h2, .inr (.inr ⟨α, β, wr, T, e1, bs1, xs1, e2, bs2, xs2, wd, rfl, rfl, h3, h4, h5⟩)⟩
/-- Members of one family: which one, how long. -/
def encF : Enc (Nat × Nat) := ⟨fun bs x => match bs with | [b] => [.mem b x.1 x.2] | _ => [.val (.slice none 0 0)], fun σ bs bs' x hl hk => by
  match bs, bs', hl with
  | [], [], _ => rfl
  | [b], [b'], _ =>
    have := hk 0 (by simp)
    simp only [List.getD_cons_zero] at this
    simp only [List.map_cons, CV.ren, this, List.map_nil]
  | b :: c :: r, b' :: c' :: r', _ => rfl⟩
theorem encF_len (bs : List Nat) (x : Nat × Nat) : (encF.f bs x).length = 1 := by
  unfold encF
  simp only
  split <;> rfl
/-- Members of a family, in turn. -/
def turns (ls : List Nat) : List (Nat × Nat) := ls.zipIdx.map fun x => (x.2, x.1)
theorem turns_len (ls : List Nat) : (turns ls).length = ls.length := by simp [turns]
theorem turns_get (ls : List Nat) (i : Nat) : (turns ls)[i]? = ls[i]?.map fun n => (i, n) := by
  unfold turns
  rw [List.getElem?_map, List.getElem?_zipIdx]
  cases ls[i]? <;> simp
theorem turns_snoc (ls : List Nat) (n : Nat) : turns (ls ++ [n]) = turns ls ++ [(ls.length, n)] := by simp [turns, List.zipIdx_append]
theorem flat_turns (f : Nat) (l : List (Nat × Nat)) : flat encF [f] l = l.map fun x => CV.mem f x.1 x.2 := by
  unfold flat
  induction l with
  | nil => rfl
  | cons x r ih => rw [List.flatMap_cons, ih]; rfl
theorem flat_tau (f i nf J : Nat) (l : List (Nat × Nat)) : (flat encF [f] l).map (tau f i nf J) = flat encF [nf] l := by
  rw [flat_turns, flat_turns, List.map_map]
  apply List.map_congr_left
  intro x _
  show (bif Nat.beq f f then CV.mem nf x.1 x.2 else CV.mem f x.1 x.2) = _
  rw [Nat.beq_refl]
  rfl

/-! Rows as memory -/
theorem callsA_base {P : Program} {w0 : World} {f : FuncId} {args : List A1} {H : List Blk} {y : Value}
    (hcal : (match P.funcs[f]? with | some fn => fn.body.isSome && !(fn.name == "runtime.NumGoroutine") | none => false) = true)
    (h : ∀ ρ w vs, RH w0 ρ H w → All2 (A1.R ρ) args vs → ∃ args', All2 (A1.R []) args' vs ∧ CallsA P w f args' [] fun r H' => r = .o (.c (.val y)) ∧ H' = []) :
    CallsA P w0 f args H fun r H' => r = .o (.c (.val y)) ∧ H' = H := by
  refine ⟨hcal, fun ρ w vs hR hA => ?_⟩
  obtain ⟨args', hA', hc⟩ := h ρ w vs hR hA
  have h0 : RH w [] [] w := ⟨rfl, fun b k e h => by simp at h, fun b b' k k' g h => by simp at h, fun g hg => by obtain ⟨b, k, h, _⟩ := hg; simp at h, Below.refl _ _⟩
  refine (hc.out [] w vs h0 hA').mono ?_
  rintro e w' ⟨r, H', ρ', v, ⟨rfl, rfl⟩, rfl, hv, hR', _, hfr, _⟩
  have hb := hR'.base
  have hold : ∀ i, i < w.heap.size → w'.heap[i]? = w.heap[i]? := fun i hi => hb.block i hi
  refine ⟨_, H, ρ, v, ⟨rfl, rfl⟩, rfl, ⟨hv.1, hv.2⟩, ⟨hR.len, fun b k e hb' he => (hR.ok b k e hb' he).keep fun g hg hl => hold g ((hR.ok b k e hb' he).block hl hg), hR.inj, fun g hg => ⟨(hR.lo g hg).1, Nat.lt_of_lt_of_le (hR.lo g hg).2 hb.size⟩, ?_⟩, ⟨[], by simp⟩, ?_, fun g hg => .inl hg⟩
  · exact ⟨hb.os.trans hR.base.os, hb.tape.trans hR.base.tape, hb.output.trans hR.base.output, Nat.le_trans hR.base.size hb.size, fun k hk => (hold k (Nat.lt_of_lt_of_le hk hR.base.size)).trans (hR.base.block k hk)⟩
  · exact ⟨hb.os, hb.tape, hb.output, hb.size, fun i hi _ => hold i hi⟩
end Go.Vc
