/- How many bits are used never falls: the plain law. -/
import Derived.Test.YtkomikpfnogjcaaRcAd
namespace Go.Proofs.Ytkomikpfnogjcaa
open Go Go.Vc

/-- Eighths of a bit that the range stands for. -/
def lf (r : Nat) : Nat := (fracIter (r / 2 ^ (len r - 16), len r) 3).2
theorem frac_lf (t r : Nat) : frac t r = t * 8 - lf r := rfl
def lexP (p q : Nat × Nat) : Prop := p.2 < q.2 ∨ (p.2 = q.2 ∧ p.1 ≤ q.1)
theorem fracStep_lex {p q : Nat × Nat} (hp : p.1 < 65536) (hp0 : 32768 ≤ p.1) (hq : q.1 < 65536) (hq0 : 32768 ≤ q.1) (h : lexP p q) : lexP (fracStep p) (fracStep q) := by
  obtain ⟨a, l⟩ := p
  obtain ⟨b, m⟩ := q
  simp only at hp hp0 hq hq0
  have h1 : a * a ≤ 65535 * 65535 := Nat.mul_le_mul (by omega) (by omega)
  have h2 : b * b ≤ 65535 * 65535 := Nat.mul_le_mul (by omega) (by omega)
  rcases h with h | ⟨h, h3⟩
  · simp only at h
    refine Or.inl ?_
    unfold fracStep
    simp only
    generalize a * a = x at *
    generalize b * b = y at *
    omega
  · simp only at h h3
    have h4 : a * a ≤ b * b := Nat.mul_le_mul h3 h3
    unfold fracStep lexP
    simp only
    generalize a * a = x at *
    generalize b * b = y at *
    split <;> split <;> omega
theorem fracStep_two (p : Nat × Nat) (h : p.1 < 65536) : 2 * p.2 ≤ (fracStep p).2 ∧ (fracStep p).2 ≤ 2 * p.2 + 1 := by
  have h1 : p.1 * p.1 ≤ 65535 * 65535 := Nat.mul_le_mul (by omega) (by omega)
  unfold fracStep
  simp only
  generalize p.1 * p.1 = x at *
  omega
theorem lf_bounds {r : Nat} (h : 8388608 ≤ r) : 8 * len r ≤ lf r ∧ lf r ≤ 8 * len r + 7 := by
  obtain ⟨h1, h2⟩ := top_bits h
  unfold lf
  generalize r / 2 ^ (len r - 16) = m at *
  generalize len r = l at *
  have a := fracStep_lt (p := (m, l)) h1 h2
  have a2 := fracStep_two (m, l) h2
  have b := fracStep_lt (p := fracStep (m, l)) a.1 a.2.1
  have b2 := fracStep_two (fracStep (m, l)) a.2.1
  have c2 := fracStep_two (fracStep (fracStep (m, l))) b.2.1
  show 8 * l ≤ (fracStep (fracStep (fracStep (m, l)))).2 ∧ (fracStep (fracStep (fracStep (m, l)))).2 ≤ 8 * l + 7
  simp only at a2
  omega
theorem len_mono {r s : Nat} (h0 : 1 ≤ r) (h : r ≤ s) : len r ≤ len s := by
  obtain ⟨k, h1, h2, h3⟩ := len_spec (n := r) (by omega)
  have := le_len (n := s) (k := k) (by omega)
  omega
theorem lf_mono {r s : Nat} (h : 8388608 ≤ r) (hs : r ≤ s) : lf r ≤ lf s := by
  rcases Nat.lt_or_ge (len r) (len s) with hl | hl
  · have h1 := lf_bounds h
    have h2 := lf_bounds (r := s) (by omega)
    omega
  · have hl : len r = len s := Nat.le_antisymm (len_mono (by omega) hs) hl
    obtain ⟨h1, h2⟩ := top_bits h
    obtain ⟨h3, h4⟩ := top_bits (n := s) (by omega)
    have h5 : r / 2 ^ (len r - 16) ≤ s / 2 ^ (len s - 16) := by
      rw [hl]
      exact Nat.div_le_div_right hs
    unfold lf
    generalize r / 2 ^ (len r - 16) = x at *
    generalize s / 2 ^ (len s - 16) = y at *
    rw [hl]
    generalize len s = l at *
    have k0 : lexP (x, l) (y, l) := Or.inr ⟨rfl, h5⟩
    have x1 := fracStep_lt (p := (x, l)) h1 h2
    have y1 := fracStep_lt (p := (y, l)) h3 h4
    have k1 := fracStep_lex h2 h1 h4 h3 k0
    have x2 := fracStep_lt (p := fracStep (x, l)) x1.1 x1.2.1
    have y2 := fracStep_lt (p := fracStep (y, l)) y1.1 y1.2.1
    have k2 := fracStep_lex x1.2.1 x1.1 y1.2.1 y1.1 k1
    have k3 := fracStep_lex x2.2.1 x2.1 y2.2.1 y2.1 k2
    show (fracStep (fracStep (fracStep (x, l)))).2 ≤ (fracStep (fracStep (fracStep (y, l)))).2
    rcases k3 with h | ⟨h, _⟩ <;> omega
theorem lf_top : lf 2147483648 = 256 := by decide +kernel

/-- Behind an act no fewer bits are used than ahead of it. -/
def Dec.grows (d e : Dec) : Prop := lf e.rng + 8 * d.nb ≤ lf d.rng + 8 * e.nb
theorem Dec.norm_rng (d : Dec) (h : 1 ≤ d.rng) : ∃ k, k ≤ 3 ∧ d.norm.rng = d.rng * 256 ^ k ∧ d.norm.nb = d.nb + 8 * k ∧ (k = 0 ∨ d.rng * 256 ^ k ≤ 2147483648) ∧ 8388608 < d.norm.rng := by
  have s1 : d.step.rng = d.rng * 256 := rfl
  have s2 : d.step.step.rng = d.rng * 256 * 256 := rfl
  have s3 : d.step.step.step.rng = d.rng * 256 * 256 * 256 := rfl
  unfold Dec.norm
  split
  · split
    · split
      · exact ⟨3, by omega, by rw [s3]; omega, rfl, Or.inr (by omega), by omega⟩
      · exact ⟨2, by omega, by rw [s2]; omega, rfl, Or.inr (by omega), by omega⟩
    · exact ⟨1, by omega, by rw [s1], rfl, Or.inr (by omega), by omega⟩
  · exact ⟨0, by omega, by omega, rfl, Or.inl rfl, by omega⟩
theorem Dec.grows_norm {d e : Dec} (hd : 8388608 < d.rng) (h1 : 1 ≤ e.rng) (h2 : e.rng ≤ d.rng) (hn : e.nb = d.nb) : d.grows e.norm := by
  obtain ⟨k, hk, hr, hb, ho, hg⟩ := e.norm_rng h1
  unfold Dec.grows
  rw [hb, hn]
  rcases ho with rfl | ho
  · have : e.norm.rng = e.rng := by rw [hr]; omega
    rw [this] at hg ⊢
    have := lf_mono (r := e.rng) (s := d.rng) (by omega) h2
    omega
  · have h3 := lf_bounds (r := d.rng) (by omega)
    have h4 := le_len (n := d.rng) (k := 23) (by omega)
    have h5 := lf_mono (r := e.norm.rng) (s := 2147483648) (by omega) (by omega)
    rw [lf_top] at h5
    rcases Nat.eq_zero_or_pos k with rfl | hk0
    · have : e.norm.rng = e.rng := by rw [hr]; omega
      rw [this] at hg ⊢
      have := lf_mono (r := e.rng) (s := d.rng) (by omega) h2
      omega
    · omega
theorem Dec.grows_cut {d : Dec} {N n low high : Nat} (h : d.inv N) (hn : 1 ≤ n) (hn2 : n ≤ 65536) (hl : low ≤ d.at n) (hh : d.at n < high) (hhn : high ≤ n) : d.grows (d.cut (d.rng / n) low high n).norm := by
  obtain ⟨h1, h2, h3, h4⟩ := d.at_spec h hn hn2
  obtain ⟨h5, h6⟩ := h4 low high hl hh hhn
  have hlo := h.lo
  refine Dec.grows_norm hlo ?_ ?_ rfl
  · generalize d.rng / n = s at *
    have e1 : s * (n - high) + s * high = s * n := by rw [← Nat.mul_add, Nat.sub_add_cancel hhn]
    have e3 : 1 ≤ s * (high - low) := Nat.mul_pos h2 (by omega)
    have e4 : 1 ≤ s * high := Nat.mul_pos h2 (by omega)
    show 1 ≤ (if low ≠ 0 then s * (high - low) else d.rng - s * (n - high))
    split <;> omega
  · generalize d.rng / n = s at *
    have e2 : s * (high - low) ≤ s * n := Nat.mul_le_mul_left s (by omega)
    show (if low ≠ 0 then s * (high - low) else d.rng - s * (n - high)) ≤ d.rng
    split <;> omega
theorem Dec.grows_raw (d : Dec) (n : Nat) : d.grows (d.rawOn n) := by
  show lf d.rng + 8 * d.nb ≤ lf d.rng + 8 * (d.nb + n)
  omega
theorem Dec.grows_trans {a b c : Dec} (h1 : a.grows b) (h2 : b.grows c) : a.grows c := by
  unfold Dec.grows at *
  omega
theorem Dec.grows_act {w0 : World} {d : Dec} {N : Nat} (h : d.inv N) {o : OpV} (ho : o.good w0) : d.grows (d.act o).2.2 := by
  have hlo := h.lo
  have guni : ∀ n, 1 ≤ n → n ≤ 65536 → d.grows (d.uni n) := fun n h1 h2 => Dec.grows_cut h h1 h2 (Nat.le_refl _) (Nat.lt_succ_self _) (d.at_spec h h1 h2).1
  unfold Dec.act
  rcases ho.kind with ⟨e, h1, h2, h3⟩ | ⟨e, h1, h2⟩ | ⟨e, total, rest, ta, c, hr, ht, _⟩ | ⟨e, h1⟩ | ⟨e, h1⟩ | ⟨e, h1, h2, h3⟩ | e
  · rw [e, if_pos rfl]
    simp only
    split
    · rename_i hc
      exact Dec.grows_cut h h1 (by omega) hc.1 hc.2 h3
    · exact guni _ h1 (by omega)
  · rw [e, if_neg (by decide), if_pos rfl]
    show d.grows (d.logp o.a).2
    unfold Dec.logp
    have hp : 2 ^ o.a ≤ 2 ^ 15 := Nat.pow_le_pow_right (by omega) h2
    have hp1 : 2 ^ 1 ≤ 2 ^ o.a := Nat.pow_le_pow_right (by omega) h1
    have k1 : 1 ≤ d.rng / 2 ^ o.a := Nat.div_pos (by omega) (by omega)
    have k3 := Nat.mul_le_mul_left (d.rng / 2 ^ o.a) hp1
    have k2 := Nat.div_mul_le_self d.rng (2 ^ o.a)
    split
    · refine Dec.grows_norm hlo ?_ ?_ rfl
      · show 1 ≤ d.rng - d.rng / 2 ^ o.a
        omega
      · show d.rng - d.rng / 2 ^ o.a ≤ d.rng
        omega
    · refine Dec.grows_norm hlo ?_ ?_ rfl
      · exact k1
      · show d.rng / 2 ^ o.a ≤ d.rng
        omega
  · rw [e, if_neg (by decide), if_neg (by decide), if_pos rfl, hr]
    obtain ⟨a, b, c, e, f, g⟩ := tabK_spec ht (d.at_spec h ht.lo ht.hi).1
    exact Dec.grows_cut h ht.lo ht.hi f c e
  · rw [e, if_neg (by decide), if_neg (by decide), if_neg (by decide), if_pos rfl]
    show d.grows (d.whole o.a).2.2
    have a32 := ho.a32
    unfold Dec.whole
    split
    · rename_i hl
      have := small_of_len hl
      exact guni _ (by omega) (by omega)
    · rename_i hl
      obtain ⟨g1, g2⟩ := top_small (n := o.a - 1) (by omega)
      exact Dec.grows_trans (guni _ (by omega) (by omega)) (Dec.grows_raw _ _)
  · rw [e, if_neg (by decide), if_neg (by decide), if_neg (by decide), if_neg (by decide), if_pos rfl]
    exact d.grows_raw _
  · rw [e, if_neg (by decide), if_neg (by decide), if_neg (by decide), if_neg (by decide), if_neg (by decide), if_pos rfl]
    have hat := (d.at_spec h (n := 32768) (by omega) (by omega)).1
    obtain ⟨a, b, c⟩ := lap_spec (fs := o.a) (decay := o.b) h1 hat
    exact Dec.grows_cut h (by omega) (by omega) a b c
  · rw [e, if_neg (by decide), if_neg (by decide), if_neg (by decide), if_neg (by decide), if_neg (by decide), if_neg (by decide)]
    exact Nat.le_refl _
theorem Dec.init_lf (xs : List Int) : lf (Dec.init xs).rng + 8 ≤ 8 * (Dec.init xs).nb := by
  obtain ⟨k, hk, hr, hb, _, hg⟩ := (Dec.init0 xs).norm_rng (by show 1 ≤ 128; omega)
  have e1 : (Dec.init0 xs).rng = 128 := rfl
  have e2 : (Dec.init0 xs).nb = 9 := rfl
  have e3 : Dec.init xs = (Dec.init0 xs).norm := rfl
  rw [e1] at hr
  rw [e2] at hb
  rw [e3, hb]
  rw [hr] at hg ⊢
  rcases k with _ | _ | _ | _ | k
  · omega
  · omega
  · omega
  · rw [show 128 * 256 ^ (0 + 1 + 1 + 1) = 2147483648 by rfl, lf_top]
    omega
  · omega
/-- What is told of a decoder, in bits and in eighths. -/
theorem Dec.told_tell {d : Dec} (h : 8388608 < d.rng) (h2 : d.rng ≤ 2147483648) (hp : lf d.rng + 8 ≤ 8 * d.nb) (hn : d.nb ≤ 100000) (v : Int) (f : Bool) :
    (d.told v f).frac = 8 * d.nb - lf d.rng ∧ (d.told v f).tell = ((d.told v f).frac + 7) / 8 ∧ 8 ≤ (d.told v f).frac ∧ (d.told v f).frac ≤ 800000 := by
  have hb := lf_bounds (r := d.rng) (by omega)
  have e1 : (d.told v f).frac = (d.nb * 8 - lf d.rng) % 4294967296 := rfl
  have e2 : (d.told v f).tell = (d.nb - len d.rng) % 4294967296 := rfl
  rw [e1, e2]
  omega
/-- What is told behind each operation: it never falls. -/
inductive Tells : Nat → Nat → List SeenV → Prop where
  | nil {t f : Nat} : Tells t f []
  | cons {t f : Nat} {s : SeenV} {r : List SeenV} : t ≤ s.tell → f ≤ s.frac → s.tell = (s.frac + 7) / 8 → s.frac ≤ 800000 → Tells s.tell s.frac r → Tells t f (s :: r)
theorem Dec.seen_tells {w0 : World} : ∀ {l : List OpV} {d : Dec} {N t f : Nat}, d.inv N → N + 64 * l.length ≤ 100000 → (∀ o ∈ l, o.good w0) → lf d.rng + 8 ≤ 8 * d.nb → t ≤ (8 * d.nb - lf d.rng + 7) / 8 → f ≤ 8 * d.nb - lf d.rng → Tells t f (d.seen l)
  | [], d, N, t, f, _, _, _, _, _, _ => .nil
  | o :: r, d, N, t, f, h, hN, hg, hp, ht, hf => by
    simp only [List.length_cons] at hN
    have h1 := Dec.act_inv h (by omega) (hg o (by simp))
    have h2 := Dec.grows_act h (hg o (by simp))
    have hp2 : lf (d.act o).2.2.rng + 8 ≤ 8 * (d.act o).2.2.nb := by
      unfold Dec.grows at h2
      omega
    have hnb := h1.nb
    obtain ⟨a, b, c, e⟩ := Dec.told_tell (d := (d.act o).2.2) h1.lo h1.hi hp2 (by omega) (d.act o).1 (d.act o).2.1
    unfold Dec.grows at h2
    show Tells t f ((d.act o).2.2.told (d.act o).1 (d.act o).2.1 :: (d.act o).2.2.seen r)
    refine .cons (by omega) (by omega) b e (Dec.seen_tells (w0 := w0) h1 (by omega) (fun x hx => hg x (by simp [hx])) hp2 (by omega) (by omega))
end Go.Proofs.Ytkomikpfnogjcaa
