/- The laws' small helpers; bits never fall. -/
import Derived.Test.YtkomikpfnogjcaaRmC
import Derived.Test.YtkomikpfnogjcaaRmL
section
namespace Go.Proofs.Ytkomikpfnogjcaa
open Go Go.Vc
set_option maxRecDepth 100000
set_option maxHeartbeats 4000000

theorem bool_eq_f {a b : Bool} (h : (bif false then !a == b else a == b) = false) : a ≠ b := by
  rintro rfl
  cases a <;> cases h
theorem opsAt.fits {w0 : World} {v : Value} {l : List OpV} (hv : opsAt w0 v l) : ∀ o ∈ l, o.fits w0 := by
  intro o ho
  rcases hv with ⟨_, rfl⟩ | ⟨a, c, rfl, h1, h2, hb⟩
  · cases ho
  · obtain ⟨j, hj, rfl⟩ := List.getElem_of_mem ho
    exact (hb j _ (List.getElem?_eq_getElem hj)).2
theorem alikeW (w0 : World) (s : SeenV) : CallsA Try.prog w0 16 [.a s.cells, .a s.cells] [] fun r H' => r = .o (.c (.val (.bool true))) ∧ H' = [] := by
  refine callsA_of_ev c16_ ?_
  conv => whnf
  refine ⟨fun _ => ?_, fun h => absurd rfl (ieq_f h)⟩
  conv => whnf
  refine ⟨fun hf => ?_, fun hf => absurd rfl (bool_eq_f hf)⟩
  conv => whnf
  refine ⟨fun _ => ?_, fun h => absurd rfl (ieq_f h)⟩
  conv => whnf
  refine ⟨fun _ => ?_, fun h => absurd rfl (ieq_f h)⟩
  conv => whnf
  refine ⟨fun _ => ?_, fun h => absurd rfl (ieq_f h)⟩
  conv => whnf
  have : (s.left == s.left) = true := beq_self_eq_true _
  refine Or.inr ⟨[], .o (.c (.val (.bool true))), [], ⟨rfl, trivial, rfl⟩, ?_, rfl, rfl⟩
  rw [this]
  rfl
theorem opsV (w0 : World) {v : Value} {l : List OpV} (hv : opsAt w0 v l) (h2 : l.length ≤ 65536) :
    CallsA Try.prog w0 15 [.c (.val v)] [] fun r H => (l = [] ∧ r = .o (.c (.val (.slice none 0 0))) ∧ H = []) ∨ (l ≠ [] ∧ r = .o (.c (.vec 0 l.length)) ∧ H = [.vec true 80 encOp [] 6 l]) := by
  rcases hv with ⟨rfl, rfl⟩ | ⟨a, c, rfl, h1, _, hb⟩
  · refine callsA_of_ev c15_ ?_
    conv => whnf
    refine Or.inl ?_
    conv => whnf
    refine ⟨Unit, fun _ => ⟨[(3, .o (.c (.val (.slice none 0 0)))), (6, .o (.c (.val (.slice none 0 0)))), (7, .o (.c (.val (.int .i64 ((0 : Nat) : Int))))), (8, .o (.c (.val (.int .i64 ((0 : Nat) : Int)))))], []⟩, fun _ => 0, ⟨(), [], ⟨rfl, trivial, rfl⟩, rfl, rfl, rfl, rfl, trivial⟩, fun _ => ?_⟩
    conv => whnf
    refine ⟨fun h => absurd (lt_t h) (by omega), fun _ => ?_⟩
    conv => whnf
    exact Or.inl (Or.inl ⟨rfl, rfl, rfl⟩)
  · exact opsW w0 h2 fun i x hx => (hb i x hx).1
theorem opsAt.take {w0 : World} {v : Value} {l : List OpV} (hv : opsAt w0 v l) {k : Nat} (hk : k ≤ l.length) : (v = .slice none 0 0 ∧ l = []) ∨ ∃ a c, v = .slice (some a) l.length c ∧ l.length ≤ c ∧ opsAt w0 (.slice (some a) k c) (l.take k) := by
  rcases hv with h | ⟨a, c, rfl, h1, h2, hb⟩
  · exact Or.inl h
  · refine Or.inr ⟨a, c, rfl, h1, Or.inr ⟨a, c, ?_, ?_, h2, fun i x hx => hb i x ?_⟩⟩
    · rw [List.length_take, Nat.min_eq_left hk]
    · rw [List.length_take]; omega
    · rw [List.getElem?_take] at hx
      split at hx
      · exact hx
      · cases hx
theorem Dec.seen_take (d : Dec) (l : List OpV) (k : Nat) : d.seen (l.take k) = (d.seen l).take k := by
  induction l generalizing d k with
  | nil => simp [Dec.seen]
  | cons o r ih =>
    cases k with
    | zero => rfl
    | succ k =>
      simp only [List.take_succ_cons, Dec.seen, ih]

theorem hvk' {w0 : World} {a : Addr} {k c : Nat} {l : List OpV} (h : opsAt w0 (.slice (some a) k c) l) : opsAt w0 (.slice (some (if c = 0 then a else a.add (0 * 6))) k c) l := by
  have : (if c = 0 then a else a.add (0 * 6)) = a := by
    split
    · rfl
    · unfold Addr.add
      simp
  rw [this]
  exact h
theorem prefixW (w0 : World) {b : ByteArray} {v : Value} {l : List OpV} (hv : opsAt w0 v l) (hl : l.length ≤ 9223372036854775807) {n : Nat} (hn : n < 65536) : CallsA Try.prog w0 5 [.c (.val (.string b)), .c (.val v), .c (.val (.int .u16 n))] [] fun r _ => r = .o (.c (.val (.bool true))) := by
  refine callsA_of_ev c5_ ?_
  conv => whnf
  refine Or.inl ?_
  conv => whnf
  refine ⟨fun _ => ?_, fun hb => ?_⟩
  · conv => whnf
    exact Or.inl rfl
  have hb : b.size ≤ 2147483647 := gt_f hb
  conv => whnf
  refine (zzFits2W w0 hv hl).mono ?_
  rintro _ _ ⟨b1, rfl, rfl, hl2⟩
  conv => whnf
  refine ⟨fun _ => ?_, fun h1 => ?_⟩
  · conv => whnf
    exact Or.inl rfl
  have hl2 : l.length ≤ 2147483647 := hl2 (by cases b1 <;> first | rfl | cases h1)
  conv => whnf
  refine Or.inl ?_
  conv => whnf
  refine ⟨fun _ => ?_, fun hb2 => ?_⟩
  · conv => whnf
    exact Or.inl rfl
  conv => whnf
  refine (readW w0 hv b.size 400 hl).mono ?_
  rintro _ _ ⟨b2, rfl, rfl, hr⟩
  conv => whnf
  refine ⟨fun _ => ?_, fun h2 => ?_⟩
  · conv => whnf
    exact Or.inl rfl
  obtain ⟨hl4, hr⟩ := hr (by cases b2 <;> first | rfl | cases h2)
  have hg : ∀ o ∈ l, o.good w0 ∧ o.tab.oneCell' = true := fun o ho => ⟨(hr o ho).good (hv.fits o ho), (hv.fits o ho).one⟩
  have hbb : b.size ≤ 2000 := gt_f hb2
  rcases hv.take (k := n % (l.length + 1)) (by have := Nat.mod_lt n (show 0 < l.length + 1 by omega); omega) with ⟨rfl, rfl⟩ | ⟨a, c, rfl, hlc, hvk⟩
  · conv => whnf
    simp (disch := omega) only [nadd, nwrapi, ntmod]
    refine ⟨by omega, ?_⟩
    conv => whnf
    refine (opsV w0 hv (by simp)).mono ?_
    rintro _ _ (⟨_, rfl, rfl⟩ | ⟨h, _⟩)
    · conv => whnf
      refine (decodeW0 w0 (b := b) (by omega)).mono ?_
      rintro _ _ ⟨rfl, rfl⟩
      conv => whnf
      refine ⟨rfl, by omega, Or.inl ?_⟩
      conv => whnf
      refine (opsV w0 hv (by simp)).mono ?_
      rintro _ _ (⟨_, rfl, rfl⟩ | ⟨h, _⟩)
      · conv => whnf
        refine (decodeW0 w0 (b := b) (by omega)).mono ?_
        rintro _ _ ⟨rfl, rfl⟩
        conv => whnf
        refine Or.inl ?_
        conv => whnf
        refine ⟨fun h => absurd h (by decide), fun _ => ?_⟩
        conv => whnf
        refine ⟨fun h => absurd h (by decide), fun _ => ?_⟩
        conv => whnf
        refine ⟨fun h => absurd h (by decide), fun _ => ?_⟩
        conv => whnf
        refine ⟨fun h => absurd (show 0 = n % (0 + 1) by omega) (bne_t h), fun _ => ?_⟩
        conv => whnf
        refine Or.inl ?_
        conv => whnf
        refine ⟨Unit, fun _ => ⟨[(80, .o (.c (.val (.slice none 0 0)))), (81, .o (.c (.val (.int .i64 ((0 : Nat) : Int))))), (82, .o (.c (.val (.int .i64 ((0 : Nat) : Int)))))], []⟩, fun _ => 0, ⟨(), [], ⟨rfl, trivial, rfl⟩, rfl, rfl, rfl, trivial⟩, fun _ => ?_⟩
        conv => whnf
        refine ⟨fun h => absurd (lt_t h) (by omega), fun _ => ?_⟩
        conv => whnf
        refine (aliveW w0).mono ?_
        rintro _ _ ⟨rfl, rfl⟩
        conv => whnf
        exact Or.inl rfl
      · exact absurd rfl h
    · exact absurd rfl h
  · conv => whnf
    simp (disch := omega) only [nadd, nwrapi, ntmod]
    refine ⟨by omega, ?_⟩
    have hk : n % (l.length + 1) ≤ l.length := by
      have := Nat.mod_lt n (show 0 < l.length + 1 by omega)
      omega
    generalize n % (l.length + 1) = k at *
    conv => whnf
    refine (opsV w0 hv (by omega)).mono ?_
    rintro _ _ (⟨rfl, rfl, rfl⟩ | ⟨hne, rfl, rfl⟩)
    · conv => whnf
      refine (decodeW0 w0 (b := b) (by omega)).mono ?_
      rintro _ _ ⟨rfl, rfl⟩
      conv => whnf
      obtain rfl : k = 0 := by simpa using hk
      refine ⟨⟨by omega, by omega, by omega⟩, ?_⟩
      conv => whnf
      refine (opsV w0 (hvk' hvk) (by simp)).mono ?_
      rintro _ _ (⟨_, rfl, rfl⟩ | ⟨h, _⟩)
      · conv => whnf
        refine (decodeW0 w0 (b := b) (by omega)).mono ?_
        rintro _ _ ⟨rfl, rfl⟩
        conv => whnf
        refine Or.inl ?_
        conv => whnf
        refine ⟨fun h => absurd h (by decide), fun _ => ?_⟩
        conv => whnf
        refine ⟨fun h => absurd h (by decide), fun _ => ?_⟩
        conv => whnf
        refine ⟨fun h => absurd h (by decide), fun _ => ?_⟩
        conv => whnf
        refine ⟨fun h => absurd h (by decide), fun _ => ?_⟩
        conv => whnf
        refine Or.inl ?_
        conv => whnf
        refine ⟨Unit, fun _ => ⟨[(80, .o (.c (.val (.slice none 0 0)))), (81, .o (.c (.val (.int .i64 ((0 : Nat) : Int))))), (82, .o (.c (.val (.int .i64 ((0 : Nat) : Int)))))], []⟩, fun _ => 0, ⟨(), [], ⟨rfl, trivial, rfl⟩, rfl, rfl, rfl, trivial⟩, fun _ => ?_⟩
        conv => whnf
        refine ⟨fun h => absurd (lt_t h) (by omega), fun _ => ?_⟩
        conv => whnf
        refine (aliveW w0).mono ?_
        rintro _ _ ⟨rfl, rfl⟩
        conv => whnf
        exact Or.inl rfl
      · exact absurd rfl h
    · conv => whnf
      refine (decodeW w0 (b := b) (l := l) (by omega) hne (by omega) hg).mono ?_
      rintro _ _ ⟨rfl, rfl⟩
      conv => whnf
      refine ⟨⟨by omega, by omega, by omega⟩, ?_⟩
      conv => whnf
      refine CallsA.lift (H0 := []) [] rfl trivial rfl (opsV w0 (hvk' hvk) (by rw [List.length_take]; omega)) ?_
      rintro _ _ (⟨hk0, rfl, rfl⟩ | ⟨hk0, rfl, rfl⟩)
      · conv => whnf
        refine CallsA.lift (H0 := []) [] rfl trivial rfl (decodeW0 w0 (b := b) (by omega)) ?_
        rintro _ _ ⟨rfl, rfl⟩
        conv => whnf
        refine Or.inl ?_
        conv => whnf
        obtain rfl : k = 0 := by
          rcases List.take_eq_nil_iff.1 hk0 with h | h
          · exact h
          · exact absurd h hne
        refine ⟨fun h => absurd h (by decide), fun _ => ?_⟩
        conv => whnf
        refine ⟨fun h => absurd h (by decide), fun _ => ?_⟩
        conv => whnf
        refine ⟨fun h => absurd rfl (bne_t h), fun _ => ?_⟩
        conv => whnf
        refine ⟨fun h => absurd rfl (bne_t h), fun _ => ?_⟩
        conv => whnf
        refine Or.inl ?_
        conv => whnf
        refine ⟨Unit, fun _ => ⟨[(80, .o (.c (.val (.slice none 0 0)))), (81, .o (.c (.val (.int .i64 ((0 : Nat) : Int))))), (82, .o (.c (.val (.int .i64 ((0 : Nat) : Int)))))], []⟩, fun _ => 0, ⟨(), [], ⟨rfl, trivial, rfl⟩, rfl, rfl, rfl, trivial⟩, fun _ => ?_⟩
        conv => whnf
        refine ⟨fun h => absurd (lt_t h) (by omega), fun _ => ?_⟩
        conv => whnf
        refine (aliveW w0).mono ?_
        rintro _ _ ⟨rfl, rfl⟩
        conv => whnf
        exact Or.inl rfl
      · conv => whnf
        refine CallsA.lift (H0 := [.vec true 80 encOp [] 6 (l.take k)]) [2] rfl ⟨rfl, rfl, trivial⟩ rfl (decodeW w0 (b := b) (l := l.take k) (by omega) hk0 (by rw [List.length_take]; omega) fun o ho => hg o (List.mem_of_mem_take ho)) ?_
        rintro _ _ ⟨rfl, rfl⟩
        conv => whnf
        refine Or.inl ?_
        conv => whnf
        have hkl : (l.take k).length = k := by rw [List.length_take]; omega
        have hpart := (Dec.init (bytesOf b)).seen_take l k
        have hwl := (Dec.init (bytesOf b)).seen_len l
        rw [hpart]
        generalize (Dec.init (bytesOf b)).seen l = whole at *
        rw [hkl]
        refine ⟨fun h => absurd h (by decide), fun _ => ?_⟩
        conv => whnf
        refine ⟨fun h => absurd h (by decide), fun _ => ?_⟩
        conv => whnf
        refine ⟨fun h => absurd rfl (bne_t h), fun _ => ?_⟩
        conv => whnf
        refine ⟨fun h => absurd rfl (bne_t h), fun _ => ?_⟩
        conv => whnf
        refine Or.inl ?_
        conv => whnf
        refine ⟨_root_.Fin (k + 1), fun ⟨i, _⟩ => ⟨[(8, .o (.c (.vec 0 l.length))), (80, .o (.c (.vec 1 k))), (81, .o (.c (.val (.int .i64 k)))), (82, .o (.c (.val (.int .i64 i))))], [.vec true 35 encSeen [] 6 whole, .vec true 35 encSeen [] 6 (whole.take k)]⟩, fun i => k - i.1, ⟨⟨0, by omega⟩, [1, 3], ⟨rfl, ⟨rfl, rfl, rfl, rfl, trivial⟩, rfl⟩, rfl, rfl, rfl, rfl, trivial⟩, fun ⟨i, hi⟩ => ?_⟩
        conv => whnf
        refine ⟨fun h3 => ?_, fun h3 => ?_⟩
        · have h3 : i < k := lt_t h3
          obtain ⟨x, hx⟩ : ∃ x, whole[i]? = some x := ⟨_, List.getElem?_eq_getElem (by omega)⟩
          have hx' : (whole.take k)[i]? = some x := by rw [List.getElem?_take, if_pos h3, hx]
          conv => whnf
          refine Or.inl ?_
          conv => whnf
          refine ⟨by omega, ?_⟩
          conv => whnf
          refine ⟨x, hx', ?_⟩
          conv => whnf
          refine ⟨by omega, ?_⟩
          conv => whnf
          refine ⟨x, hx, ?_⟩
          conv => whnf
          refine CallsA.lift (H0 := []) [] rfl trivial rfl (alikeW w0 x) ?_
          rintro _ _ ⟨rfl, rfl⟩
          conv => whnf
          refine ⟨trivial, ?_⟩
          conv => whnf
          refine ⟨(fun h => by cases h), fun _ => ?_⟩
          conv => whnf
          refine ⟨⟨i + 1, by omega⟩, ⟨[0, 1], ⟨rfl, ⟨rfl, rfl, rfl, rfl, trivial⟩, rfl⟩, rfl, rfl, rfl, eq_i64 ?_, trivial⟩, ?_⟩
          · rw [nadd, nwrapi (by omega)]
          · show k - (i + 1) < k - i
            omega
        · conv => whnf
          refine CallsA.lift (H0 := []) [] rfl trivial rfl (aliveW w0) ?_
          rintro _ _ ⟨rfl, rfl⟩
          conv => whnf
          exact Or.inl rfl
end Go.Proofs.Ytkomikpfnogjcaa
end
section
namespace Go.Proofs.Ytkomikpfnogjcaa
open Go Go.Vc

/-- Eighths of a bit that the range stands for. -/
def lf (r : Nat) : Nat := (fracIter (r / 2 ^ (len r - 16), len r) 3).2
theorem frac_lf (t r : Nat) : frac t r = t * 8 - lf r := rfl
def lexP (p q : Nat × Nat) : Prop := p.2 < q.2 ∨ (p.2 = q.2 ∧ p.1 ≤ q.1)
theorem fracStep_lex {p q : Nat × Nat} (hp : p.1 < 65536) (hp0 : 32768 ≤ p.1) (hq : q.1 < 65536) (hq0 : 32768 ≤ q.1) (h : lexP p q) : lexP (fracStep p) (fracStep q) := by
  obtain ⟨a, l⟩ := p
  obtain ⟨b, m⟩ := q
  simp only at hp hp0 hq hq0
  have h1 : a * a ≤ 65535 * 65535 := Nat.mul_le_mul (by omega) (by omega)
  have h2 : b * b ≤ 65535 * 65535 := Nat.mul_le_mul (by omega) (by omega)
  rcases h with h | ⟨h, h3⟩
  · simp only at h
    refine Or.inl ?_
    unfold fracStep
    simp only
    generalize a * a = x at *
    generalize b * b = y at *
    omega
  · simp only at h h3
    have h4 : a * a ≤ b * b := Nat.mul_le_mul h3 h3
    unfold fracStep lexP
    simp only
    generalize a * a = x at *
    generalize b * b = y at *
    split <;> split <;> omega
theorem fracStep_two (p : Nat × Nat) (h : p.1 < 65536) : 2 * p.2 ≤ (fracStep p).2 ∧ (fracStep p).2 ≤ 2 * p.2 + 1 := by
  have h1 : p.1 * p.1 ≤ 65535 * 65535 := Nat.mul_le_mul (by omega) (by omega)
  unfold fracStep
  simp only
  generalize p.1 * p.1 = x at *
  omega
theorem lf_bounds {r : Nat} (h : 8388608 ≤ r) : 8 * len r ≤ lf r ∧ lf r ≤ 8 * len r + 7 := by
  obtain ⟨h1, h2⟩ := top_bits h
  unfold lf
  generalize r / 2 ^ (len r - 16) = m at *
  generalize len r = l at *
  have a := fracStep_lt (p := (m, l)) h1 h2
  have a2 := fracStep_two (m, l) h2
  have b := fracStep_lt (p := fracStep (m, l)) a.1 a.2.1
  have b2 := fracStep_two (fracStep (m, l)) a.2.1
  have c2 := fracStep_two (fracStep (fracStep (m, l))) b.2.1
  show 8 * l ≤ (fracStep (fracStep (fracStep (m, l)))).2 ∧ (fracStep (fracStep (fracStep (m, l)))).2 ≤ 8 * l + 7
  simp only at a2
  omega
theorem len_mono {r s : Nat} (h0 : 1 ≤ r) (h : r ≤ s) : len r ≤ len s := by
  obtain ⟨k, h1, h2, h3⟩ := len_spec (n := r) (by omega)
  have := le_len (n := s) (k := k) (by omega)
  omega
theorem lf_mono {r s : Nat} (h : 8388608 ≤ r) (hs : r ≤ s) : lf r ≤ lf s := by
  rcases Nat.lt_or_ge (len r) (len s) with hl | hl
  · have h1 := lf_bounds h
    have h2 := lf_bounds (r := s) (by omega)
    omega
  · have hl : len r = len s := Nat.le_antisymm (len_mono (by omega) hs) hl
    obtain ⟨h1, h2⟩ := top_bits h
    obtain ⟨h3, h4⟩ := top_bits (n := s) (by omega)
    have h5 : r / 2 ^ (len r - 16) ≤ s / 2 ^ (len s - 16) := by
      rw [hl]
      exact Nat.div_le_div_right hs
    unfold lf
    generalize r / 2 ^ (len r - 16) = x at *
    generalize s / 2 ^ (len s - 16) = y at *
    rw [hl]
    generalize len s = l at *
    have k0 : lexP (x, l) (y, l) := Or.inr ⟨rfl, h5⟩
    have x1 := fracStep_lt (p := (x, l)) h1 h2
    have y1 := fracStep_lt (p := (y, l)) h3 h4
    have k1 := fracStep_lex h2 h1 h4 h3 k0
    have x2 := fracStep_lt (p := fracStep (x, l)) x1.1 x1.2.1
    have y2 := fracStep_lt (p := fracStep (y, l)) y1.1 y1.2.1
    have k2 := fracStep_lex x1.2.1 x1.1 y1.2.1 y1.1 k1
    have k3 := fracStep_lex x2.2.1 x2.1 y2.2.1 y2.1 k2
    show (fracStep (fracStep (fracStep (x, l)))).2 ≤ (fracStep (fracStep (fracStep (y, l)))).2
    rcases k3 with h | ⟨h, _⟩ <;> omega
theorem lf_top : lf 2147483648 = 256 := by decide +kernel

/-- Behind an act no fewer bits are used than ahead of it. -/
def Dec.grows (d e : Dec) : Prop := lf e.rng + 8 * d.nb ≤ lf d.rng + 8 * e.nb
theorem Dec.norm_rng (d : Dec) (h : 1 ≤ d.rng) : ∃ k, k ≤ 3 ∧ d.norm.rng = d.rng * 256 ^ k ∧ d.norm.nb = d.nb + 8 * k ∧ (k = 0 ∨ d.rng * 256 ^ k ≤ 2147483648) ∧ 8388608 < d.norm.rng := by
  have s1 : d.step.rng = d.rng * 256 := rfl
  have s2 : d.step.step.rng = d.rng * 256 * 256 := rfl
  have s3 : d.step.step.step.rng = d.rng * 256 * 256 * 256 := rfl
  unfold Dec.norm
  split
  · split
    · split
      · exact ⟨3, by omega, by rw [s3]; omega, rfl, Or.inr (by omega), by omega⟩
      · exact ⟨2, by omega, by rw [s2]; omega, rfl, Or.inr (by omega), by omega⟩
    · exact ⟨1, by omega, by rw [s1], rfl, Or.inr (by omega), by omega⟩
  · exact ⟨0, by omega, by omega, rfl, Or.inl rfl, by omega⟩
theorem Dec.grows_norm {d e : Dec} (hd : 8388608 < d.rng) (h1 : 1 ≤ e.rng) (h2 : e.rng ≤ d.rng) (hn : e.nb = d.nb) : d.grows e.norm := by
  obtain ⟨k, hk, hr, hb, ho, hg⟩ := e.norm_rng h1
  unfold Dec.grows
  rw [hb, hn]
  rcases ho with rfl | ho
  · have : e.norm.rng = e.rng := by rw [hr]; omega
    rw [this] at hg ⊢
    have := lf_mono (r := e.rng) (s := d.rng) (by omega) h2
    omega
  · have h3 := lf_bounds (r := d.rng) (by omega)
    have h4 := le_len (n := d.rng) (k := 23) (by omega)
    have h5 := lf_mono (r := e.norm.rng) (s := 2147483648) (by omega) (by omega)
    rw [lf_top] at h5
    rcases Nat.eq_zero_or_pos k with rfl | hk0
    · have : e.norm.rng = e.rng := by rw [hr]; omega
      rw [this] at hg ⊢
      have := lf_mono (r := e.rng) (s := d.rng) (by omega) h2
      omega
    · omega
theorem Dec.grows_cut {d : Dec} {N n low high : Nat} (h : d.inv N) (hn : 1 ≤ n) (hn2 : n ≤ 65536) (hl : low ≤ d.at n) (hh : d.at n < high) (hhn : high ≤ n) : d.grows (d.cut (d.rng / n) low high n).norm := by
  obtain ⟨h1, h2, h3, h4⟩ := d.at_spec h hn hn2
  obtain ⟨h5, h6⟩ := h4 low high hl hh hhn
  have hlo := h.lo
  refine Dec.grows_norm hlo ?_ ?_ rfl
  · generalize d.rng / n = s at *
    have e1 : s * (n - high) + s * high = s * n := by rw [← Nat.mul_add, Nat.sub_add_cancel hhn]
    have e3 : 1 ≤ s * (high - low) := Nat.mul_pos h2 (by omega)
    have e4 : 1 ≤ s * high := Nat.mul_pos h2 (by omega)
    show 1 ≤ (if low ≠ 0 then s * (high - low) else d.rng - s * (n - high))
    split <;> omega
  · generalize d.rng / n = s at *
    have e2 : s * (high - low) ≤ s * n := Nat.mul_le_mul_left s (by omega)
    show (if low ≠ 0 then s * (high - low) else d.rng - s * (n - high)) ≤ d.rng
    split <;> omega
theorem Dec.grows_raw (d : Dec) (n : Nat) : d.grows (d.rawOn n) := by
  show lf d.rng + 8 * d.nb ≤ lf d.rng + 8 * (d.nb + n)
  omega
theorem Dec.grows_trans {a b c : Dec} (h1 : a.grows b) (h2 : b.grows c) : a.grows c := by
  unfold Dec.grows at *
  omega
theorem Dec.grows_act {w0 : World} {d : Dec} {N : Nat} (h : d.inv N) {o : OpV} (ho : o.good w0) : d.grows (d.act o).2.2 := by
  have hlo := h.lo
  have guni : ∀ n, 1 ≤ n → n ≤ 65536 → d.grows (d.uni n) := fun n h1 h2 => Dec.grows_cut h h1 h2 (Nat.le_refl _) (Nat.lt_succ_self _) (d.at_spec h h1 h2).1
  unfold Dec.act
  rcases ho.kind with ⟨e, h1, h2, h3⟩ | ⟨e, h1, h2⟩ | ⟨e, total, rest, ta, c, hr, ht, _⟩ | ⟨e, h1⟩ | ⟨e, h1⟩ | ⟨e, h1, h2, h3⟩ | e
  · rw [e, if_pos rfl]
    simp only
    split
    · rename_i hc
      exact Dec.grows_cut h h1 (by omega) hc.1 hc.2 h3
    · exact guni _ h1 (by omega)
  · rw [e, if_neg (by decide), if_pos rfl]
    show d.grows (d.logp o.a).2
    unfold Dec.logp
    have hp : 2 ^ o.a ≤ 2 ^ 15 := Nat.pow_le_pow_right (by omega) h2
    have hp1 : 2 ^ 1 ≤ 2 ^ o.a := Nat.pow_le_pow_right (by omega) h1
    have k1 : 1 ≤ d.rng / 2 ^ o.a := Nat.div_pos (by omega) (by omega)
    have k3 := Nat.mul_le_mul_left (d.rng / 2 ^ o.a) hp1
    have k2 := Nat.div_mul_le_self d.rng (2 ^ o.a)
    split
    · refine Dec.grows_norm hlo ?_ ?_ rfl
      · show 1 ≤ d.rng - d.rng / 2 ^ o.a
        omega
      · show d.rng - d.rng / 2 ^ o.a ≤ d.rng
        omega
    · refine Dec.grows_norm hlo ?_ ?_ rfl
      · exact k1
      · show d.rng / 2 ^ o.a ≤ d.rng
        omega
  · rw [e, if_neg (by decide), if_neg (by decide), if_pos rfl, hr]
    obtain ⟨a, b, c, e, f, g⟩ := tabK_spec ht (d.at_spec h ht.lo ht.hi).1
    exact Dec.grows_cut h ht.lo ht.hi f c e
  · rw [e, if_neg (by decide), if_neg (by decide), if_neg (by decide), if_pos rfl]
    show d.grows (d.whole o.a).2.2
    have a32 := ho.a32
    unfold Dec.whole
    split
    · rename_i hl
      have := small_of_len hl
      exact guni _ (by omega) (by omega)
    · rename_i hl
      obtain ⟨g1, g2⟩ := top_small (n := o.a - 1) (by omega)
      exact Dec.grows_trans (guni _ (by omega) (by omega)) (Dec.grows_raw _ _)
  · rw [e, if_neg (by decide), if_neg (by decide), if_neg (by decide), if_neg (by decide), if_pos rfl]
    exact d.grows_raw _
  · rw [e, if_neg (by decide), if_neg (by decide), if_neg (by decide), if_neg (by decide), if_neg (by decide), if_pos rfl]
    have hat := (d.at_spec h (n := 32768) (by omega) (by omega)).1
    obtain ⟨a, b, c⟩ := lap_spec (fs := o.a) (decay := o.b) h1 hat
    exact Dec.grows_cut h (by omega) (by omega) a b c
  · rw [e, if_neg (by decide), if_neg (by decide), if_neg (by decide), if_neg (by decide), if_neg (by decide), if_neg (by decide)]
    exact Nat.le_refl _
theorem Dec.init_lf (xs : List Int) : lf (Dec.init xs).rng + 8 ≤ 8 * (Dec.init xs).nb := by
  obtain ⟨k, hk, hr, hb, _, hg⟩ := (Dec.init0 xs).norm_rng (by show 1 ≤ 128; omega)
  have e1 : (Dec.init0 xs).rng = 128 := rfl
  have e2 : (Dec.init0 xs).nb = 9 := rfl
  have e3 : Dec.init xs = (Dec.init0 xs).norm := rfl
  rw [e1] at hr
  rw [e2] at hb
  rw [e3, hb]
  rw [hr] at hg ⊢
  rcases k with _ | _ | _ | _ | k
  · omega
  · omega
  · omega
  · rw [show 128 * 256 ^ (0 + 1 + 1 + 1) = 2147483648 by rfl, lf_top]
    omega
  · omega
/-- What is told of a decoder, in bits and in eighths. -/
theorem Dec.told_tell {d : Dec} (h : 8388608 < d.rng) (h2 : d.rng ≤ 2147483648) (hp : lf d.rng + 8 ≤ 8 * d.nb) (hn : d.nb ≤ 100000) (v : Int) (f : Bool) :
    (d.told v f).frac = 8 * d.nb - lf d.rng ∧ (d.told v f).tell = ((d.told v f).frac + 7) / 8 ∧ 8 ≤ (d.told v f).frac ∧ (d.told v f).frac ≤ 800000 := by
  have hb := lf_bounds (r := d.rng) (by omega)
  have e1 : (d.told v f).frac = (d.nb * 8 - lf d.rng) % 4294967296 := rfl
  have e2 : (d.told v f).tell = (d.nb - len d.rng) % 4294967296 := rfl
  rw [e1, e2]
  omega
/-- What is told behind each operation: it never falls. -/
inductive Tells : Nat → Nat → List SeenV → Prop where
  | nil {t f : Nat} : Tells t f []
  | cons {t f : Nat} {s : SeenV} {r : List SeenV} : t ≤ s.tell → f ≤ s.frac → s.tell = (s.frac + 7) / 8 → s.frac ≤ 800000 → Tells s.tell s.frac r → Tells t f (s :: r)
theorem Dec.seen_tells {w0 : World} : ∀ {l : List OpV} {d : Dec} {N t f : Nat}, d.inv N → N + 64 * l.length ≤ 100000 → (∀ o ∈ l, o.good w0) → lf d.rng + 8 ≤ 8 * d.nb → t ≤ (8 * d.nb - lf d.rng + 7) / 8 → f ≤ 8 * d.nb - lf d.rng → Tells t f (d.seen l)
  | [], d, N, t, f, _, _, _, _, _, _ => .nil
  | o :: r, d, N, t, f, h, hN, hg, hp, ht, hf => by
    simp only [List.length_cons] at hN
    have h1 := Dec.act_inv h (by omega) (hg o (by simp))
    have h2 := Dec.grows_act h (hg o (by simp))
    have hp2 : lf (d.act o).2.2.rng + 8 ≤ 8 * (d.act o).2.2.nb := by
      unfold Dec.grows at h2
      omega
    have hnb := h1.nb
    obtain ⟨a, b, c, e⟩ := Dec.told_tell (d := (d.act o).2.2) h1.lo h1.hi hp2 (by omega) (d.act o).1 (d.act o).2.1
    unfold Dec.grows at h2
    show Tells t f ((d.act o).2.2.told (d.act o).1 (d.act o).2.1 :: (d.act o).2.2.seen r)
    refine .cons (by omega) (by omega) b e (Dec.seen_tells (w0 := w0) h1 (by omega) (fun x hx => hg x (by simp [hx])) hp2 (by omega) (by omega))
end Go.Proofs.Ytkomikpfnogjcaa
end
section
namespace Go.Proofs.Ytkomikpfnogjcaa
open Go Go.Vc
set_option maxRecDepth 100000
set_option maxHeartbeats 4000000

theorem tells_drop {whole : List SeenV} {i t f : Nat} (h : i < whole.length) (ht : Tells t f (whole.drop i)) : ∃ s, whole[i]? = some s ∧ t ≤ s.tell ∧ f ≤ s.frac ∧ s.tell = (s.frac + 7) / 8 ∧ s.frac ≤ 800000 ∧ Tells s.tell s.frac (whole.drop (i + 1)) := by
  rw [List.drop_eq_getElem_cons h] at ht
  cases ht with
  | cons a b c d e => exact ⟨_, List.getElem?_eq_getElem h, a, b, c, d, e⟩
theorem tellW (w0 : World) {b : ByteArray} {v : Value} {l : List OpV} (hv : opsAt w0 v l) (hl : l.length ≤ 9223372036854775807) : CallsA Try.prog w0 8 [.c (.val (.string b)), .c (.val v)] [] fun r _ => r = .o (.c (.val (.bool true))) := by
  refine callsA_of_ev c8_ ?_
  conv => whnf
  refine Or.inl ?_
  conv => whnf
  refine ⟨fun _ => ?_, fun hb => ?_⟩
  · conv => whnf
    exact Or.inl rfl
  have hb : b.size ≤ 2147483647 := gt_f hb
  conv => whnf
  refine (zzFits2W w0 hv hl).mono ?_
  rintro _ _ ⟨b1, rfl, rfl, hl2⟩
  conv => whnf
  refine ⟨fun _ => ?_, fun h1 => ?_⟩
  · conv => whnf
    exact Or.inl rfl
  have hl2 : l.length ≤ 2147483647 := hl2 (by cases b1 <;> first | rfl | cases h1)
  conv => whnf
  refine Or.inl ?_
  conv => whnf
  refine ⟨fun _ => ?_, fun hb2 => ?_⟩
  · conv => whnf
    exact Or.inl rfl
  conv => whnf
  refine (readW w0 hv b.size 400 hl).mono ?_
  rintro _ _ ⟨b2, rfl, rfl, hr⟩
  conv => whnf
  refine ⟨fun _ => ?_, fun h2 => ?_⟩
  · conv => whnf
    exact Or.inl rfl
  obtain ⟨hl4, hr⟩ := hr (by cases b2 <;> first | rfl | cases h2)
  have hg : ∀ o ∈ l, o.good w0 ∧ o.tab.oneCell' = true := fun o ho => ⟨(hr o ho).good (hv.fits o ho), (hv.fits o ho).one⟩
  have hbb : b.size ≤ 2000 := gt_f hb2
  conv => whnf
  refine (opsV w0 hv (by omega)).mono ?_
  rintro _ _ (⟨rfl, rfl, rfl⟩ | ⟨hne, rfl, rfl⟩)
  · conv => whnf
    refine (decodeW0 w0 (b := b) (by omega)).mono ?_
    rintro _ _ ⟨rfl, rfl⟩
    conv => whnf
    refine Or.inl ?_
    conv => whnf
    refine ⟨fun h => absurd h (by decide), fun _ => ?_⟩
    conv => whnf
    refine Or.inl ?_
    conv => whnf
    refine ⟨Unit, fun _ => ⟨[(7, .o (.c (.val (.int .u32 ((1 : Nat) : Int))))), (8, .o (.c (.val (.int .u32 ((0 : Nat) : Int))))), (40, .o (.c (.val (.slice none 0 0)))), (41, .o (.c (.val (.int .i64 ((0 : Nat) : Int))))), (42, .o (.c (.val (.int .i64 ((0 : Nat) : Int)))))], []⟩, fun _ => 0, ⟨(), [], ⟨rfl, trivial, rfl⟩, rfl, rfl, rfl, rfl, rfl, trivial⟩, fun _ => ?_⟩
    conv => whnf
    refine ⟨fun h => absurd (lt_t h) (by omega), fun _ => ?_⟩
    conv => whnf
    refine (aliveW w0).mono ?_
    rintro _ _ ⟨rfl, rfl⟩
    conv => whnf
    exact Or.inl rfl
  · conv => whnf
    refine (decodeW w0 (b := b) (l := l) (by omega) hne (by omega) hg).mono ?_
    rintro _ _ ⟨rfl, rfl⟩
    have hwl := (Dec.init (bytesOf b)).seen_len l
    have htells : Tells 1 0 ((Dec.init (bytesOf b)).seen l) := by
      have hbl := bytesOf_len b
      obtain ⟨i1, i2, i3⟩ := Dec.init_inv (bytesOf_lt b) (by omega)
      have i4 := Dec.init_lf (bytesOf b)
      exact Dec.seen_tells (w0 := w0) i1 (by omega) (fun o ho => (hg o ho).1) i4 (by omega) (by omega)
    generalize (Dec.init (bytesOf b)).seen l = whole at *
    conv => whnf
    refine Or.inl ?_
    conv => whnf
    refine ⟨fun h => absurd h (by decide), fun _ => ?_⟩
    conv => whnf
    refine Or.inl ?_
    conv => whnf
    refine ⟨{p : Nat × Nat × Nat // p.1 ≤ l.length ∧ Tells p.2.1 p.2.2 (whole.drop p.1)}, fun ⟨(i, t, f), _⟩ => ⟨[(7, .o (.c (.val (.int .u32 t)))), (8, .o (.c (.val (.int .u32 f)))), (40, .o (.c (.vec 0 l.length))), (41, .o (.c (.val (.int .i64 l.length)))), (42, .o (.c (.val (.int .i64 i))))], [.vec true 35 encSeen [] 6 whole]⟩, fun p => l.length - p.1.1, ⟨⟨(0, 1, 0), Nat.zero_le _, htells⟩, [1], ⟨rfl, ⟨rfl, rfl, trivial⟩, rfl⟩, rfl, rfl, rfl, rfl, rfl, trivial⟩, fun ⟨(i, t, f), hi, hti⟩ => ?_⟩
    simp only at hi hti
    conv => whnf
    refine ⟨fun h3 => ?_, fun h3 => ?_⟩
    · have h3 : i < l.length := lt_t h3
      obtain ⟨s, hs, k1, k2, k3, k4, k5⟩ := tells_drop (by omega) hti
      conv => whnf
      refine Or.inl ?_
      conv => whnf
      refine ⟨by omega, ?_⟩
      conv => whnf
      refine ⟨s, hs, ?_⟩
      conv => whnf
      refine Or.inl ?_
      conv => whnf
      refine ⟨fun h => absurd (lt_t h) (by omega), fun _ => ?_⟩
      conv => whnf
      refine ⟨fun h => absurd (lt_t h) (by omega), fun _ => ?_⟩
      conv => whnf
      simp (disch := omega) only [nadd, nwrap32, ntdiv]
      refine ⟨fun h => absurd k3 (bne_t h), fun _ => ?_⟩
      conv => whnf
      refine ⟨⟨(i + 1, s.tell, s.frac), by show i + 1 ≤ l.length; omega, k5⟩, ⟨[0], ⟨rfl, ⟨rfl, rfl, trivial⟩, rfl⟩, rfl, rfl, rfl, rfl, eq_i64 ?_, trivial⟩, ?_⟩
      · try rw [nadd, nwrapi (by omega)]
      · show l.length - (i + 1) < l.length - i
        omega
    · conv => whnf
      refine CallsA.lift (H0 := []) [] rfl trivial rfl (aliveW w0) ?_
      rintro _ _ ⟨rfl, rfl⟩
      conv => whnf
      exact Or.inl rfl
end Go.Proofs.Ytkomikpfnogjcaa
end
