/- What is kept between the decoder's operations. -/
import Derived.Test.YtkomikpfnogjcaaRcF
namespace Go.Proofs.Ytkomikpfnogjcaa
open Go Go.Vc
set_option maxRecDepth 100000

structure Dec.inv (d : Dec) (N : Nat) : Prop where
  bytes : ∀ x ∈ d.data, 0 ≤ x ∧ x < 256
  len : d.data.length ≤ 1099511627776
  br : d.br ≤ 8796093022208
  nb : d.nb ≤ N
  rb : d.rb ≤ N
  lo : 8388608 < d.rng
  hi : d.rng ≤ 2147483648
  val : d.val < d.rng
theorem Dec.inv.pre {d : Dec} {N : Nat} (h : d.inv N) (hN : N ≤ 2305843009213693952) : d.pre := by
  have := h.nb; have := h.rb; have := h.lo; have := h.hi; have := h.val
  exact ⟨⟨h.bytes, h.len, h.br, by omega, by omega⟩, by omega, by omega, by omega, by omega⟩
theorem Dec.iter_val {d : Dec} (hv : d.val < d.rng) : ∀ k, (d.iter k).val < (d.iter k).rng
  | 0 => hv
  | k + 1 => by
    have := Dec.iter_val hv k
    show ((d.iter k).val * 256 + (255 - (d.iter k).bits 8)) % 2147483648 < (d.iter k).rng * 256
    exact Nat.lt_of_le_of_lt (Nat.mod_le _ _) (by omega)
theorem Dec.iter_data {d : Dec} : ∀ k, (d.iter k).data = d.data ∧ (d.iter k).rb = d.rb
  | 0 => ⟨rfl, rfl⟩
  | k + 1 => Dec.iter_data k
/-- A decoder whose range is no more than small is brought to a great range. -/
theorem Dec.norm_inv {d : Dec} {N : Nat} (hN : N ≤ 1152921504606846976) (hb : ∀ x ∈ d.data, 0 ≤ x ∧ x < 256) (hl : d.data.length ≤ 1099511627776) (hbr : d.br ≤ 8796093022208) (hnb : d.nb ≤ N) (hrb : d.rb ≤ N) (hlo : 1 ≤ d.rng) (hhi : d.rng ≤ 2147483648) (hv : d.val < d.rng) :
    d.norm.inv (N + 24) ∧ d.norm.data = d.data ∧ d.norm.rb = d.rb := by
  have hok : d.ok := ⟨hb, hl, hbr, by omega, by omega⟩
  have key : ∃ k, k ≤ 3 ∧ (∀ i, i < k → (d.iter i).rng ≤ 8388608) ∧ 8388608 < (d.iter k).rng := by
    have hr := fun k hk => (d.iter_facts hok (by omega) k hk).2.1
    have h0 := hr 0 (by omega); have h1 := hr 1 (by omega); have h2 := hr 2 (by omega); have h3 := hr 3 (by omega)
    by_cases c0 : 8388608 < (d.iter 0).rng
    · exact ⟨0, by omega, fun i hi => by omega, c0⟩
    by_cases c1 : 8388608 < (d.iter 1).rng
    · refine ⟨1, by omega, fun i hi => ?_, c1⟩
      have : i = 0 := by omega
      subst this
      omega
    by_cases c2 : 8388608 < (d.iter 2).rng
    · refine ⟨2, by omega, fun i hi => ?_, c2⟩
      rcases (show i = 0 ∨ i = 1 by omega) with rfl | rfl <;> omega
    · refine ⟨3, by omega, fun i hi => ?_, ?_⟩
      · rcases (show i = 0 ∨ i = 1 ∨ i = 2 by omega) with rfl | rfl | rfl <;> omega
      · rw [h3]
        omega
  obtain ⟨k, hk, h1, h2⟩ := key
  obtain ⟨g1, g2, g3⟩ := d.iter_facts hok (by omega) k (by omega)
  obtain ⟨e1, e2⟩ := d.iter_data k
  rw [d.norm_iter hk h1 h2]
  refine ⟨⟨g1.bytes, g1.len, g1.br, by omega, by omega, h2, ?_, d.iter_val hv k⟩, e1, e2⟩
  cases k with
  | zero => exact hhi
  | succ k =>
    have := h1 k (by omega)
    show (d.iter k).rng * 256 ≤ _
    omega

/-! Symbols -/
theorem Dec.at_spec {d : Dec} {N n : Nat} (h : d.inv N) (hn : 1 ≤ n) (hn2 : n ≤ 65536) :
    d.at n < n ∧ 1 ≤ d.rng / n ∧ d.rng / n * n ≤ d.rng ∧ ∀ low high, low ≤ d.at n → d.at n < high → high ≤ n → d.rng / n * (n - high) ≤ d.val ∧ (low ≠ 0 → d.val < d.rng / n * (n - low)) := by
  have hlo := h.lo
  have hhi := h.hi
  have hs : 1 ≤ d.rng / n := Nat.div_pos (by omega) hn
  have hmul := Nat.div_mul_le_self d.rng n
  refine ⟨?_, hs, hmul, fun low high hl hh hhn => ?_⟩
  · unfold Dec.at
    generalize d.val / (d.rng / n) = q
    omega
  · unfold Dec.at at hl hh
    generalize hsc : d.rng / n = s at *
    have hdm := Nat.div_add_mod d.val s
    have hml := Nat.mod_lt d.val (show 0 < s by omega)
    generalize d.val / s = q at *
    constructor
    · have : n - high ≤ q := by omega
      have := Nat.mul_le_mul_left s this
      omega
    · intro hl0
      have h1 : q + 1 ≤ n - low := by omega
      have h2 := Nat.mul_le_mul_left s h1
      have h3 : s * (q + 1) = s * q + s := Nat.mul_succ s q
      omega

theorem Dec.cut_inv {d : Dec} {N n low high : Nat} (h : d.inv N) (hN : N ≤ 1152921504606846976) (hn : 1 ≤ n) (hn2 : n ≤ 65536) (hl : low ≤ d.at n) (hh : d.at n < high) (hhn : high ≤ n) :
    (d.cut (d.rng / n) low high n).norm.inv (N + 24) ∧ (d.cut (d.rng / n) low high n).norm.data = d.data ∧ (d.cut (d.rng / n) low high n).norm.rb = d.rb := by
  obtain ⟨h1, h2, h3, h4⟩ := d.at_spec h hn hn2
  obtain ⟨h5, h6⟩ := h4 low high hl hh hhn
  have hlo := h.lo; have hhi := h.hi; have hv := h.val
  generalize d.rng / n = s at *
  have e1 : s * (n - high) + s * high = s * n := by rw [← Nat.mul_add, Nat.sub_add_cancel hhn]
  have e2 : s * (high - low) + s * low = s * high := by rw [← Nat.mul_add, Nat.sub_add_cancel (by omega)]
  have e3 : 1 ≤ s * (high - low) := Nat.mul_pos h2 (by omega)
  have e4 : s * (n - low) + s * low = s * n := by rw [← Nat.mul_add, Nat.sub_add_cancel (by omega)]
  have := Dec.norm_inv (d := d.cut s low high n) hN h.bytes h.len h.br h.nb h.rb ?_ ?_ ?_
  · exact this
  · show 1 ≤ (if low ≠ 0 then _ else _)
    split <;> omega
  · show (if low ≠ 0 then _ else _) ≤ _
    split <;> omega
  · show d.val - s * (n - high) < (if low ≠ 0 then _ else _)
    split
    · rename_i hl0
      have := h6 hl0
      omega
    · omega

theorem updateAt (w0 : World) {d : Dec} {N n low high : Nat} (h : d.inv N) (hN : N ≤ 1152921504606846976) (hn : 1 ≤ n) (hn2 : n ≤ 65536) (hl : low ≤ d.at n) (hh : d.at n < high) (hhn : high ≤ n) :
    CallsA Try.prog w0 84 [.c (.ptr 0 0), .c (.val (.int .u32 (d.rng / n : Nat))), .c (.val (.int .u32 low)), .c (.val (.int .u32 high)), .c (.val (.int .u32 n))] d.H fun r H => r = .t [] ∧ H = (d.cut (d.rng / n) low high n).norm.H := by
  obtain ⟨h1, h2, h3, h4⟩ := d.at_spec h hn hn2
  obtain ⟨h5, h6⟩ := h4 low high hl hh hhn
  exact (update w0 d (h.pre (by omega)) h2 (by omega) hhn h3 h5).mono fun r H h => ⟨h.1, h.2.1⟩

theorem cumulative (w0 : World) {d : Dec} {N n : Nat} (h : d.inv N) (hn : 1 ≤ n) (hn2 : n ≤ 65536) :
    CallsA Try.prog w0 39 [.c (.ptr 0 0), .c (.val (.int .u32 n))] d.H fun r H => r = u32 (d.at n) ∧ H = d.H := by
  have hlo := h.lo; have hhi := h.hi; have hv := h.val
  refine callsA_of_ev c39_ ?_
  conv => whnf
  refine (uniSym w0 d hn (by omega) (by omega) (by omega)).mono ?_
  rintro _ _ ⟨rfl, rfl⟩
  conv => whnf
  exact Or.inl ⟨rfl, rfl⟩
theorem updCumulative (w0 : World) {d : Dec} {N n low high : Nat} (h : d.inv N) (hN : N ≤ 1152921504606846976) (hn : 1 ≤ n) (hn2 : n ≤ 65536) (hl : low ≤ d.at n) (hh : d.at n < high) (hhn : high ≤ n) :
    CallsA Try.prog w0 40 [.c (.ptr 0 0), .c (.val (.int .u32 low)), .c (.val (.int .u32 high)), .c (.val (.int .u32 n))] d.H fun r H => r = .t [] ∧ H = (d.cut (d.rng / n) low high n).norm.H := by
  have hlo := h.lo; have hhi := h.hi; have hv := h.val
  have hq := Nat.div_le_self d.rng n
  refine callsA_of_ev c40_ ?_
  conv => whnf
  simp (disch := omega) only [ntdiv, nwrap32]
  refine ⟨by omega, ?_⟩
  conv => whnf
  refine (updateAt w0 h hN hn hn2 hl hh hhn).mono ?_
  rintro _ _ ⟨rfl, rfl⟩
  conv => whnf
  exact Or.inl ⟨rfl, rfl⟩
def Dec.uni (d : Dec) (n : Nat) : Dec := (d.cut (d.rng / n) (d.at n) (d.at n + 1) n).norm
theorem uniUpd (w0 : World) {d : Dec} {N n : Nat} (h : d.inv N) (hN : N ≤ 1152921504606846976) (hn : 1 ≤ n) (hn2 : n ≤ 65536) :
    CallsA Try.prog w0 87 [.c (.ptr 0 0), .c (.val (.int .u32 n))] d.H fun r H => r = u32 (d.at n) ∧ H = (d.uni n).H := by
  have hlo := h.lo; have hhi := h.hi; have hv := h.val
  have hq := Nat.div_le_self d.rng n
  obtain ⟨h1, h2, h3, h4⟩ := d.at_spec h hn hn2
  refine callsA_of_ev c87_ ?_
  conv => whnf
  refine (uniSym w0 d hn (by omega) (by omega) (by omega)).mono ?_
  rintro _ _ ⟨rfl, rfl⟩
  conv => whnf
  simp (disch := omega) only [ntdiv, nwrap32]
  refine ⟨by omega, ?_⟩
  conv => whnf
  simp (disch := omega) only [nadd, nwrap32]
  refine (updateAt w0 h hN hn hn2 (Nat.le_refl _) (Nat.lt_succ_self _) h1).mono ?_
  rintro _ _ ⟨rfl, rfl⟩
  conv => whnf
  exact Or.inl ⟨rfl, rfl⟩

def Dec.logp (d : Dec) (k : Nat) : Nat × Dec :=
  if d.rng / 2 ^ k ≤ d.val then (0, { d with val := d.val - d.rng / 2 ^ k, rng := d.rng - d.rng / 2 ^ k }.norm) else (1, { d with rng := d.rng / 2 ^ k }.norm)
theorem Dec.logp_inv {d : Dec} {N k : Nat} (h : d.inv N) (hN : N ≤ 1152921504606846976) (hk : 1 ≤ k) (hk2 : k ≤ 15) : (d.logp k).2.inv (N + 24) ∧ (d.logp k).2.data = d.data ∧ (d.logp k).2.rb = d.rb ∧ 1 ≤ d.rng / 2 ^ k ∧ 2 * (d.rng / 2 ^ k) ≤ d.rng := by
  have hlo := h.lo; have hhi := h.hi; have hv := h.val
  have hp : 2 ^ k ≤ 2 ^ 15 := Nat.pow_le_pow_right (by omega) hk2
  have hp1 : 2 ^ 1 ≤ 2 ^ k := Nat.pow_le_pow_right (by omega) hk
  have h1 : 1 ≤ d.rng / 2 ^ k := Nat.div_pos (by omega) (by omega)
  have h2 : 2 * (d.rng / 2 ^ k) ≤ d.rng := by
    have := Nat.div_mul_le_self d.rng (2 ^ k)
    have h3 := Nat.mul_le_mul_left (d.rng / 2 ^ k) hp1
    omega
  unfold Dec.logp
  split
  · obtain ⟨a, b, c⟩ := Dec.norm_inv (d := { d with val := d.val - d.rng / 2 ^ k, rng := d.rng - d.rng / 2 ^ k }) hN h.bytes h.len h.br h.nb h.rb (by show 1 ≤ d.rng - _; omega) (by show d.rng - _ ≤ _; omega) (by show d.val - _ < d.rng - _; omega)
    exact ⟨a, b, c, h1, h2⟩
  · obtain ⟨a, b, c⟩ := Dec.norm_inv (d := { d with rng := d.rng / 2 ^ k }) hN h.bytes h.len h.br h.nb h.rb (by show 1 ≤ d.rng / _; omega) (by show d.rng / _ ≤ _; omega) (by show d.val < d.rng / _; omega)
    exact ⟨a, b, c, h1, h2⟩
theorem logP (w0 : World) {d : Dec} {N k : Nat} (h : d.inv N) (hN : N ≤ 1152921504606846976) (hk : 1 ≤ k) (hk2 : k ≤ 15) :
    CallsA Try.prog w0 41 [.c (.ptr 0 0), .c (.val (.int .u64 k))] d.H fun r H => r = u32 (d.logp k).1 ∧ H = (d.logp k).2.H := by
  have hlo := h.lo; have hhi := h.hi; have hv := h.val
  have hnb := h.nb; have hrb := h.rb
  obtain ⟨_, _, _, h1, h2⟩ := d.logp_inv h hN hk hk2
  refine callsA_of_ev c41_ ?_
  conv => whnf
  refine ⟨by omega, ?_⟩
  conv => whnf
  simp (disch := omega) only [Int.toNat_natCast, nshr32]
  refine Or.inl ?_
  conv => whnf
  refine ⟨fun h3 => ?_, fun h3 => ?_⟩
  · have h3 : d.rng / 2 ^ k ≤ d.val := le_t h3
    conv => whnf
    simp (disch := omega) only [nsub, nwrap32]
    refine (normalize w0 ⟨d.data, d.br, d.rb, d.nb, d.rng - d.rng / 2 ^ k, d.val - d.rng / 2 ^ k⟩ ⟨⟨h.bytes, h.len, h.br, by show d.rb ≤ _; omega, by show d.nb ≤ _; omega⟩, by show d.nb ≤ _; omega, by show 1 ≤ d.rng - _; omega, by show d.rng - _ ≤ _; omega, by show d.val - _ < _; omega⟩).mono ?_
    rintro _ _ ⟨rfl, rfl⟩
    conv => whnf
    unfold Dec.logp
    rw [if_pos h3]
    exact Or.inl ⟨rfl, rfl⟩
  · have h3 : d.val < d.rng / 2 ^ k := le_f h3
    conv => whnf
    refine (normalize w0 ⟨d.data, d.br, d.rb, d.nb, d.rng / 2 ^ k, d.val⟩ ⟨⟨h.bytes, h.len, h.br, by show d.rb ≤ _; omega, by show d.nb ≤ _; omega⟩, by show d.nb ≤ _; omega, by show 1 ≤ d.rng / _; omega, by show d.rng / _ ≤ _; omega, by show d.val < _; omega⟩).mono ?_
    rintro _ _ ⟨rfl, rfl⟩
    conv => whnf
    unfold Dec.logp
    rw [if_neg (by omega)]
    exact Or.inl ⟨rfl, rfl⟩
end Go.Proofs.Ytkomikpfnogjcaa
