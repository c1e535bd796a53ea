/- What the decoder tells. -/
import Derived.Test.YtkomikpfnogjcaaRcD
namespace Go.Proofs.Ytkomikpfnogjcaa
open Go Go.Vc
set_option maxRecDepth 100000

/-- How many bits a number has. -/
def len (n : Nat) : Nat := if n = 0 then 0 else n.log2 + 1
theorem len_eq {n k : Nat} (h1 : 2 ^ k ≤ n) (h2 : n < 2 ^ (k + 1)) : len n = k + 1 := by
  have h0 : n ≠ 0 := by
    have := Nat.two_pow_pos k
    omega
  unfold len
  rw [if_neg h0, (Nat.log2_eq_iff h0).2 ⟨h1, h2⟩]
theorem len_spec {n : Nat} (h : n ≠ 0) : ∃ k, len n = k + 1 ∧ 2 ^ k ≤ n ∧ n < 2 ^ (k + 1) := by
  refine ⟨n.log2, by unfold len; rw [if_neg h], ?_⟩
  exact (Nat.log2_eq_iff h).1 rfl
theorem len_div {n j : Nat} (h : 2 ^ j ≤ n) : len n = len (n / 2 ^ j) + j := by
  have hp := Nat.two_pow_pos j
  have h0 : n / 2 ^ j ≠ 0 := by
    have := Nat.div_pos h hp
    omega
  obtain ⟨k, h1, h2, h3⟩ := len_spec h0
  have : len n = (k + j) + 1 := by
    refine len_eq ?_ ?_
    · rw [Nat.pow_add]
      exact (Nat.le_div_iff_mul_le hp).1 h2
    · rw [show k + j + 1 = (k + 1) + j by omega, Nat.pow_add]
      exact (Nat.div_lt_iff_lt_mul hp).1 h3
  omega
theorem len_le {n k : Nat} (h : n < 2 ^ k) : len n ≤ k := by
  by_cases h0 : n = 0
  · subst h0
    exact Nat.zero_le _
  · obtain ⟨j, h1, h2, h3⟩ := len_spec h0
    have := (Nat.pow_lt_pow_iff_right (show 1 < 2 by omega)).1 (Nat.lt_of_le_of_lt h2 h)
    omega
theorem le_len {n k : Nat} (h : 2 ^ k ≤ n) : k + 1 ≤ len n := by
  have hp := Nat.two_pow_pos k
  obtain ⟨j, h1, h2, h3⟩ := len_spec (n := n) (by omega)
  have := (Nat.pow_lt_pow_iff_right (show 1 < 2 by omega)).1 (Nat.lt_of_le_of_lt h h3)
  omega

def lens : ByteArray := ByteArray.mk #[0, 1, 2, 2, 3, 3, 3, 3, 4, 4, 4, 4, 4, 4, 4, 4, 5, 5, 5, 5, 5, 5, 5, 5, 5, 5, 5, 5, 5, 5, 5, 5, 6, 6, 6, 6, 6, 6, 6, 6, 6, 6, 6, 6, 6, 6, 6, 6, 6, 6, 6, 6, 6, 6, 6, 6, 6, 6, 6, 6, 6, 6, 6, 6, 7, 7, 7, 7, 7, 7, 7, 7, 7, 7, 7, 7, 7, 7, 7, 7, 7, 7, 7, 7, 7, 7, 7, 7, 7, 7, 7, 7, 7, 7, 7, 7, 7, 7, 7, 7, 7, 7, 7, 7, 7, 7, 7, 7, 7, 7, 7, 7, 7, 7, 7, 7, 7, 7, 7, 7, 7, 7, 7, 7, 7, 7, 7, 7, 8, 8, 8, 8, 8, 8, 8, 8, 8, 8, 8, 8, 8, 8, 8, 8, 8, 8, 8, 8, 8, 8, 8, 8, 8, 8, 8, 8, 8, 8, 8, 8, 8, 8, 8, 8, 8, 8, 8, 8, 8, 8, 8, 8, 8, 8, 8, 8, 8, 8, 8, 8, 8, 8, 8, 8, 8, 8, 8, 8, 8, 8, 8, 8, 8, 8, 8, 8, 8, 8, 8, 8, 8, 8, 8, 8, 8, 8, 8, 8, 8, 8, 8, 8, 8, 8, 8, 8, 8, 8, 8, 8, 8, 8, 8, 8, 8, 8, 8, 8, 8, 8, 8, 8, 8, 8, 8, 8, 8, 8, 8, 8, 8, 8, 8, 8, 8, 8, 8, 8, 8, 8, 8, 8, 8, 8, 8, 8]
theorem lens_get : ∀ x, x < 256 → lens[x]? = some (UInt8.ofNat (len x)) := by decide +kernel
theorem len32 (w0 : World) (H : List Blk) {n : Nat} (hn : n < 4294967296) : CallsA Try.prog w0 86 [.c (.val (.int .u32 n))] H fun r H' => r = i64 (len n) ∧ H' = H := by
  refine CallsA_frame rfl rfl ?_ H
  refine callsA_of_ev c86_ ?_
  conv => whnf
  refine Or.inr ⟨{p : Nat × Nat // p.1 < 65536 ∧ len n = p.2 + len p.1 ∧ p.2 ≤ 16}, fun p => ⟨[(0, .o (.c (.val (.int .u32 (p.1.1 : Nat))))), (2, .o (.c (.val (.int .i64 (p.1.2 : Nat)))))], []⟩, ?_, ?_⟩
  · conv => whnf
    refine ⟨fun h1 => ?_, fun h1 => ?_⟩
    · have h1 := of_decide_eq_true h1
      have h1 : 65536 ≤ n := by
        have h1 : (n : Int) ≥ ((65536 : Nat) : Int) := h1
        omega
      conv => whnf
      simp (disch := omega) only [nshr32]
      refine ⟨⟨(n / 2 ^ 16, 16), by simp only; omega, ?_, by simp⟩, embNil ⟨rfl, rfl, trivial⟩⟩
      rw [len_div (j := 16) h1]
      simp only
      omega
    · have h1 := of_decide_eq_false h1
      have h1 : n < 65536 := by
        have h1 : ¬ (n : Int) ≥ ((65536 : Nat) : Int) := h1
        omega
      conv => whnf
      exact ⟨⟨(n, 0), h1, by simp, by simp⟩, embNil ⟨rfl, rfl, trivial⟩⟩
  · rintro ⟨⟨x, b⟩, hx, hl, hb⟩
    simp only at hx hl hb
    conv => whnf
    refine Or.inr ⟨{p : Nat × Nat // p.1 < 256 ∧ len n = p.2 + len p.1 ∧ p.2 ≤ 24}, fun p => ⟨[(0, .o (.c (.val (.int .u32 (p.1.1 : Nat))))), (2, .o (.c (.val (.int .i64 (p.1.2 : Nat)))))], []⟩, ?_, ?_⟩
    · conv => whnf
      refine ⟨fun h1 => ?_, fun h1 => ?_⟩
      · have h1 := of_decide_eq_true h1
        have h1 : 256 ≤ x := by
          have h1 : (x : Int) ≥ ((256 : Nat) : Int) := h1
          omega
        conv => whnf
        refine ⟨⟨(x / 2 ^ 8, b + 8), by simp only; omega, ?_, by simp only; omega⟩, embNil ⟨?_, ?_, trivial⟩⟩
        · rw [hl, len_div (j := 8) h1]
          simp only
          omega
        · refine eq_u32 ?_
          rw [nshr32 _ _ (by omega)]
        · refine eq_i64 ?_
          show IntKind.i64.wrap ((b : Int) + ((8 : Nat) : Int)) = _
          rw [nadd, nwrapi (by omega)]
      · have h1 := of_decide_eq_false h1
        have h1 : x < 256 := by
          have h1 : ¬ (x : Int) ≥ ((256 : Nat) : Int) := h1
          omega
        conv => whnf
        exact ⟨⟨(x, b), h1, hl, by simp only; omega⟩, embNil ⟨rfl, rfl, trivial⟩⟩
    · rintro ⟨⟨x, b⟩, hx, hl, hb⟩
      simp only at hx hl hb
      have hl8 := len_le (n := x) (k := 8) hx
      conv => whnf
      refine ⟨UInt8.ofNat (len x), ?_, ?_⟩
      · show (if 0 ≤ IntKind.u8.wrap (x : Int) then lens[(IntKind.u8.wrap (x : Int)).toNat]? else none) = _
        rw [nwrap8 hx, if_pos (by omega), Int.toNat_natCast]
        exact lens_get x hx
      · conv => whnf
        refine Or.inl ⟨i64_of ?_, rfl⟩
        have e1 : (UInt8.ofNat (len x)).toNat = len x := by
          rw [UInt8.toNat_ofNat']
          omega
        show IntKind.i64.wrap ((b : Int) + IntKind.i64.wrap (((UInt8.ofNat (len x)).toNat : Nat) : Int)) = _
        rw [e1, nwrapi (by omega), nadd, nwrapi (by omega), hl]
theorem finalRange (w0 : World) (d : Dec) : CallsA Try.prog w0 48 [.c (.ptr 0 0)] d.H fun r H => r = u32 d.rng ∧ H = d.H := by
  refine callsA_of_ev c48_ ?_
  conv => whnf
  exact Or.inl ⟨rfl, rfl⟩
theorem remaining (w0 : World) (d : Dec) (h : d.ok) : CallsA Try.prog w0 51 [.c (.ptr 0 0)] d.H fun r H => r = i64 ((d.data.length * 8 : Nat) - (d.br : Int) - (d.rb : Int)) ∧ H = d.H := by
  have := h.br
  have := h.rb
  have := h.len
  refine callsA_of_ev c51_ ?_
  conv => whnf
  refine Or.inl ⟨i64_of ?_, rfl⟩
  simp only [IntKind.wrap_i64]
  omega
def Dec.tell (d : Dec) : Nat := d.nb - len d.rng
theorem tell (w0 : World) (d : Dec) (h : d.ok) (h1 : 1 ≤ d.rng) (h2 : d.rng < 4294967296) : CallsA Try.prog w0 49 [.c (.ptr 0 0)] d.H fun r H => r = u64 d.tell ∧ H = d.H := by
  have hnb := h.nb
  have hl1 := le_len (n := d.rng) (k := 0) h1
  have hl2 := len_le (n := d.rng) (k := 32) h2
  refine callsA_of_ev c49_ ?_
  conv => whnf
  refine (len32 w0 d.H h2).mono ?_
  rintro _ _ ⟨rfl, rfl⟩
  conv => whnf
  refine Or.inl ?_
  conv => whnf
  simp (disch := omega) only [nwrap64]
  refine ⟨fun h3 => ?_, fun h3 => ?_⟩
  · have h3 : ((len d.rng : Nat) : Int) = ((0 : Nat) : Int) := by simpa using h3
    omega
  · conv => whnf
    refine Or.inl ?_
    conv => whnf
    refine ⟨fun h4 => ?_, fun h4 => ?_⟩
    · have h4 := of_decide_eq_true h4
      have h4 : (d.nb : Int) ≤ ((len d.rng : Nat) : Int) := h4
      conv => whnf
      refine Or.inl ⟨u64_of ?_, rfl⟩
      unfold Dec.tell
      omega
    · have h4 := of_decide_eq_false h4
      have h4 : ¬ (d.nb : Int) ≤ ((len d.rng : Nat) : Int) := h4
      conv => whnf
      refine Or.inl ⟨u64_of ?_, rfl⟩
      unfold Dec.tell
      rw [nsub (by omega), nwrap64 (by omega)]
end Go.Proofs.Ytkomikpfnogjcaa
