/- What the encoder tells. -/
import Derived.Test.YtkomikpfnogjcaaRcS
namespace Go.Proofs.Ytkomikpfnogjcaa
open Go Go.Vc
set_option maxRecDepth 100000

theorem encFinal (w0 : World) (e : EncS) : CallsA Try.prog w0 69 [.c (.ptr 0 0)] e.H fun r H => r = u32 e.rng ∧ H = e.H := by
  refine callsA_of_ev c69_ ?_
  conv => whnf
  exact Or.inl ⟨rfl, rfl⟩
def EncS.tell (e : EncS) : Nat := e.total - len e.rng
theorem encTell (w0 : World) (e : EncS) (h : e.total ≤ 4611686018427387904) (h1 : 1 ≤ e.rng) (h2 : e.rng < 4294967296) : CallsA Try.prog w0 70 [.c (.ptr 0 0)] e.H fun r H => r = u64 e.tell ∧ H = e.H := by
  have hl1 := le_len (n := e.rng) (k := 0) h1
  have hl2 := len_le (n := e.rng) (k := 32) h2
  refine callsA_of_ev c70_ ?_
  conv => whnf
  refine (len32 w0 e.H h2).mono ?_
  rintro _ _ ⟨rfl, rfl⟩
  conv => whnf
  refine Or.inl ?_
  conv => whnf
  simp (disch := omega) only [nwrap64]
  refine ⟨fun h3 => ?_, fun h3 => ?_⟩
  · have := beq_t h3
    omega
  · conv => whnf
    refine Or.inl ?_
    conv => whnf
    refine ⟨fun h4 => ?_, fun h4 => ?_⟩
    · have h4 := le_t h4
      conv => whnf
      refine Or.inl ⟨u64_of ?_, rfl⟩
      unfold EncS.tell
      omega
    · have h4 := le_f h4
      conv => whnf
      refine Or.inl ⟨u64_of ?_, rfl⟩
      unfold EncS.tell
      rw [nsub (by omega), nwrap64 (by omega)]
theorem EncS.embH {e : EncS} {H : List Blk} {e0 env : Env} (hd : H = e.H) (he : embE [0, 1, 2] env e0) : EmbS 3 ⟨e0, e.H⟩ ⟨env, H⟩ := by
  subst hd
  exact ⟨[0, 1, 2], ⟨rfl, ⟨rfl, rfl, rfl, rfl, rfl, rfl, trivial⟩, rfl⟩, he⟩
def EncS.frac (e : EncS) : Nat := Go.Proofs.Ytkomikpfnogjcaa.frac e.total e.rng
theorem encTellFrac (w0 : World) (d : EncS) (hnb : d.total ≤ 1152921504606846976) (h1 : 8388608 ≤ d.rng) (h2 : d.rng < 4294967296) : CallsA Try.prog w0 71 [.c (.ptr 0 0)] d.H fun r H => r = u64 d.frac ∧ H = d.H := by
  have hl1 := le_len (n := d.rng) (k := 23) h1
  have hl2 := len_le (n := d.rng) (k := 32) h2
  obtain ⟨ht1, ht2⟩ := top_bits h1
  refine callsA_of_ev c71_ ?_
  conv => whnf
  refine (len32 w0 d.H h2).mono ?_
  rintro _ _ ⟨rfl, rfl⟩
  conv => whnf
  refine Or.inl ?_
  conv => whnf
  simp (disch := omega) only [nwrap64]
  refine ⟨fun h3 => ?_, fun h3 => ?_⟩
  · have h3 : ((len d.rng : Nat) : Int) = ((0 : Nat) : Int) := by simpa using h3
    omega
  · conv => whnf
    refine Or.inl ?_
    conv => whnf
    refine ⟨fun h4 => ?_, fun h4 => ?_⟩
    · have h4 := of_decide_eq_true h4
      have h4 : ((len d.rng : Nat) : Int) < ((24 : Nat) : Int) := h4
      omega
    · conv => whnf
      simp (disch := omega) only [nsub, nwrap64]
      refine ⟨by omega, ?_⟩
      conv => whnf
      simp (disch := omega) only [Int.toNat_natCast, nshr32, nwrap64]
      refine Or.inl ?_
      conv => whnf
      refine ⟨_root_.Fin 4, fun ⟨k, _⟩ => ⟨[(0, .o (.c (.ptr 0 0))), (3, .o (.c (.val (.int .u64 ((fracIter (d.rng / 2 ^ (len d.rng - 16), len d.rng) k).2 : Nat))))), (4, .o (.c (.val (.int .u64 ((fracIter (d.rng / 2 ^ (len d.rng - 16), len d.rng) k).1 : Nat))))), (33, .o (.c (.val (.int .i64 (k : Nat)))))], d.H⟩, fun k => 3 - k.1, ⟨0, EncS.embH rfl ⟨rfl, rfl, rfl, rfl, trivial⟩⟩, fun ⟨k, hk⟩ => ?_⟩
      obtain ⟨a, b, c⟩ := fracIter_lt (p := (d.rng / 2 ^ (len d.rng - 16), len d.rng)) ht1 ht2 hl2 k (by omega)
      have hpk : 2 ^ k ≤ 2 ^ 3 := Nat.pow_le_pow_right (by omega) (by omega)
      obtain ⟨a', b', c', d'⟩ := fracStep_lt a b
      conv => whnf
      refine ⟨fun h5 => ?_, fun h5 => ?_⟩
      · have h5 := of_decide_eq_true h5
        have h5 : (k : Int) < ((3 : Nat) : Int) := h5
        conv => whnf
        refine Or.inl ?_
        conv => whnf
        have hs : fracIter (d.rng / 2 ^ (len d.rng - 16), len d.rng) (k + 1) = fracStep (fracIter (d.rng / 2 ^ (len d.rng - 16), len d.rng) k) := rfl
        generalize hq : fracIter (d.rng / 2 ^ (len d.rng - 16), len d.rng) k = q at *
        obtain ⟨r, l⟩ := q
        simp only at a b c d'
        have hb2 : r * r / 32768 / 65536 ≤ 1 := by omega
        simp (disch := omega) only [nmul, nwrap64, nshr64, nadd]
        refine ⟨fun h6 => ?_, fun h6 => ?_⟩
        · have h6 : r * r / 2 ^ 15 / 2 ^ 16 ≠ 0 := by
            intro h0
            rw [h0] at h6
            cases h6
          conv => whnf
          refine ⟨⟨k + 1, by omega⟩, EncS.embH rfl ⟨rfl, ?_, ?_, ?_, trivial⟩, ?_⟩
          · refine eq_u64 ?_
            rw [hs]
            rfl
          · refine eq_u64 ?_
            rw [hs, nshr64 _ _ (by omega), fracStep_pos h6]
          · refine eq_i64 ?_
            rw [nadd, nwrapi (by omega)]
          · show 3 - (k + 1) < 3 - k
            omega
        · have h6 : r * r / 2 ^ 15 / 2 ^ 16 = 0 := bne_f h6
          conv => whnf
          refine ⟨⟨k + 1, by omega⟩, EncS.embH rfl ⟨rfl, ?_, ?_, ?_, trivial⟩, ?_⟩
          · refine eq_u64 ?_
            rw [hs]
            rfl
          · refine eq_u64 ?_
            rw [hs, fracStep_neg h6]
          · refine eq_i64 ?_
            rw [nadd, nwrapi (by omega)]
          · show 3 - (k + 1) < 3 - k
            omega
      · have h5 := of_decide_eq_false h5
        have h5 : ¬ (k : Int) < ((3 : Nat) : Int) := h5
        have hk3 : k = 3 := by omega
        subst hk3
        conv => whnf
        refine Or.inl ?_
        conv => whnf
        simp (disch := omega) only [nmul, nwrap64]
        refine ⟨fun h6 => ?_, fun h6 => ?_⟩
        · have h6 := of_decide_eq_true h6
          conv => whnf
          refine Or.inl ⟨u64_of ?_, rfl⟩
          have h6 : ((d.total * 8 : Nat) : Int) ≤ ((fracIter (d.rng / 2 ^ (len d.rng - 16), len d.rng) 3).2 : Nat) := h6
          show (0 : Int) = ((d.total * 8 - (fracIter (d.rng / 2 ^ (len d.rng - 16), len d.rng) 3).2 : Nat) : Int)
          omega
        · have h6 := of_decide_eq_false h6
          conv => whnf
          refine Or.inl ⟨u64_of ?_, rfl⟩
          have h6 : ¬ ((d.total * 8 : Nat) : Int) ≤ ((fracIter (d.rng / 2 ^ (len d.rng - 16), len d.rng) 3).2 : Nat) := h6
          show _ = ((d.total * 8 - (fracIter (d.rng / 2 ^ (len d.rng - 16), len d.rng) 3).2 : Nat) : Int)
          rw [nsub (by omega), nwrap64 (by omega)]
end Go.Proofs.Ytkomikpfnogjcaa
