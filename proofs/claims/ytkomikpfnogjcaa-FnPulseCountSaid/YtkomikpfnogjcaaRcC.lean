/- The decoder is brought to a great range. -/
import Derived.Test.YtkomikpfnogjcaaRcB
namespace Go.Proofs.Ytkomikpfnogjcaa
open Go Go.Vc
set_option maxRecDepth 100000

def Dec.step (d : Dec) : Dec := { d.bitsOn 8 with rng := d.rng * 256, nb := d.nb + 8, val := (d.val * 256 + (255 - d.bits 8)) % 2147483648 }
def Dec.iter (d : Dec) : Nat → Dec
  | 0 => d
  | k + 1 => (d.iter k).step
def Dec.norm (d : Dec) : Dec :=
  if d.rng ≤ 8388608 then (if d.step.rng ≤ 8388608 then (if d.step.step.rng ≤ 8388608 then d.step.step.step else d.step.step) else d.step) else d

theorem Dec.step_ok {d : Dec} (h : d.ok) (hn : d.nb ≤ 4611686018427387896) : d.step.ok := by
  have := d.bitsOn_ok h 8
  exact ⟨this.bytes, this.len, this.br, this.rb, by show d.nb + 8 ≤ _; omega⟩
theorem Dec.iter_facts {d : Dec} (h : d.ok) (hn : d.nb ≤ 4611686018427387800) : ∀ k, k ≤ 4 → (d.iter k).ok ∧ (d.iter k).rng = d.rng * 256 ^ k ∧ (d.iter k).nb = d.nb + 8 * k
  | 0, _ => ⟨h, by simp [Dec.iter], rfl⟩
  | k + 1, hk => by
    obtain ⟨h1, h2, h3⟩ := Dec.iter_facts h hn k (by omega)
    refine ⟨Dec.step_ok h1 (by omega), ?_, ?_⟩
    · show (d.iter k).rng * 256 = _
      rw [h2, Nat.mul_assoc, ← Nat.pow_succ]
    · show (d.iter k).nb + 8 = _
      omega
theorem Dec.norm_iter {d : Dec} {k : Nat} (hk : k ≤ 3) (h : ∀ i, i < k → (d.iter i).rng ≤ 8388608) (hg : 8388608 < (d.iter k).rng) : d.norm = d.iter k := by
  unfold Dec.norm
  rcases k with _ | _ | _ | _ | k
  · have : ¬ d.rng ≤ 8388608 := by simpa [Dec.iter] using hg
    rw [if_neg this]
    rfl
  · have h0 : d.rng ≤ 8388608 := h 0 (by omega)
    have : ¬ d.step.rng ≤ 8388608 := by simpa [Dec.iter] using hg
    rw [if_pos h0, if_neg this]
    rfl
  · have h0 : d.rng ≤ 8388608 := h 0 (by omega)
    have h1 : d.step.rng ≤ 8388608 := h 1 (by omega)
    have : ¬ d.step.step.rng ≤ 8388608 := by simpa [Dec.iter] using hg
    rw [if_pos h0, if_pos h1, if_neg this]
    rfl
  · have h0 : d.rng ≤ 8388608 := h 0 (by omega)
    have h1 : d.step.rng ≤ 8388608 := h 1 (by omega)
    have h2 : d.step.step.rng ≤ 8388608 := h 2 (by omega)
    rw [if_pos h0, if_pos h1, if_pos h2]
    rfl
  · omega

/-- What is known of a decoder between operations, but for the range. -/
structure Dec.pre (d : Dec) : Prop where
  ok : d.ok
  nb : d.nb ≤ 4611686018427387800
  lo : 1 ≤ d.rng
  hi : d.rng ≤ 2147483648
  val : d.val < 4294967296

theorem normalize (w0 : World) (d : Dec) (h : d.pre) : CallsA Try.prog w0 82 [.c (.ptr 0 0)] d.H fun r H => r = .t [] ∧ H = d.norm.H := by
  have hlo := h.lo
  have hhi := h.hi
  refine callsA_of_ev c82_ ?_
  conv => whnf
  refine ⟨{k : Nat // k ≤ 3 ∧ ∀ i, i < k → (d.iter i).rng ≤ 8388608}, fun k => ⟨[(0, .o (.c (.ptr 0 0)))], (d.iter k.1).H⟩, fun k => 3 - k.1, ⟨⟨0, by omega, by omega⟩, Dec.emb rfl ⟨rfl, trivial⟩⟩, fun ⟨k, hk3, hk⟩ => ?_⟩
  obtain ⟨hok, hr, hb⟩ := d.iter_facts h.ok h.nb k (by omega)
  have hnb := h.nb
  have hpow : d.rng * 256 ^ k ≤ 8388608 → d.rng * 256 ^ k * 256 ≤ 2147483648 := by omega
  have hval : (d.iter k).val < 4294967296 := by
    cases k with
    | zero => exact h.val
    | succ k =>
      show (_ : Nat) % 2147483648 < _
      omega
  conv => whnf
  refine ⟨fun h1 => ?_, fun h1 => ?_⟩
  · have h1 := of_decide_eq_true h1
    have h1 : (d.iter k).rng ≤ 8388608 := by
      have h1 : ((d.iter k).rng : Int) ≤ ((8388608 : Nat) : Int) := h1
      omega
    have hk2 : k < 3 := by
      rcases Nat.lt_or_ge k 3 with h | h
      · exact h
      · have : k = 3 := by omega
        subst this
        rw [hr] at h1
        omega
    conv => whnf
    simp (disch := omega) only [nshl32, nwrap32, nadd, nwrap64]
    refine (getBits w0 ⟨(d.iter k).data, (d.iter k).br, (d.iter k).rb, (d.iter k).nb + 8, (d.iter k).rng * 2 ^ 8, (d.iter k).val⟩ ⟨hok.bytes, hok.len, hok.br, hok.rb, by show (d.iter k).nb + 8 ≤ _; omega⟩ (n := 8) (by omega) (by omega)).mono ?_
    rintro _ _ ⟨rfl, rfl⟩
    conv => whnf
    refine ⟨⟨⟨rfl, rfl⟩, trivial⟩, ?_⟩
    conv => whnf
    refine ⟨trivial, ?_⟩
    conv => whnf
    refine ⟨⟨k + 1, by omega, fun i hi => ?_⟩, Dec.embH (Dec.H_of (d := (d.iter k).step) rfl rfl rfl rfl ?_) ⟨rfl, trivial⟩, ?_⟩
    · rcases Nat.lt_or_ge i k with h | h
      · exact hk i h
      · have : i = k := by omega
        subst this
        exact h1
    · generalize hv : (d.iter k).val = v at *
      have hb8 := (d.iter k).bits_lt 8
      change IntKind.u32.wrap (((BitVec.ofInt IntKind.u32.bits (IntKind.u32.wrap (IntKind.u32.wrap ((v * 2 ^ 8 : Nat) : Int) + IntKind.u32.wrap (((255 : Nat) : Int) - (((d.iter k).bits 8 : Nat) : Int)))) &&& BitVec.ofInt IntKind.u32.bits ((2147483647 : Nat) : Int)).toNat : Nat) : Int) = ((((d.iter k).val * 256 + (255 - (d.iter k).bits 8)) % 2147483648 : Nat) : Int)
      rw [hv]
      generalize (d.iter k).bits 8 = b at *
      have e1 : IntKind.u32.wrap (IntKind.u32.wrap ((v * 2 ^ 8 : Nat) : Int) + IntKind.u32.wrap (((255 : Nat) : Int) - (b : Int))) = (((v * 256 + (255 - b)) % 4294967296 : Nat) : Int) := by
        simp only [IntKind.wrap_u32]
        omega
      rw [e1, nand32 (Nat.mod_lt _ (by omega)) (by omega)]
      have e2 := nand_mask ((v * 256 + (255 - b)) % 4294967296) 31
      rw [show (2 : Nat) ^ 31 - 1 = 2147483647 by rfl] at e2
      rw [e2]
      omega
    · show 3 - (k + 1) < 3 - k
      omega
  · have h1 := of_decide_eq_false h1
    have h1 : 8388608 < (d.iter k).rng := by
      have h1 : ¬ ((d.iter k).rng : Int) ≤ ((8388608 : Nat) : Int) := h1
      omega
    conv => whnf
    exact Or.inl ⟨rfl, by rw [d.norm_iter hk3 hk h1]⟩
end Go.Proofs.Ytkomikpfnogjcaa
