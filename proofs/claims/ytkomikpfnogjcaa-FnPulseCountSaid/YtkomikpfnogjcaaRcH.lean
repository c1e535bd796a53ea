/- Raw bits and whole numbers. -/
import Derived.Test.YtkomikpfnogjcaaRcG
namespace Go.Proofs.Ytkomikpfnogjcaa
open Go Go.Vc
set_option maxRecDepth 100000

def Dec.rawAt (d : Dec) (i : Nat) : Nat := if i / 8 < d.data.length then d.byte (d.data.length - 1 - i / 8) / 2 ^ (i % 8) % 2 else 0
def Dec.rawOn (d : Dec) (n : Nat) : Dec := { d with rb := d.rb + n, nb := d.nb + n }
theorem Dec.rawAt_lt (d : Dec) (i : Nat) : d.rawAt i < 2 := by
  unfold Dec.rawAt
  split
  · exact Nat.mod_lt _ (by omega)
  · omega
/-- So many raw bits, the first one lowest. -/
def Dec.raw (d : Dec) : Nat → Nat
  | 0 => 0
  | n + 1 => d.raw n + d.rawAt (d.rb + n) * 2 ^ n
theorem Dec.raw_lt (d : Dec) : ∀ n, d.raw n < 2 ^ n
  | 0 => by simp [Dec.raw]
  | n + 1 => by
    have h1 := Dec.raw_lt d n
    have h2 := d.rawAt_lt (d.rb + n)
    have h3 : d.rawAt (d.rb + n) * 2 ^ n ≤ 1 * 2 ^ n := Nat.mul_le_mul_right _ (by omega)
    show d.raw n + _ < _
    rw [Nat.pow_succ]
    omega
theorem Dec.rawOn_zero (d : Dec) : d.rawOn 0 = d := rfl
theorem Dec.rawOn_inv {d : Dec} {N n : Nat} (h : d.inv N) : (d.rawOn n).inv (N + n) := by
  have := h.nb; have := h.rb
  exact ⟨h.bytes, h.len, h.br, by show d.nb + n ≤ _; omega, by show d.rb + n ≤ _; omega, h.lo, h.hi, h.val⟩

theorem rawBit (w0 : World) (d : Dec) (h : d.ok) (hrb : d.rb ≤ 4611686018427387800) (hnb : d.nb ≤ 4611686018427387800) :
    CallsA Try.prog w0 99 [.c (.ptr 0 0)] d.H fun r H => r = u32 (d.rawAt d.rb) ∧ H = (d.rawOn 1).H := by
  have hlen := h.len
  refine callsA_of_ev c99_ ?_
  conv => whnf
  simp (disch := omega) only [ntdiv, ntmod, nwrap64, nadd]
  refine Or.inl ?_
  conv => whnf
  refine ⟨fun h1 => ?_, fun h1 => ?_⟩
  · have h1 : d.data.length ≤ d.rb / 8 := by
      have h1 := of_decide_eq_true h1
      simp only [IntKind.wrap_u64] at h1
      omega
    conv => whnf
    refine Or.inl ⟨u32_of ?_, rfl⟩
    unfold Dec.rawAt
    rw [if_neg (by omega)]
  · have h1 : d.rb / 8 < d.data.length := by
      have h1 := of_decide_eq_false h1
      simp only [IntKind.wrap_u64] at h1
      omega
    obtain ⟨hb, hb2⟩ := d.byte_get h (i := d.data.length - 1 - d.rb / 8) (by omega)
    conv => whnf
    simp (disch := omega) only [nsub, nwrapi]
    refine ⟨by omega, ?_⟩
    conv => whnf
    refine ⟨_, hb, ?_⟩
    conv => whnf
    refine ⟨by omega, ?_⟩
    conv => whnf
    refine Or.inl ⟨u32_of ?_, rfl⟩
    have h3 : d.byte (d.data.length - 1 - d.rb / 8) / 2 ^ (d.rb % 8) < 256 := Nat.lt_of_le_of_lt (Nat.div_le_self _ _) hb2
    rw [Int.toNat_natCast, nshr8 _ _ (by omega), nand8 h3 (by omega), Nat.and_one_is_mod, nwrap32 (by omega)]
    unfold Dec.rawAt
    rw [if_pos h1]

theorem getRawBits (w0 : World) {d : Dec} {N n : Nat} (h : d.inv N) (hN : N ≤ 1152921504606846976) (hn : n ≤ 32) :
    CallsA Try.prog w0 88 [.c (.ptr 0 0), .c (.val (.int .u64 n))] d.H fun r H => r = u32 (d.raw n) ∧ H = (d.rawOn n).H := by
  have hnb := h.nb; have hrb := h.rb
  refine callsA_of_ev c88_ ?_
  conv => whnf
  refine Or.inl ?_
  conv => whnf
  refine ⟨_root_.Fin (n + 1), fun ⟨i, _⟩ => ⟨[(0, .o (.c (.ptr 0 0))), (1, .o (.c (.val (.int .u64 n)))), (5, .o (.c (.val (.int .u32 (d.raw i : Nat))))), (6, .o (.c (.val (.int .u64 i))))], (d.rawOn i).H⟩, fun i => n - i.1, ⟨⟨0, by omega⟩, Dec.embH rfl ⟨rfl, rfl, rfl, rfl, trivial⟩⟩, fun ⟨i, hi⟩ => ?_⟩
  conv => whnf
  refine ⟨fun h1 => ?_, fun h1 => ?_⟩
  · have h1 : i < n := lt_t h1
    conv => whnf
    refine ⟨fun h2 => ?_, fun h2 => ?_⟩
    · conv => whnf
      have hin := d.rawOn_inv (n := i) h
      refine (rawBit w0 (d.rawOn i) (hin.pre (by omega)).ok (by show d.rb + i ≤ _; omega) (by show d.nb + i ≤ _; omega)).mono ?_
      rintro _ _ ⟨rfl, rfl⟩
      have hlt := d.raw_lt i
      have hlt1 := d.raw_lt (i + 1)
      have hb := d.rawAt_lt (d.rb + i)
      have hp : 2 ^ i ≤ 2 ^ 31 := Nat.pow_le_pow_right (by omega) (by omega)
      have hsh : (d.rawOn i).rawAt (d.rawOn i).rb = d.rawAt (d.rb + i) := rfl
      have hm : d.rawAt (d.rb + i) * 2 ^ i ≤ 1 * 2 ^ i := Nat.mul_le_mul_right _ (by omega)
      conv => whnf
      refine ⟨by omega, ?_⟩
      conv => whnf
      refine ⟨⟨i + 1, by omega⟩, Dec.embH rfl ⟨rfl, rfl, ?_, ?_, trivial⟩, ?_⟩
      · refine eq_u32 ?_
        rw [hsh, Int.toNat_natCast, nshl32 _ _ (by omega), nwrap32 (n := d.rawAt (d.rb + i) * 2 ^ i) (by omega), nor32 (by omega) (by omega), Nat.or_comm, nor_add hlt]
        show _ = ((d.raw i + d.rawAt (d.rb + i) * 2 ^ i : Nat) : Int)
        omega
      · refine eq_u64 ?_
        rw [nadd, nwrap64 (by omega)]
      · show n - (i + 1) < n - i
        omega
    · have h2 : 32 ≤ i := lt_f h2
      omega
  · have h1 : n ≤ i := lt_f h1
    have : i = n := by omega
    subst this
    conv => whnf
    refine Or.inl ?_
    conv => whnf
    refine ⟨Unit, fun _ => ⟨[(0, .o (.c (.ptr 0 0))), (1, .o (.c (.val (.int .u64 i)))), (5, .o (.c (.val (.int .u32 (d.raw i : Nat))))), (7, .o (.c (.val (.int .u64 ((32 : Nat) : Int)))))], (d.rawOn i).H⟩, fun _ => 0, ⟨(), Dec.embH rfl ⟨rfl, rfl, rfl, rfl, trivial⟩⟩, fun _ => ?_⟩
    conv => whnf
    refine ⟨fun h3 => ?_, fun h3 => ?_⟩
    · have h3 : 32 < i := lt_t h3
      omega
    · conv => whnf
      exact Or.inl ⟨rfl, rfl⟩

theorem rawBits (w0 : World) {d : Dec} {N n : Nat} (h : d.inv N) (hN : N ≤ 1152921504606846976) (hn : n ≤ 32) :
    CallsA Try.prog w0 45 [.c (.ptr 0 0), .c (.val (.int .u64 n))] d.H fun r H => r = u32 (d.raw n) ∧ H = (d.rawOn n).H := by
  refine callsA_of_ev c45_ ?_
  conv => whnf
  refine (getRawBits w0 h hN hn).mono ?_
  rintro _ _ ⟨rfl, rfl⟩
  conv => whnf
  exact Or.inl ⟨rfl, rfl⟩
end Go.Proofs.Ytkomikpfnogjcaa
