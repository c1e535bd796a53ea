/- Bits of the decoder, several at once. -/
import Derived.Test.YtkomikpfnogjcaaRcA
namespace Go.Proofs.Ytkomikpfnogjcaa
open Go Go.Vc
set_option maxRecDepth 100000

/-- Two bytes from where the bits are. -/
def Dec.two (d : Dec) : Nat := d.byte (d.br / 8) * 256 + d.byte (d.br / 8 + 1)
def Dec.bits (d : Dec) (n : Nat) : Nat := d.two / 2 ^ (16 - d.br % 8 - n) % 2 ^ n
def Dec.bitsOn (d : Dec) (n : Nat) : Dec := { d with br := if d.br + n ≤ 8 * d.data.length then d.br + n else max d.br (8 * d.data.length) }

theorem Dec.bits_succ {d : Dec} (h : d.ok) {i : Nat} (hi : i < 8) : d.bits (i + 1) = 2 * d.bits i + (d.bitsOn i).bit := by
  have hx := d.byte_lt h (d.br / 8)
  have hy := d.byte_lt h (d.br / 8 + 1)
  have hbit : (d.bitsOn i).bit = d.two / 2 ^ (16 - d.br % 8 - (i + 1)) % 2 := by
    have hb1 : ∀ e : Dec, e.data = d.data → ∀ k, e.byte k = d.byte k := fun e he k => by unfold Dec.byte; rw [he]
    unfold Dec.bit
    rw [hb1 (d.bitsOn i) rfl]
    unfold Dec.bitsOn
    simp only
    split
    · rename_i hle
      rcases Nat.lt_or_ge (d.br % 8 + i) 8 with hp | hp
      · have e1 : (d.br + i) / 8 = d.br / 8 := by omega
        have e2 : (d.br + i) % 8 = d.br % 8 + i := by omega
        have e3 : 16 - d.br % 8 - (i + 1) = 8 + (7 - (d.br % 8 + i)) := by omega
        rw [e1, e2, e3, Nat.pow_add, ← Nat.div_div_eq_div_mul]
        congr 2
        unfold Dec.two
        omega
      · have e1 : (d.br + i) / 8 = d.br / 8 + 1 := by omega
        have e2 : (d.br + i) % 8 = d.br % 8 + i - 8 := by omega
        have e3 : 16 - d.br % 8 - (i + 1) = 7 - (d.br % 8 + i - 8) := by omega
        rw [e1, e2, e3]
        have e4 : d.two = 2 ^ (7 - (d.br % 8 + i - 8)) * (2 * (d.byte (d.br / 8) * 2 ^ (d.br % 8 + i - 8))) + d.byte (d.br / 8 + 1) := by
          unfold Dec.two
          congr 1
          have : (256 : Nat) = 2 ^ (7 - (d.br % 8 + i - 8)) * (2 * 2 ^ (d.br % 8 + i - 8)) := by
            rw [Nat.mul_left_comm, ← Nat.pow_add, show 7 - (d.br % 8 + i - 8) + (d.br % 8 + i - 8) = 7 by omega]
          rw [this]
          ac_rfl
        rw [e4, Nat.mul_add_div (Nat.two_pow_pos _), Nat.mul_add_mod]
    · rename_i hgt
      have hz : d.byte (max d.br (8 * d.data.length) / 8) = 0 := d.byte_out (by omega)
      rw [hz, Nat.zero_div]
      rcases Nat.lt_or_ge (d.br / 8) d.data.length with hl | hl
      · have e0 : d.byte (d.br / 8 + 1) = 0 := d.byte_out (by omega)
        have e3 : 16 - d.br % 8 - (i + 1) = 7 - (d.br % 8 + i - 8) := by omega
        rw [e3]
        have e4 : d.two = 2 ^ (7 - (d.br % 8 + i - 8)) * (2 * (d.byte (d.br / 8) * 2 ^ (d.br % 8 + i - 8))) := by
          unfold Dec.two
          rw [e0, Nat.add_zero]
          have : (256 : Nat) = 2 ^ (7 - (d.br % 8 + i - 8)) * (2 * 2 ^ (d.br % 8 + i - 8)) := by
            rw [Nat.mul_left_comm, ← Nat.pow_add, show 7 - (d.br % 8 + i - 8) + (d.br % 8 + i - 8) = 7 by omega]
          rw [this]
          ac_rfl
        rw [e4, Nat.mul_div_cancel_left _ (Nat.two_pow_pos _)]
        omega
      · have e0 : d.byte (d.br / 8) = 0 := d.byte_out hl
        have e1 : d.byte (d.br / 8 + 1) = 0 := d.byte_out (by omega)
        unfold Dec.two
        rw [e0, e1]
        simp
  rw [hbit]
  unfold Dec.bits
  have e5 : 16 - d.br % 8 - i = 16 - d.br % 8 - (i + 1) + 1 := by omega
  rw [e5, Nat.pow_succ 2 (16 - d.br % 8 - (i + 1)), ← Nat.div_div_eq_div_mul]
  generalize d.two / 2 ^ (16 - d.br % 8 - (i + 1)) = v
  rw [Nat.pow_succ, Nat.mul_comm (2 ^ i) 2, Nat.mod_mul]
  omega
theorem Dec.bits_zero (d : Dec) : d.bits 0 = 0 := by simp [Dec.bits, Nat.mod_one]
theorem Dec.bits_lt (d : Dec) (n : Nat) : d.bits n < 2 ^ n := Nat.mod_lt _ (Nat.two_pow_pos _)
theorem Dec.bitsOn_zero (d : Dec) : d.bitsOn 0 = d := by
  unfold Dec.bitsOn
  split
  · rfl
  · rw [Nat.max_eq_left (by omega)]
theorem Dec.bitsOn_succ (d : Dec) (i : Nat) : (d.bitsOn i).bitOn = d.bitsOn (i + 1) := by
  unfold Dec.bitOn Dec.bitsOn
  simp only
  congr 1
  split <;> split <;> (try split) <;> omega
theorem Dec.bitsOn_ok {d : Dec} (h : d.ok) (n : Nat) : (d.bitsOn n).ok := by
  have := h.br
  have := h.len
  refine ⟨h.bytes, h.len, ?_, h.rb, h.nb⟩
  unfold Dec.bitsOn
  simp only
  split <;> omega

theorem Dec.fast {d : Dec} (h : d.ok) {n y : Nat} (hy : y = d.byte (d.br / 8 + 1)) : d.byte (d.br / 8) * 2 ^ 8 ||| y = d.two ∧ d.two < 65536 ∧ d.two / 2 ^ (16 - d.br % 8 - n) &&& (2 ^ n - 1) = d.bits n := by
  have h1 := d.byte_lt h (d.br / 8)
  have h2 := d.byte_lt h (d.br / 8 + 1)
  subst hy
  refine ⟨nor_add (i := 8) h2, ?_, nand_mask _ _⟩
  unfold Dec.two
  omega
theorem Dec.emb {d d' : Dec} {e0 e : Env} (hd : d' = d) (he : embE [0, 1] e e0) : EmbS 2 ⟨e0, d.H⟩ ⟨e, d'.H⟩ := by
  subst hd
  exact ⟨[0, 1], ⟨rfl, ⟨rfl, rfl, rfl, rfl, trivial⟩, rfl⟩, he⟩

theorem Dec.embH {d : Dec} {H : List Blk} {e0 e : Env} (hd : H = d.H) (he : embE [0, 1] e e0) : EmbS 2 ⟨e0, d.H⟩ ⟨e, H⟩ := by
  subst hd
  exact ⟨[0, 1], ⟨rfl, ⟨rfl, rfl, rfl, rfl, trivial⟩, rfl⟩, he⟩

theorem getBits (w0 : World) (d : Dec) (h : d.ok) {n : Nat} (hn : 1 ≤ n) (hn8 : n ≤ 8) : CallsA Try.prog w0 81 [.c (.ptr 0 0), .c (.val (.int .i64 n))] d.H fun r H => r = u32 (d.bits n) ∧ H = (d.bitsOn n).H := by
  have hbr := h.br
  have hlen := h.len
  have hp8 : 2 ^ n ≤ 2 ^ 8 := Nat.pow_le_pow_right (by omega) hn8
  have hp1 := Nat.two_pow_pos n
  refine callsA_of_ev c81_ ?_
  conv => whnf
  refine Or.inl ?_
  conv => whnf
  refine ⟨fun h1 => ?_, fun h1 => ?_⟩
  · conv => whnf
    refine ⟨fun h2 => ?_, fun h2 => ?_⟩
    · conv => whnf
      simp (disch := omega) only [nadd, nmul, nwrap64]
      refine ⟨fun h3 => ?_, fun h3 => ?_⟩
      · have h3 := of_decide_eq_true h3
        obtain ⟨hb, hb2⟩ := d.byte_get h (i := d.br / 8) (by omega)
        conv => whnf
        simp (disch := omega) only [ntdiv, nwrap64]
        refine ⟨by omega, ?_⟩
        conv => whnf
        refine ⟨_, hb, ?_⟩
        conv => whnf
        refine Or.inl ?_
        conv => whnf
        simp (disch := omega) only [nadd, nwrap64]
        have hfin : ∀ (z y : Nat), z = d.byte (d.br / 8) * 2 ^ 8 ||| y → y = d.byte (d.br / 8 + 1) → ∀ m : Nat, m = 2 ^ n - 1 → IntKind.u32.wrap (((BitVec.ofInt IntKind.u32.bits ((z / 2 ^ (16 - d.br % 8 - n) : Nat) : Int) &&& BitVec.ofInt IntKind.u32.bits (m : Int)).toNat : Nat) : Int) = (d.bits n : Int) := by
          intro z y hz hy m hm
          obtain ⟨f1, f2, f3⟩ := d.fast h (n := n) hy
          rw [f1] at hz
          subst hz hm
          rw [nand32 (Nat.lt_of_le_of_lt (Nat.div_le_self _ _) (by omega)) (by omega), f3]
        have hon : (d.bitsOn n).br = d.br + n := by simp [Dec.bitsOn]; omega
        refine ⟨fun h4 => ?_, fun h4 => ?_⟩
        · have h4 := of_decide_eq_true h4
          obtain ⟨hc, hc2⟩ := d.byte_get h (i := d.br / 8 + 1) (by omega)
          conv => whnf
          simp (disch := omega) only [nadd, nwrap64]
          refine ⟨by omega, ?_⟩
          conv => whnf
          refine ⟨_, hc, ?_⟩
          conv => whnf
          simp (disch := omega) only [nadd, nwrap64, ntmod, nsub]
          refine ⟨by omega, ?_⟩
          conv => whnf
          refine ⟨by omega, ?_⟩
          conv => whnf
          refine Or.inl ⟨u32_of ?_, Dec.H_of (d := d.bitsOn n) (by rw [hon]) rfl rfl rfl rfl⟩
          simp (disch := omega) only [nwrap32, nshl32, nshr32, nor32, Int.toNat_natCast, Nat.one_mul, nsub]
          exact hfin _ _ rfl rfl _ rfl
        · have h4 := of_decide_eq_false h4
          conv => whnf
          simp (disch := omega) only [nadd, nwrap64, ntmod, nsub]
          refine ⟨by omega, ?_⟩
          conv => whnf
          refine ⟨by omega, ?_⟩
          conv => whnf
          refine Or.inl ⟨u32_of ?_, Dec.H_of (d := d.bitsOn n) (by rw [hon]) rfl rfl rfl rfl⟩
          simp (disch := omega) only [nwrap32, nshl32, nshr32, Int.toNat_natCast, Nat.one_mul, nsub]
          refine hfin _ 0 (by simp) (d.byte_out (by omega)).symm _ rfl
      · have h3 := of_decide_eq_false h3
        conv => whnf
        refine Or.inl ?_
        conv => whnf
        refine ⟨Fin (n + 1), fun i => ⟨[(0, .o (.c (.ptr 0 0))), (8, .o (.c (.val (.int .u32 (d.bits i.1 : Nat))))), (92, .o (.c (.val (.int .i64 n)))), (93, .o (.c (.val (.int .i64 (i.1 : Nat)))))], (d.bitsOn i.1).H⟩, fun i => n - i.1, ⟨⟨0, by omega⟩, Dec.emb (d.bitsOn_zero).symm ⟨rfl, ?_, rfl, rfl, trivial⟩⟩, fun ⟨i, hi⟩ => ?_⟩
        · rw [d.bits_zero]
          rfl
        · conv => whnf
          refine ⟨fun h4 => ?_, fun h4 => ?_⟩
          · have h4 : (i : Int) < n := of_decide_eq_true h4
            conv => whnf
            refine Or.inl ?_
            conv => whnf
            refine Or.inl ?_
            conv => whnf
            have hi8 : i < 8 := by omega
            have hlt := d.bits_lt i
            have hp7 : 2 ^ i ≤ 2 ^ 7 := Nat.pow_le_pow_right (by omega) (by omega)
            have hbit := Nat.mod_lt ((d.bitsOn i).byte ((d.bitsOn i).br / 8) / 2 ^ (7 - (d.bitsOn i).br % 8)) (show 0 < 2 by omega)
            refine ⟨fun h5 => ?_, fun h5 => ?_⟩
            · conv => whnf
              simp (disch := omega) only [nwrap32, nshl32]
              refine (getBit w0 (d.bitsOn i) (d.bitsOn_ok h i)).mono fun r H ⟨hr, hH⟩ => ?_
              subst hr hH
              conv => whnf
              refine ⟨⟨i + 1, by omega⟩, Dec.emb (d.bitsOn_succ i) ⟨rfl, ?_, rfl, ?_, trivial⟩, ?_⟩
              · refine eq_u32 ?_
                rw [nor32 (by omega) (by show _ % 2 < _; omega), nor_add (i := 1) (b := (d.bitsOn i).bit) hbit, d.bits_succ h hi8]
                show ((d.bits i * 2 + (d.bitsOn i).bit : Nat) : Int) = _
                omega
              · refine eq_i64 ?_
                rw [nadd, nwrapi (by omega)]
              · show n - (i + 1) < n - i
                omega
            · conv => whnf
              have h5 : i = 0 := by simpa using h5
              subst h5
              refine (getBit w0 (d.bitsOn 0) (d.bitsOn_ok h 0)).mono fun r H ⟨hr, hH⟩ => ?_
              subst hr hH
              conv => whnf
              refine ⟨⟨1, by omega⟩, Dec.emb (d.bitsOn_succ 0) ⟨rfl, ?_, rfl, ?_, trivial⟩, ?_⟩
              · refine eq_u32 ?_
                have e0 : (d.bitsOn 0).bit = d.bits 1 := by rw [d.bits_succ h (i := 0) (by omega), d.bits_zero]; omega
                show IntKind.u32.wrap (((BitVec.ofInt IntKind.u32.bits ((d.bits 0 : Nat) : Int) ||| BitVec.ofInt IntKind.u32.bits (((d.bitsOn 0).bit : Nat) : Int)).toNat : Nat) : Int) = _
                rw [d.bits_zero, nor32 (by omega) (by show _ % 2 < _; omega), e0, Nat.zero_or]
              · rfl
              · show n - 1 < n - 0
                omega
          · have h4 : ¬ (i : Int) < n := of_decide_eq_false h4
            have hin : i = n := by omega
            subst hin
            conv => whnf
            refine Or.inl ⟨rfl, rfl⟩
    · simp at h2
      omega
  · simp at h1
    omega
end Go.Proofs.Ytkomikpfnogjcaa
