/- The decoder's symbols. -/
import Derived.Test.YtkomikpfnogjcaaRcC
namespace Go.Proofs.Ytkomikpfnogjcaa
open Go Go.Vc
set_option maxRecDepth 100000

theorem localMin (w0 : World) (H : List Blk) (a b : Nat) : CallsA Try.prog w0 85 [.c (.val (.int .u64 a)), .c (.val (.int .u64 b))] H fun r H' => r = u64 (min a b) ∧ H' = H := by
  refine callsA_of_ev c85_ ?_
  conv => whnf
  refine Or.inl ?_
  conv => whnf
  refine ⟨fun h1 => ?_, fun h1 => ?_⟩
  · have h1 : (a : Int) < (b : Int) := of_decide_eq_true h1
    conv => whnf
    refine Or.inl ⟨u64_of ?_, rfl⟩
    rw [Nat.min_eq_left (by omega)]
  · have h1 : ¬ (a : Int) < (b : Int) := of_decide_eq_false h1
    conv => whnf
    refine Or.inl ⟨u64_of ?_, rfl⟩
    rw [Nat.min_eq_right (by omega)]

/-- Where a symbol lies, of so many. -/
def Dec.at (d : Dec) (total : Nat) : Nat := total - min (d.val / (d.rng / total) + 1) total

theorem uniSym (w0 : World) (d : Dec) {n : Nat} (hn : 1 ≤ n) (hr : n ≤ d.rng) (hr2 : d.rng < 4294967296) (hv : d.val < 4294967295) :
    CallsA Try.prog w0 83 [.c (.ptr 0 0), .c (.val (.int .u32 n))] d.H fun r H => r = u32 (d.at n) ∧ H = d.H := by
  have hdiv : 1 ≤ d.rng / n := Nat.div_pos hr hn
  have hq : d.rng / n ≤ d.rng := Nat.div_le_self _ _
  have hq2 : d.val / (d.rng / n) ≤ d.val := Nat.div_le_self _ _
  refine callsA_of_ev c83_ ?_
  conv => whnf
  simp (disch := omega) only [ntdiv, nwrap32]
  refine ⟨by omega, ?_⟩
  conv => whnf
  simp (disch := omega) only [ntdiv, nwrap32, nadd]
  refine ⟨by omega, ?_⟩
  conv => whnf
  simp (disch := omega) only [ntdiv, nwrap32, nadd, nwrap64]
  refine (localMin w0 d.H _ _).mono ?_
  rintro _ _ ⟨rfl, rfl⟩
  conv => whnf
  refine Or.inl ⟨u32_of ?_, rfl⟩
  have hle : n - min (d.val / (d.rng / n) + 1) n ≤ n := Nat.sub_le _ _
  rw [nwrap32 (Nat.lt_of_le_of_lt (Nat.min_le_right _ _) (by omega)), nsub (Nat.min_le_right _ _), nwrap32 (by omega)]
  rfl

def Dec.cut (d : Dec) (scale low high total : Nat) : Dec :=
  { d with val := d.val - scale * (total - high), rng := if low ≠ 0 then scale * (high - low) else d.rng - scale * (total - high) }

theorem update (w0 : World) (d : Dec) (h : d.pre) {scale low high total : Nat} (hs : 1 ≤ scale) (hl : low < high) (hh : high ≤ total) (ht : scale * total ≤ d.rng) (hv : scale * (total - high) ≤ d.val) :
    CallsA Try.prog w0 84 [.c (.ptr 0 0), .c (.val (.int .u32 scale)), .c (.val (.int .u32 low)), .c (.val (.int .u32 high)), .c (.val (.int .u32 total))] d.H fun r H => r = .t [] ∧ H = (d.cut scale low high total).norm.H ∧ (d.cut scale low high total).pre := by
  have hhi := h.hi
  have hval := h.val
  have hlo := h.lo
  have e1 : scale * (total - high) + scale * high = scale * total := by rw [← Nat.mul_add, Nat.sub_add_cancel hh]
  have e2 : scale * (high - low) + scale * low = scale * high := by rw [← Nat.mul_add, Nat.sub_add_cancel (by omega)]
  have e3 : 1 ≤ scale * (high - low) := Nat.mul_pos hs (by omega)
  have e4 : total ≤ scale * total := Nat.le_mul_of_pos_left _ hs
  have e5 : 1 ≤ scale * high := Nat.mul_pos hs (by omega)
  have hpre : (d.cut scale low high total).pre := by
    refine ⟨⟨h.ok.bytes, h.ok.len, h.ok.br, h.ok.rb, h.ok.nb⟩, h.nb, ?_, ?_, ?_⟩
    · show 1 ≤ (if low ≠ 0 then _ else _)
      split <;> omega
    · show (if low ≠ 0 then _ else _) ≤ _
      split <;> omega
    · show d.val - _ < _
      omega
  refine callsA_of_ev c84_ ?_
  conv => whnf
  simp (disch := omega) only [nsub, nwrap32, nmul]
  refine Or.inl ?_
  conv => whnf
  refine ⟨fun h1 => ?_, fun h1 => ?_⟩
  · have h1 : low ≠ 0 := by
      intro h0
      subst h0
      cases h1
    conv => whnf
    simp (disch := omega) only [nsub, nwrap32, nmul]
    refine (normalize w0 ⟨d.data, d.br, d.rb, d.nb, scale * (high - low), d.val - scale * (total - high)⟩ ?_).mono ?_
    · have := hpre
      unfold Dec.cut at this
      rwa [if_pos h1] at this
    · rintro _ _ ⟨rfl, rfl⟩
      conv => whnf
      refine Or.inl ⟨rfl, ?_, hpre⟩
      show Dec.H _ = _
      unfold Dec.cut
      rw [if_pos h1]
  · have h1 : low = 0 := by
      have h1 : ((low : Int) != ((0 : Nat) : Int)) = false := h1
      simpa using h1
    conv => whnf
    simp (disch := omega) only [nsub, nwrap32, nmul]
    refine (normalize w0 ⟨d.data, d.br, d.rb, d.nb, d.rng - scale * (total - high), d.val - scale * (total - high)⟩ ?_).mono ?_
    · have := hpre
      unfold Dec.cut at this
      rwa [if_neg (by simp [h1])] at this
    · rintro _ _ ⟨rfl, rfl⟩
      conv => whnf
      refine Or.inl ⟨rfl, ?_, hpre⟩
      show Dec.H _ = _
      unfold Dec.cut
      rw [if_neg (by simp [h1])]
end Go.Proofs.Ytkomikpfnogjcaa
