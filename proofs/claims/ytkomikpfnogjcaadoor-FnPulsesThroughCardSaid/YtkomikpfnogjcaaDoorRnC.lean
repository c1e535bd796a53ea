/- The encoder writes a symbol. -/
import Derived.Test.YtkomikpfnogjcaaDoorRnB
namespace Go.Proofs.YtkomikpfnogjcaaDoor
open Go Go.Vc
set_option maxRecDepth 100000

theorem atH {P : Program} {w0 : World} {f : FuncId} {args : List A1} {H H' : List Blk} {R : AV → List Blk → Prop} (h : H = H') (hc : CallsA P w0 f args H' R) : CallsA P w0 f args H R := h ▸ hc
theorem EncS.H_of {e : EncS} {n m : Nat} {w b r l x t k : Int} {xs ys : List Int} (h1 : n = e.buf.length) (h2 : m = e.tail.length) (h3 : w = e.win) (h4 : b = e.nend) (h5 : r = e.rng) (h6 : l = e.low) (h7 : x = e.rem) (h8 : k = e.ext) (h9 : t = e.total) (h10 : xs = e.buf) (h11 : ys = e.tail) :
    [Blk.cells 47 [.vec 1 n, .vec 2 m, .val (.int .u64 w), .val (.int .u64 b), .val (.int .u32 r), .val (.int .u32 l), .val (.int .i64 x), .val (.int .i64 k), .val (.int .u64 t)], byteBlk xs, byteBlk ys] = e.H := by
  subst h1 h2 h3 h4 h5 h6 h7 h8 h9 h10 h11
  rfl

def EncS.sym (e : EncS) (lo hi n : Nat) : EncS :=
  if lo = 0 then { e with rng := e.rng - e.rng / n * (n - hi) }
  else { e with low := e.low + (e.rng - e.rng / n * (n - lo)), rng := e.rng / n * (hi - lo) }
def EncS.cum (e : EncS) (lo hi n : Nat) : EncS := if n = 0 ∨ hi ≤ lo ∨ n < hi then e else (e.sym lo hi n).norm

theorem EncS.sym_facts {e : EncS} {lo hi n : Nat} (h1 : lo < hi) (h2 : hi ≤ n) : e.rng / n * (n - lo) ≤ e.rng ∧ e.rng / n * (n - hi) ≤ e.rng ∧ e.rng / n * (hi - lo) ≤ e.rng ∧ e.rng / n * (n - lo) = e.rng / n * (hi - lo) + e.rng / n * (n - hi) ∧ e.rng / n * (n - hi) + e.rng / n ≤ e.rng := by
  have hm : e.rng / n * n ≤ e.rng := Nat.div_mul_le_self _ _
  generalize e.rng / n = s at *
  have a := Nat.mul_le_mul_left s (show n - lo ≤ n by omega)
  have b := Nat.mul_le_mul_left s (show n - hi + 1 ≤ n by omega)
  have c := Nat.mul_le_mul_left s (show hi - lo ≤ n by omega)
  have d : s * (n - lo) = s * (hi - lo) + s * (n - hi) := by
    rw [← Nat.mul_add]
    congr 1
    omega
  rw [Nat.mul_add, Nat.mul_one] at b
  omega
theorem EncS.sym_ok {e : EncS} {N lo hi n : Nat} (h : e.ok N) (hr : 8388608 < e.rng) (h1 : lo < hi) (h2 : hi ≤ n) (h3 : n ≤ 65535) : (e.sym lo hi n).ok N := by
  obtain ⟨a, b, c, d, f⟩ := e.sym_facts h1 h2
  have hs : 1 ≤ e.rng / n := (Nat.le_div_iff_mul_le (by omega)).2 (by omega)
  have hlow := h.low
  have hhi := h.hi
  unfold EncS.sym
  split
  · refine ⟨h.plain, ?_, ?_, ?_, h.total, h.win, h.nend, h.tail, h.bb, h.tb⟩
    · show 1 ≤ e.rng - e.rng / n * (n - hi)
      omega
    · show e.rng - e.rng / n * (n - hi) ≤ _
      omega
    · show e.low + (e.rng - e.rng / n * (n - hi)) ≤ _
      omega
  · refine ⟨h.plain, ?_, ?_, ?_, h.total, h.win, h.nend, h.tail, h.bb, h.tb⟩
    · show 1 ≤ e.rng / n * (hi - lo)
      exact Nat.le_trans hs (Nat.le_mul_of_pos_right _ (by omega))
    · show e.rng / n * (hi - lo) ≤ _
      omega
    · show e.low + (e.rng - e.rng / n * (n - lo)) + e.rng / n * (hi - lo) ≤ _
      omega

/-- An encoder between two operations. -/
structure EncS.inv (e : EncS) (N : Nat) : Prop where
  ok : e.ok N
  big : 8388608 < e.rng
theorem EncS.ok.mono {e : EncS} {N M : Nat} (h : e.ok N) (hm : N ≤ M) : e.ok M := by
  have h1 := h.plain
  have h2 := h.total
  have h3 := h.tail
  exact ⟨⟨h1.1, h1.2.1, by have := h1.2.2; omega⟩, h.lo, h.hi, h.low, by omega, h.win, h.nend, by omega, h.bb, h.tb⟩
theorem EncS.inv.mono {e : EncS} {N M : Nat} (h : e.inv N) (hm : N ≤ M) : e.inv M := ⟨h.ok.mono hm, h.big⟩
theorem EncS.norm_inv {e : EncS} {N : Nat} (h : e.ok N) : e.norm.inv (N + 3) := ⟨(EncS.norm_ok h).1, (EncS.norm_ok h).2.1⟩
theorem EncS.cum_inv {e : EncS} {N lo hi n : Nat} (h : e.inv N) (h3 : n ≤ 65535) : (e.cum lo hi n).inv (N + 3) := by
  unfold EncS.cum
  split
  · exact h.mono (by omega)
  · exact EncS.norm_inv (EncS.sym_ok h.ok h.big (by omega) (by omega) h3)

theorem cumW (w0 : World) (e : EncS) {N : Nat} (hN : N ≤ 1048500) (h : e.inv N) {lo hi n : Nat} (h1 : lo < 4294967296) (h2 : hi < 4294967296) (h3 : n ≤ 65535) :
    CallsA Tryd.prog w0 37 [.c (.ptr 0 0), .c (.val (.int .u32 lo)), .c (.val (.int .u32 hi)), .c (.val (.int .u32 n))] e.H fun r H => r = .t [] ∧ H = (e.cum lo hi n).M := by
  have hlow := h.ok.low
  have hbig := h.big
  have hhi := h.ok.hi
  refine callsA_of_ev c37_ ?_
  conv => whnf
  refine Or.inl ?_
  conv => whnf
  refine ⟨fun c1 => ?_, fun c1 => ?_⟩
  · have c1 := beq_t c1
    have hc : e.cum lo hi n = e := if_pos (.inl c1)
    conv => whnf
    rw [hc]
    exact EncS.finM 1 2 rfl rfl rfl (Nat.le_of_ble_eq_true rfl) rfl
  · have c1 := beq_f c1
    conv => whnf
    refine ⟨fun c2 => ?_, fun c2 => ?_⟩
    · have c2 := ge_t c2
      have hc : e.cum lo hi n = e := if_pos (.inr (.inl c2))
      conv => whnf
      rw [hc]
      exact EncS.finM 1 2 rfl rfl rfl (Nat.le_of_ble_eq_true rfl) rfl
    · have c2 := ge_f c2
      conv => whnf
      refine ⟨fun c3 => ?_, fun c3 => ?_⟩
      · have c3 := gt_t c3
        have hc : e.cum lo hi n = e := if_pos (.inr (.inr c3))
        conv => whnf
        rw [hc]
        exact EncS.finM 1 2 rfl rfl rfl (Nat.le_of_ble_eq_true rfl) rfl
      · have c3 := gt_f c3
        have hc : e.cum lo hi n = (e.sym lo hi n).norm := if_neg (by omega)
        have hok := EncS.sym_ok h.ok h.big (lo := lo) (hi := hi) (n := n) (by omega) (by omega) h3
        have hl := hok.low
        have hlo := hok.lo
        obtain ⟨f1, f2, f3, f4, f5⟩ := e.sym_facts (lo := lo) (hi := hi) (n := n) (by omega) (by omega)
        conv => whnf
        refine ⟨by omega, ?_⟩
        conv => whnf
        refine Or.inl ?_
        conv => whnf
        refine ⟨fun c4 => ?_, fun c4 => ?_⟩
        · have c4 := bne_t c4
          have hs : e.sym lo hi n = { e with low := e.low + (e.rng - e.rng / n * (n - lo)), rng := e.rng / n * (hi - lo) } := if_neg c4
          conv => whnf
          rw [hs] at hl hlo
          refine ⟨trivial, ?_⟩
          conv => whnf
          refine (atH (EncS.H_of (e := e.sym lo hi n) (by rw [hs]) (by rw [hs]) (by rw [hs]) (by rw [hs]) ?_ ?_ (by rw [hs]) (by rw [hs]) (by rw [hs]) (by rw [hs]) (by rw [hs])) (normW w0 _ hN hok)).mono ?_
          · rw [hs, ntdiv, nsub (by omega), nwrap32 (n := e.rng / n) (by omega), nwrap32 (n := hi - lo) (by omega), nmul, nwrap32 (n := e.rng / n * (hi - lo)) (by omega)]
          · rw [hs, ntdiv, nsub (by omega), nwrap32 (n := e.rng / n) (by omega), nwrap32 (n := n - lo) (by omega), nmul, nwrap32 (n := e.rng / n * (n - lo)) (by omega), nsub (by omega), nwrap32 (n := e.rng - e.rng / n * (n - lo)) (by omega), nadd, nwrap32 (by simp only at hl hlo; omega)]
          · rintro _ _ ⟨rfl, rfl⟩
            conv => whnf
            exact Or.inl ⟨rfl, by rw [hc]⟩
        · have c4 : lo = 0 := bne_f c4
          have hs : e.sym lo hi n = { e with rng := e.rng - e.rng / n * (n - hi) } := if_pos c4
          conv => whnf
          refine (atH (EncS.H_of (e := e.sym lo hi n) (by rw [hs]) (by rw [hs]) (by rw [hs]) (by rw [hs]) ?_ (by rw [hs]) (by rw [hs]) (by rw [hs]) (by rw [hs]) (by rw [hs]) (by rw [hs])) (normW w0 _ hN hok)).mono ?_
          · rw [hs, ntdiv, nsub (by omega), nwrap32 (n := e.rng / n) (by omega), nwrap32 (n := n - hi) (by omega), nmul, nwrap32 (n := e.rng / n * (n - hi)) (by omega), nsub (by omega), nwrap32 (by omega)]
          · rintro _ _ ⟨rfl, rfl⟩
            conv => whnf
            exact Or.inl ⟨rfl, by rw [hc]⟩

/-- A bit that is 1 once in 2^k. -/
def EncS.bit (e : EncS) (k b : Nat) : EncS := if b = 0 then { e with rng := e.rng - e.rng / 2 ^ k } else { e with low := e.low + (e.rng - e.rng / 2 ^ k), rng := e.rng / 2 ^ k }
theorem EncS.bit_sym {e : EncS} {k b : Nat} (hk : 1 ≤ k) : e.bit k b = if b = 0 then e.sym 0 (2 ^ k - 1) (2 ^ k) else e.sym (2 ^ k - 1) (2 ^ k) (2 ^ k) := by
  have hp : 2 ^ 1 ≤ 2 ^ k := Nat.pow_le_pow_right (by omega) hk
  unfold EncS.bit EncS.sym
  split
  · rw [if_pos rfl, show 2 ^ k - (2 ^ k - 1) = 1 by omega, Nat.mul_one]
  · rw [if_neg (by omega), show 2 ^ k - (2 ^ k - 1) = 1 by omega, Nat.mul_one]
theorem EncS.bit_ok {e : EncS} {N k b : Nat} (h : e.inv N) (hk : 1 ≤ k) (hk2 : k ≤ 15) : (e.bit k b).ok N := by
  have hp : 2 ^ 1 ≤ 2 ^ k := Nat.pow_le_pow_right (by omega) hk
  have hp2 : 2 ^ k ≤ 2 ^ 15 := Nat.pow_le_pow_right (by omega) hk2
  rw [EncS.bit_sym hk]
  split
  · exact EncS.sym_ok h.ok h.big (by omega) (by omega) (by omega)
  · exact EncS.sym_ok h.ok h.big (by omega) (by omega) (by omega)
theorem logpW (w0 : World) (e : EncS) {N : Nat} (hN : N ≤ 1048500) (h : e.inv N) {k b : Nat} (hk : 1 ≤ k) (hk2 : k ≤ 15) :
    CallsA Tryd.prog w0 51 [.c (.ptr 0 0), .c (.val (.int .u64 k)), .c (.val (.int .u32 b))] e.H fun r H => r = .t [] ∧ H = (e.bit k b).norm.M := by
  have hok := EncS.bit_ok h hk hk2 (b := b)
  have hl := hok.low
  have hlo := hok.lo
  have hhi := h.ok.hi
  have hd : e.rng / 2 ^ k ≤ e.rng := Nat.div_le_self _ _
  have hs1 : b ≠ 0 → e.bit k b = { e with low := e.low + (e.rng - e.rng / 2 ^ k), rng := e.rng / 2 ^ k } := fun c => if_neg c
  have hs0 : b = 0 → e.bit k b = { e with rng := e.rng - e.rng / 2 ^ k } := fun c => if_pos c
  refine callsA_of_ev c51_ ?_
  conv => whnf
  refine ⟨by omega, ?_⟩
  conv => whnf
  refine Or.inl ?_
  conv => whnf
  have hsc : ((e.rng : Nat) : Int).fdiv (2 ^ min ((k : Nat) : Int).toNat IntKind.u32.bits) = ((e.rng / 2 ^ k : Nat) : Int) := by rw [nshrv32 _ _ (by omega)]
  rw [hsc]
  clear hsc
  have hd0 : 0 ≤ ((e.rng / 2 ^ k : Nat) : Int) := Int.natCast_nonneg _
  generalize e.rng / 2 ^ k = q at *
  refine ⟨fun c4 => ?_, fun c4 => ?_⟩
  · have c4 := bne_t c4
    have hs : e.bit k b = { e with low := e.low + (e.rng - q), rng := q } := hs1 c4
    rw [hs] at hl hlo
    conv => whnf
    refine (atH (EncS.H_of (e := e.bit k b) (by rw [hs]) (by rw [hs]) (by rw [hs]) (by rw [hs]) ?_ ?_ (by rw [hs]) (by rw [hs]) (by rw [hs]) (by rw [hs]) (by rw [hs])) (normW w0 _ hN hok)).mono ?_
    · rw [hs]
    · rw [hs, nsub (by omega), nwrap32 (n := e.rng - q) (by omega), nadd, nwrap32 (by simp only at hl hlo; omega)]
    · rintro _ _ ⟨rfl, rfl⟩
      conv => whnf
      exact Or.inl ⟨rfl, rfl⟩
  · have c4 : b = 0 := bne_f c4
    have hs : e.bit k b = { e with rng := e.rng - q } := hs0 c4
    conv => whnf
    refine (atH (EncS.H_of (e := e.bit k b) (by rw [hs]) (by rw [hs]) (by rw [hs]) (by rw [hs]) ?_ (by rw [hs]) (by rw [hs]) (by rw [hs]) (by rw [hs]) (by rw [hs]) (by rw [hs])) (normW w0 _ hN hok)).mono ?_
    · rw [hs, nsub (by omega), nwrap32 (by omega)]
    · rintro _ _ ⟨rfl, rfl⟩
      conv => whnf
      exact Or.inl ⟨rfl, rfl⟩
end Go.Proofs.YtkomikpfnogjcaaDoor
