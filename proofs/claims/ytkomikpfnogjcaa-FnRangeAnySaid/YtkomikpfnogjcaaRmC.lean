/- The laws' bounds, and their sanity check. -/
import Derived.Test.YtkomikpfnogjcaaRmB
import Derived.Test.YtkomikpfnogjcaaIrA
import Derived.Deep.Slices
section
namespace Go.Proofs.Ytkomikpfnogjcaa
open Go Go.Vc
set_option maxRecDepth 100000

structure EncS where
  buf : List Int
  tail : List Int
  win : Nat
  nend : Nat
  rng : Nat
  low : Nat
  rem : Int
  ext : Nat
  total : Nat
def EncS.blk (e : EncS) (i j : Nat) : Blk := .cells 101 [.vec i e.buf.length, .vec j e.tail.length, .val (.int .u64 e.win), .val (.int .u64 e.nend), .val (.int .u32 e.rng), .val (.int .u32 e.low), .val (.int .i64 e.rem), .val (.int .i64 e.ext), .val (.int .u64 e.total)]
def byteBlk (xs : List Int) : Blk := .vec true 5 (encI .u8) [] 1 xs
def EncS.H (e : EncS) : List Blk := [e.blk 1 2, byteBlk e.buf, byteBlk e.tail]
def EncS.init : EncS := ⟨[], [], 0, 0, 2147483648, 0, -1, 0, 33⟩

theorem encInit (w0 : World) : CallsA Try.prog w0 62 [.c (.ptr 0 0)] [.cells 101 [.val (.slice none 0 0), .val (.slice none 0 0), .val (.int .u64 0), .val (.int .u64 0), .val (.int .u32 0), .val (.int .u32 0), .val (.int .i64 0), .val (.int .i64 0), .val (.int .u64 0)]] fun r H => r = .t [] ∧ H = EncS.init.H := by
  refine callsA_of_ev c62_ ?_
  conv => whnf
  refine ⟨rfl, rfl, Or.inr ⟨5, Int, encI .u8, by omega, fun _ => rfl, ?_⟩⟩
  conv => whnf
  refine ⟨rfl, rfl, Or.inr ⟨5, Int, encI .u8, by omega, fun _ => rfl, ?_⟩⟩
  conv => whnf
  exact Or.inl ⟨rfl, rfl⟩
end Go.Proofs.Ytkomikpfnogjcaa
end
section
namespace Go.Proofs.Ytkomikpfnogjcaa
open Go Go.Vc
set_option maxRecDepth 100000

theorem encFinal (w0 : World) (e : EncS) : CallsA Try.prog w0 69 [.c (.ptr 0 0)] e.H fun r H => r = u32 e.rng ∧ H = e.H := by
  refine callsA_of_ev c69_ ?_
  conv => whnf
  exact Or.inl ⟨rfl, rfl⟩
def EncS.tell (e : EncS) : Nat := e.total - len e.rng
theorem encTell (w0 : World) (e : EncS) (h : e.total ≤ 4611686018427387904) (h1 : 1 ≤ e.rng) (h2 : e.rng < 4294967296) : CallsA Try.prog w0 70 [.c (.ptr 0 0)] e.H fun r H => r = u64 e.tell ∧ H = e.H := by
  have hl1 := le_len (n := e.rng) (k := 0) h1
  have hl2 := len_le (n := e.rng) (k := 32) h2
  refine callsA_of_ev c70_ ?_
  conv => whnf
  refine (len32 w0 e.H h2).mono ?_
  rintro _ _ ⟨rfl, rfl⟩
  conv => whnf
  refine Or.inl ?_
  conv => whnf
  simp (disch := omega) only [nwrap64]
  refine ⟨fun h3 => ?_, fun h3 => ?_⟩
  · have := beq_t h3
    omega
  · conv => whnf
    refine Or.inl ?_
    conv => whnf
    refine ⟨fun h4 => ?_, fun h4 => ?_⟩
    · have h4 := le_t h4
      conv => whnf
      refine Or.inl ⟨u64_of ?_, rfl⟩
      unfold EncS.tell
      omega
    · have h4 := le_f h4
      conv => whnf
      refine Or.inl ⟨u64_of ?_, rfl⟩
      unfold EncS.tell
      rw [nsub (by omega), nwrap64 (by omega)]
theorem EncS.embH {e : EncS} {H : List Blk} {e0 env : Env} (hd : H = e.H) (he : embE [0, 1, 2] env e0) : EmbS 3 ⟨e0, e.H⟩ ⟨env, H⟩ := by
  subst hd
  exact ⟨[0, 1, 2], ⟨rfl, ⟨rfl, rfl, rfl, rfl, rfl, rfl, trivial⟩, rfl⟩, he⟩
def EncS.frac (e : EncS) : Nat := Go.Proofs.Ytkomikpfnogjcaa.frac e.total e.rng
theorem encTellFrac (w0 : World) (d : EncS) (hnb : d.total ≤ 1152921504606846976) (h1 : 8388608 ≤ d.rng) (h2 : d.rng < 4294967296) : CallsA Try.prog w0 71 [.c (.ptr 0 0)] d.H fun r H => r = u64 d.frac ∧ H = d.H := by
  have hl1 := le_len (n := d.rng) (k := 23) h1
  have hl2 := len_le (n := d.rng) (k := 32) h2
  obtain ⟨ht1, ht2⟩ := top_bits h1
  refine callsA_of_ev c71_ ?_
  conv => whnf
  refine (len32 w0 d.H h2).mono ?_
  rintro _ _ ⟨rfl, rfl⟩
  conv => whnf
  refine Or.inl ?_
  conv => whnf
  simp (disch := omega) only [nwrap64]
  refine ⟨fun h3 => ?_, fun h3 => ?_⟩
  · have h3 : ((len d.rng : Nat) : Int) = ((0 : Nat) : Int) := by simpa using h3
    omega
  · conv => whnf
    refine Or.inl ?_
    conv => whnf
    refine ⟨fun h4 => ?_, fun h4 => ?_⟩
    · have h4 := of_decide_eq_true h4
      have h4 : ((len d.rng : Nat) : Int) < ((24 : Nat) : Int) := h4
      omega
    · conv => whnf
      simp (disch := omega) only [nsub, nwrap64]
      refine ⟨by omega, ?_⟩
      conv => whnf
      simp (disch := omega) only [Int.toNat_natCast, nshr32, nwrap64]
      refine Or.inl ?_
      conv => whnf
      refine ⟨_root_.Fin 4, fun ⟨k, _⟩ => ⟨[(0, .o (.c (.ptr 0 0))), (3, .o (.c (.val (.int .u64 ((fracIter (d.rng / 2 ^ (len d.rng - 16), len d.rng) k).2 : Nat))))), (4, .o (.c (.val (.int .u64 ((fracIter (d.rng / 2 ^ (len d.rng - 16), len d.rng) k).1 : Nat))))), (33, .o (.c (.val (.int .i64 (k : Nat)))))], d.H⟩, fun k => 3 - k.1, ⟨0, EncS.embH rfl ⟨rfl, rfl, rfl, rfl, trivial⟩⟩, fun ⟨k, hk⟩ => ?_⟩
      obtain ⟨a, b, c⟩ := fracIter_lt (p := (d.rng / 2 ^ (len d.rng - 16), len d.rng)) ht1 ht2 hl2 k (by omega)
      have hpk : 2 ^ k ≤ 2 ^ 3 := Nat.pow_le_pow_right (by omega) (by omega)
      obtain ⟨a', b', c', d'⟩ := fracStep_lt a b
      conv => whnf
      refine ⟨fun h5 => ?_, fun h5 => ?_⟩
      · have h5 := of_decide_eq_true h5
        have h5 : (k : Int) < ((3 : Nat) : Int) := h5
        conv => whnf
        refine Or.inl ?_
        conv => whnf
        have hs : fracIter (d.rng / 2 ^ (len d.rng - 16), len d.rng) (k + 1) = fracStep (fracIter (d.rng / 2 ^ (len d.rng - 16), len d.rng) k) := rfl
        generalize hq : fracIter (d.rng / 2 ^ (len d.rng - 16), len d.rng) k = q at *
        obtain ⟨r, l⟩ := q
        simp only at a b c d'
        have hb2 : r * r / 32768 / 65536 ≤ 1 := by omega
        simp (disch := omega) only [nmul, nwrap64, nshr64, nadd]
        refine ⟨fun h6 => ?_, fun h6 => ?_⟩
        · have h6 : r * r / 2 ^ 15 / 2 ^ 16 ≠ 0 := by
            intro h0
            rw [h0] at h6
            cases h6
          conv => whnf
          refine ⟨⟨k + 1, by omega⟩, EncS.embH rfl ⟨rfl, ?_, ?_, ?_, trivial⟩, ?_⟩
          · refine eq_u64 ?_
            rw [hs]
            rfl
          · refine eq_u64 ?_
            rw [hs, nshr64 _ _ (by omega), fracStep_pos h6]
          · refine eq_i64 ?_
            rw [nadd, nwrapi (by omega)]
          · show 3 - (k + 1) < 3 - k
            omega
        · have h6 : r * r / 2 ^ 15 / 2 ^ 16 = 0 := bne_f h6
          conv => whnf
          refine ⟨⟨k + 1, by omega⟩, EncS.embH rfl ⟨rfl, ?_, ?_, ?_, trivial⟩, ?_⟩
          · refine eq_u64 ?_
            rw [hs]
            rfl
          · refine eq_u64 ?_
            rw [hs, fracStep_neg h6]
          · refine eq_i64 ?_
            rw [nadd, nwrapi (by omega)]
          · show 3 - (k + 1) < 3 - k
            omega
      · have h5 := of_decide_eq_false h5
        have h5 : ¬ (k : Int) < ((3 : Nat) : Int) := h5
        have hk3 : k = 3 := by omega
        subst hk3
        conv => whnf
        refine Or.inl ?_
        conv => whnf
        simp (disch := omega) only [nmul, nwrap64]
        refine ⟨fun h6 => ?_, fun h6 => ?_⟩
        · have h6 := of_decide_eq_true h6
          conv => whnf
          refine Or.inl ⟨u64_of ?_, rfl⟩
          have h6 : ((d.total * 8 : Nat) : Int) ≤ ((fracIter (d.rng / 2 ^ (len d.rng - 16), len d.rng) 3).2 : Nat) := h6
          show (0 : Int) = ((d.total * 8 - (fracIter (d.rng / 2 ^ (len d.rng - 16), len d.rng) 3).2 : Nat) : Int)
          omega
        · have h6 := of_decide_eq_false h6
          conv => whnf
          refine Or.inl ⟨u64_of ?_, rfl⟩
          have h6 : ¬ ((d.total * 8 : Nat) : Int) ≤ ((fracIter (d.rng / 2 ^ (len d.rng - 16), len d.rng) 3).2 : Nat) := h6
          show _ = ((d.total * 8 - (fracIter (d.rng / 2 ^ (len d.rng - 16), len d.rng) 3).2 : Nat) : Int)
          rw [nsub (by omega), nwrap64 (by omega)]
end Go.Proofs.Ytkomikpfnogjcaa
end
section
namespace Go.Proofs.Ytkomikpfnogjcaa
open Go Go.Vc
set_option maxRecDepth 100000

theorem bitMaskW (w0 : World) (H : List Blk) {n : Nat} (h : n < 32) : CallsA Try.prog w0 91 [.c (.val (.int .u64 n))] H fun r H' => r = u32 (2 ^ n - 1) ∧ H' = H := by
  have hp : 2 ^ n ≤ 2 ^ 31 := Nat.pow_le_pow_right (by omega) (by omega)
  have hp0 : 1 ≤ 2 ^ n := Nat.one_le_two_pow
  refine callsA_of_ev c91_ ?_
  conv => whnf
  refine Or.inl ?_
  conv => whnf
  refine ⟨fun h1 => absurd (ge_t h1) (by omega), fun _ => ?_⟩
  conv => whnf
  refine ⟨by omega, ?_⟩
  conv => whnf
  refine Or.inl ⟨u32_of ?_, rfl⟩
  rw [Int.toNat_natCast, nshl32 _ _ (by omega), Nat.one_mul, nwrap32 (by omega), nsub hp0, nwrap32 (by omega)]
theorem boolToIntW (w0 : World) (H : List Blk) (b : Bool) : CallsA Try.prog w0 95 [.c (.val (.bool b))] H fun r H' => r = i64 (bif b then 1 else 0) ∧ H' = H := by
  refine callsA_of_ev c95_ ?_
  conv => whnf
  refine Or.inl ?_
  conv => whnf
  refine ⟨fun h => ?_, fun h => ?_⟩
  · subst h
    conv => whnf
    exact Or.inl ⟨rfl, rfl⟩
  · subst h
    conv => whnf
    exact Or.inl ⟨rfl, rfl⟩
theorem shouldW (w0 : World) (e : EncS) (n : Nat) (h : 0 < e.nend) (hb : e.buf.length ≠ 0) (hn : e.nend ≤ n) : CallsA Try.prog w0 96 [.c (.ptr 0 0), .c (.val (.int .u64 n))] e.H fun r H' => r = .o (.c (.val (.bool false))) ∧ H' = e.H := by
  refine callsA_of_ev c96_ ?_
  conv => whnf
  refine ⟨fun _ => ?_, fun h1 => absurd (gt_f h1) (by omega)⟩
  conv => whnf
  refine ⟨fun h1 => absurd (beq_t h1) hb, fun _ => ?_⟩
  conv => whnf
  refine Or.inl ⟨?_, rfl⟩
  have : decide ((e.nend : Int) > (n : Int)) = false := decide_eq_false (by omega)
  rw [this]
  rfl
theorem carryN (w0 : World) (e : EncS) (hr : e.rem = -1) (hx : e.ext = 0) {v : Nat} (hv : v < 255) : CallsA Try.prog w0 94 [.c (.ptr 0 0), .c (.val (.int .i64 v))] e.H fun r H => r = .t [] ∧ H = ({ e with rem := v } : EncS).H := by
  refine callsA_of_ev c94_ ?_
  conv => whnf
  refine Or.inl ?_
  conv => whnf
  refine ⟨fun h1 => ?_, fun h1 => absurd (bne_f h1) (by omega)⟩
  conv => whnf
  refine Or.inl ?_
  conv => whnf
  refine ⟨fun h2 => absurd (of_decide_eq_true h2 : (0 : Int) ≤ e.rem) (by omega), fun _ => ?_⟩
  conv => whnf
  refine Or.inl ?_
  conv => whnf
  refine ⟨fun h1 => absurd (gt_t h1) (by omega), fun _ => ?_⟩
  conv => whnf
  refine Or.inl ⟨rfl, ?_⟩
  rw [nandi (by omega) (by omega), show (255 : Nat) = 2 ^ 8 - 1 by rfl, nand_mask, Nat.mod_eq_of_lt (by omega)]
  rfl
theorem carryP (w0 : World) (e : EncS) (hr : 0 ≤ e.rem) (hr2 : e.rem < 256) (hx : e.ext = 0) (hb : e.buf.length ≤ 1048576) {v : Nat} (hv : v < 255) : CallsA Try.prog w0 94 [.c (.ptr 0 0), .c (.val (.int .i64 v))] e.H fun r H => r = .t [] ∧ H = [({ e with rem := v, buf := e.buf ++ [e.rem] } : EncS).blk 3 2, .dead, byteBlk e.tail, byteBlk (e.buf ++ [e.rem])] := by
  refine callsA_of_ev c94_ ?_
  conv => whnf
  refine Or.inl ?_
  conv => whnf
  refine ⟨fun h1 => ?_, fun h1 => absurd (bne_f h1) (by omega)⟩
  conv => whnf
  refine Or.inl ?_
  conv => whnf
  refine ⟨fun _ => ?_, fun h2 => absurd hr (of_decide_eq_false h2)⟩
  conv => whnf
  refine ⟨⟨⟨rfl, rfl⟩, trivial⟩, ?_⟩
  conv => whnf
  have hX : IntKind.u8.wrap (IntKind.i64.wrap (e.rem + ((v : Nat) : Int).fdiv (2 ^ min 8 IntKind.i64.bits))) = e.rem := by
    rw [nshri _ _ (by omega), show v / 2 ^ 8 = 0 by omega, IntKind.wrap_i64, IntKind.wrap_u8]
    omega
  refine ⟨rfl, [e.rem], ⟨rfl, rfl, congrArg (fun x => [CV.val (.int .u8 x)]) hX.symm⟩, by rw [List.length_append, List.length_singleton]; omega, by rw [List.length_append, List.length_singleton]; omega, ?_⟩
  conv => whnf
  refine ⟨trivial, ?_⟩
  conv => whnf
  refine ⟨trivial, ?_⟩
  conv => whnf
  refine Or.inl ?_
  conv => whnf
  refine ⟨fun h1 => absurd (gt_t h1) (by omega), fun _ => ?_⟩
  conv => whnf
  have hrem : IntKind.i64.wrap (((BitVec.ofInt IntKind.i64.bits (v : Int) &&& BitVec.ofInt IntKind.i64.bits ((255 : Nat) : Int)).toNat : Nat) : Int) = (v : Int) := by
    rw [nandi (by omega) (by omega), show (255 : Nat) = 2 ^ 8 - 1 by rfl, nand_mask, Nat.mod_eq_of_lt (by omega)]
  refine Or.inr ⟨[0, 1, 2, 4], .t [], [({ e with rem := v, buf := e.buf ++ [e.rem] } : EncS).blk 3 2, .dead, byteBlk e.tail, byteBlk (e.buf ++ [e.rem])], ⟨rfl, ⟨congrArg (fun x : Int => some (Blk.cells 101 [.vec 4 (e.buf ++ [e.rem]).length, .vec 2 e.tail.length, .val (.int .u64 e.win), .val (.int .u64 e.nend), .val (.int .u32 e.rng), .val (.int .u32 e.low), .val (.int .i64 x), .val (.int .i64 e.ext), .val (.int .u64 e.total)])) hrem, rfl, Nat.le_of_ble_eq_true rfl, rfl, rfl, rfl, rfl, trivial⟩, rfl⟩, rfl, rfl, rfl⟩
theorem normStop (w0 : World) (e : EncS) (h : 8388608 < e.rng) : CallsA Try.prog w0 90 [.c (.ptr 0 0)] e.H fun r H => r = .t [] ∧ H = e.H := by
  refine callsA_of_ev c90_ ?_
  conv => whnf
  refine ⟨Unit, fun _ => ⟨[(0, .o (.c (.ptr 0 0)))], e.H⟩, fun _ => 0, ⟨(), EncS.embH rfl ⟨rfl, trivial⟩⟩, fun _ => ?_⟩
  conv => whnf
  refine ⟨fun h1 => absurd (le_t h1) (by omega), fun _ => ?_⟩
  conv => whnf
  exact Or.inl ⟨rfl, rfl⟩
end Go.Proofs.Ytkomikpfnogjcaa
end
section
namespace Go.Proofs.Ytkomikpfnogjcaa
open Go Go.Vc
set_option maxRecDepth 100000
set_option maxHeartbeats 4000000

def E1 : EncS := ⟨[], [], 0, 0, 8589934, 1666447344, -1, 0, 33⟩
def E2 : EncS := ⟨[], [], 1, 2, 8589934, 1666447344, -1, 0, 35⟩
theorem cumA (w0 : World) : CallsA Try.prog w0 63 [.c (.ptr 0 0), .c (.val (.int .u32 ((194 : Nat) : Int))), .c (.val (.int .u32 ((195 : Nat) : Int))), .c (.val (.int .u32 ((250 : Nat) : Int)))] EncS.init.H fun r H => r = .t [] ∧ H = E1.H := by
  refine callsA_of_ev c63_ ?_
  conv => whnf
  refine Or.inl ?_
  conv => whnf
  refine ⟨fun h => absurd (beq_t h) (by decide), fun _ => ?_⟩
  conv => whnf
  refine ⟨fun h => absurd (ge_t h) (by decide), fun _ => ?_⟩
  conv => whnf
  refine ⟨fun h => absurd (gt_t h) (by decide), fun _ => ?_⟩
  conv => whnf
  refine ⟨by decide, ?_⟩
  conv => whnf
  refine Or.inl ?_
  conv => whnf
  refine ⟨fun _ => ?_, fun h => absurd (bne_f h) (by decide)⟩
  conv => whnf
  refine ⟨by first | exact trivial | exact ⟨⟨rfl, rfl⟩, trivial⟩, ?_⟩
  conv => whnf
  refine (normStop w0 E1 (by decide)).mono ?_
  rintro _ _ ⟨rfl, rfl⟩
  conv => whnf
  exact Or.inl ⟨rfl, rfl⟩
theorem rawA (w0 : World) : CallsA Try.prog w0 67 [.c (.ptr 0 0), .c (.val (.int .u64 ((2 : Nat) : Int))), .c (.val (.int .u32 ((1 : Nat) : Int)))] E1.H fun r H => r = .t [] ∧ H = E2.H := by
  refine callsA_of_ev c67_ ?_
  conv => whnf
  refine Or.inl ?_
  conv => whnf
  refine ⟨fun h => absurd (beq_t h) (by decide), fun _ => ?_⟩
  conv => whnf
  refine Or.inl ?_
  conv => whnf
  refine ⟨fun _ => ?_, fun h => absurd (lt_f h) (by decide)⟩
  conv => whnf
  refine (bitMaskW w0 E1.H (n := 2) (by decide)).mono ?_
  rintro _ _ ⟨rfl, rfl⟩
  conv => whnf
  refine ⟨by decide, ?_⟩
  conv => whnf
  refine ⟨by first | exact trivial | exact ⟨⟨rfl, rfl⟩, trivial⟩, ?_⟩
  conv => whnf
  refine ⟨Unit, fun _ => ⟨[(0, .o (.c (.ptr 0 0)))], E2.H⟩, fun _ => 0, ⟨(), EncS.embH rfl ⟨rfl, trivial⟩⟩, fun _ => ?_⟩
  conv => whnf
  refine ⟨fun h => absurd (ge_t h) (by decide), fun _ => ?_⟩
  conv => whnf
  exact Or.inl ⟨rfl, rfl⟩
theorem uniA (w0 : World) : CallsA Try.prog w0 66 [.c (.ptr 0 0), .c (.val (.int .u32 ((1000 : Nat) : Int))), .c (.val (.int .u32 ((777 : Nat) : Int)))] EncS.init.H fun r H => r = .t [] ∧ H = E2.H := by
  refine callsA_of_ev c66_ ?_
  conv => whnf
  refine Or.inl ?_
  conv => whnf
  refine ⟨fun h => absurd (le_t h) (by decide), fun _ => ?_⟩
  conv => whnf
  refine Or.inl ?_
  conv => whnf
  refine ⟨fun h => absurd (ge_t h) (by decide), fun _ => ?_⟩
  conv => whnf
  refine (len32 w0 EncS.init.H (n := 999) (by decide)).mono ?_
  rintro _ _ ⟨rfl, rfl⟩
  conv => whnf
  refine Or.inl ?_
  conv => whnf
  refine ⟨fun h => absurd (le_t h) (by decide), fun _ => ?_⟩
  conv => whnf
  refine ⟨by decide, ?_⟩
  conv => whnf
  refine ⟨by decide, ?_⟩
  conv => whnf
  refine (cumA w0).mono ?_
  rintro _ _ ⟨rfl, rfl⟩
  conv => whnf
  refine (bitMaskW w0 E1.H (n := 2) (by decide)).mono ?_
  rintro _ _ ⟨rfl, rfl⟩
  conv => whnf
  refine (rawA w0).mono ?_
  rintro _ _ ⟨rfl, rfl⟩
  conv => whnf
  exact Or.inl ⟨rfl, rfl⟩
def E3 : EncS := ⟨[], [], 1, 2, 8589934, 1666447344, 199, 0, 35⟩
def E4 : EncS := ⟨[199], [], 1, 2, 8589934, 1666447344, 0, 0, 35⟩
def flushSt : Nat → S
  | 0 => ⟨[(0, .o (.c (.ptr 0 0))), (3, .o (.c (.val (.int .i64 ((9 : Nat) : Int))))), (5, .o (.c (.val (.int .u32 ((1669332992 : Nat) : Int)))))], E2.H⟩
  | 1 => ⟨[(0, .o (.c (.ptr 0 0))), (3, .o (.c (.val (.int .i64 ((1 : Nat) : Int))))), (5, .o (.c (.val (.int .u32 ((0 : Nat) : Int)))))], E3.H⟩
  | _ => ⟨[(0, .o (.c (.ptr 0 0))), (3, .o (.c (.val (.int .i64 (-7))))), (5, .o (.c (.val (.int .u32 ((0 : Nat) : Int)))))], [E4.blk 3 2, .dead, byteBlk [], byteBlk [199]]⟩
theorem flushA (w0 : World) : CallsA Try.prog w0 93 [.c (.ptr 0 0)] E2.H fun r H => r = i64 (-7) ∧ H = [E4.blk 3 2, .dead, byteBlk [], byteBlk [199]] := by
  refine callsA_of_ev c93_ ?_
  conv => whnf
  refine (len32 w0 E2.H (n := 8589934) (by decide)).mono ?_
  rintro _ _ ⟨rfl, rfl⟩
  conv => whnf
  refine ⟨by decide, ?_⟩
  conv => whnf
  refine Or.inl ?_
  conv => whnf
  refine ⟨fun _ => ?_, fun h => absurd h (by decide)⟩
  conv => whnf
  refine Or.inl ?_
  conv => whnf
  refine ⟨_root_.Fin 3, fun ⟨k, _⟩ => flushSt k, fun k => 3 - k.1, ⟨⟨0, by decide⟩, EncS.embH (e := E2) rfl ⟨rfl, rfl, rfl, trivial⟩⟩, fun ⟨k, hk⟩ => ?_⟩
  rcases k with _ | _ | _ | k
  · conv => whnf
    refine ⟨fun _ => ?_, fun h => absurd h (by decide)⟩
    conv => whnf
    refine (carryN w0 E2 rfl rfl (v := 199) (by decide)).mono ?_
    rintro _ _ ⟨rfl, rfl⟩
    conv => whnf
    exact ⟨⟨1, by decide⟩, EncS.embH (e := E3) rfl ⟨rfl, rfl, rfl, trivial⟩, (by show 3 - 1 < 3 - 0; decide)⟩
  · conv => whnf
    refine ⟨fun _ => ?_, fun h => absurd h (by decide)⟩
    conv => whnf
    refine (carryP w0 E3 (by decide) (by decide) rfl (by decide) (v := 0) (by decide)).mono ?_
    rintro _ _ ⟨rfl, rfl⟩
    conv => whnf
    exact ⟨⟨2, by decide⟩, ⟨[0, 1, 2, 3], ⟨rfl, ⟨rfl, rfl, by decide, rfl, rfl, rfl, rfl, trivial⟩, rfl⟩, rfl, rfl, rfl, trivial⟩, (by show 3 - 2 < 3 - 1; decide)⟩
  · conv => whnf
    refine ⟨fun h => absurd h (by decide), fun _ => ?_⟩
    conv => whnf
    exact Or.inl ⟨rfl, rfl⟩
  · omega
def E5 : EncS := ⟨[199, 0], [], 1, 2, 8589934, 1666447344, 0, 0, 35⟩
theorem doneA (w0 : World) : CallsA Try.prog w0 72 [.c (.ptr 0 0)] E2.H fun r H => r = .o (.c (.vec 3 2)) ∧ H = [.dead, .dead, .dead, byteBlk [199, 1]] := by
  refine callsA_of_ev c72_ ?_
  conv => whnf
  refine (flushA w0).mono ?_
  rintro _ _ ⟨rfl, rfl⟩
  conv => whnf
  refine Or.inl ?_
  conv => whnf
  refine ⟨fun _ => ?_, fun h => absurd h (by decide)⟩
  conv => whnf
  refine CallsA.lift (H0 := E4.H) [0, 3, 2] rfl ⟨rfl, rfl, rfl, rfl, rfl, rfl, trivial⟩ rfl (carryP w0 E4 (by decide) (by decide) rfl (by decide) (v := 0) (by decide)) ?_
  rintro _ _ ⟨rfl, rfl⟩
  conv => whnf
  refine Or.inl ?_
  conv => whnf
  refine ⟨fun _ => ?_, fun h => absurd h (by decide)⟩
  conv => whnf
  refine CallsA.lift (H0 := E5.H) [0, 4, 2] rfl ⟨rfl, rfl, rfl, rfl, rfl, rfl, trivial⟩ rfl (shouldW w0 E5 7 (by decide) (by decide) (by decide)) ?_
  rintro _ _ ⟨rfl, rfl⟩
  conv => whnf
  refine ⟨⟨⟨rfl, rfl⟩, ⟨rfl, rfl⟩, trivial⟩, ?_⟩
  conv => whnf
  refine (boolToIntW w0 _ false).mono ?_
  rintro _ _ ⟨rfl, rfl⟩
  conv => whnf
  refine ⟨⟨⟨rfl, rfl⟩, ⟨rfl, rfl⟩, trivial⟩, ?_⟩
  conv => whnf
  refine ⟨by decide, ?_⟩
  conv => whnf
  refine ⟨Int, encI .u8, 0, fun _ => rfl, rfl, ?_⟩
  conv => whnf
  refine ⟨by first | exact trivial | exact ⟨⟨rfl, rfl⟩, trivial⟩ | exact ⟨⟨rfl, rfl⟩, ⟨rfl, rfl⟩, trivial⟩, ?_⟩
  conv => whnf
  refine ⟨rfl, [199, 0], ⟨rfl, by decide, rfl, rfl⟩, by decide, ?_⟩
  conv => whnf
  refine Or.inl ?_
  conv => whnf
  refine ⟨Unit, fun _ => ⟨[(0, .o (.c (.ptr 0 0))), (4, .o (.c (.val (.int .u64 ((7 : Nat) : Int))))), (5, .o (.c (.vec 5 2))), (56, .o (.c (.vec 2 0))), (57, .o (.c (.val (.int .i64 ((0 : Nat) : Int))))), (58, .o (.c (.val (.int .i64 ((0 : Nat) : Int)))))], [E5.blk 4 2, .dead, byteBlk [], .dead, byteBlk [199, 0], byteBlk [199, 0]]⟩, fun _ => 0, ⟨(), [0, 1, 2, 3, 4, 5], ⟨rfl, ⟨rfl, rfl, by decide, rfl, rfl, by decide, rfl, rfl, rfl, rfl, trivial⟩, rfl⟩, rfl, rfl, rfl, rfl, rfl, rfl, trivial⟩, fun _ => ?_⟩
  conv => whnf
  refine ⟨fun h => absurd h (by decide), fun _ => ?_⟩
  conv => whnf
  refine Or.inl ?_
  conv => whnf
  refine ⟨fun _ => ?_, fun h => absurd h (by decide)⟩
  conv => whnf
  refine (bitMaskW w0 _ (n := 2) (by decide)).mono ?_
  rintro _ _ ⟨rfl, rfl⟩
  conv => whnf
  refine ⟨⟨⟨rfl, rfl⟩, trivial⟩, ?_⟩
  conv => whnf
  refine CallsA.lift (H0 := E5.H) [0, 4, 2] rfl ⟨rfl, rfl, rfl, rfl, rfl, rfl, trivial⟩ rfl (shouldW w0 E5 7 (by decide) (by decide) (by decide)) ?_
  rintro _ _ ⟨rfl, rfl⟩
  conv => whnf
  refine ⟨(fun h => by cases h), fun _ => ?_⟩
  conv => whnf
  refine ⟨by decide, ?_⟩
  conv => whnf
  refine ⟨0, rfl, ?_⟩
  conv => whnf
  refine ⟨by decide, ?_⟩
  conv => whnf
  refine ⟨0, 1, rfl, rfl, ?_⟩
  conv => whnf
  exact Or.inr ⟨[0, 1, 2, 5], .o (.c (.vec 3 2)), [.dead, .dead, .dead, byteBlk [199, 1]], ⟨rfl, ⟨Nat.le_of_ble_eq_true rfl, Nat.le_of_ble_eq_true rfl, Nat.le_of_ble_eq_true rfl, rfl, rfl, trivial⟩, rfl⟩, rfl, rfl, rfl⟩
end Go.Proofs.Ytkomikpfnogjcaa
end
section
namespace Go.Proofs.Ytkomikpfnogjcaa
open Go Go.Vc
set_option maxRecDepth 100000
set_option maxHeartbeats 4000000

/-- An operation's numbers fit, and its table lies in memory. -/
structure OpV.fits (w0 : World) (o : OpV) : Prop where
  act1 : -9223372036854775808 ≤ o.act
  act2 : o.act < 9223372036854775808
  a32 : o.a < 4294967296
  b32 : o.b < 4294967296
  c32 : o.c < 4294967296
  v1 : -9223372036854775808 ≤ o.v
  v2 : o.v < 9223372036854775808
  tab : (o.tab = .slice none 0 0 ∧ o.rows = []) ∨ ∃ ta c, o.tab = .slice (some ta) o.rows.length c ∧ o.rows.length ≤ c ∧ c ≤ 9223372036854775807 ∧ ∀ (i x : Nat), o.rows[i]? = some x → x < 4294967296 ∧ w0.cell? (ta.add i) = some (.int .u32 x)
/-- A slice of operations that came in. -/
def opsAt (w0 : World) (v : Value) (l : List OpV) : Prop := (v = .slice none 0 0 ∧ l = []) ∨ ∃ a c, v = .slice (some a) l.length c ∧ l.length ≤ c ∧ c ≤ 9223372036854775807 ∧ ∀ (i : Nat) (x : OpV), l[i]? = some x → x.lies w0 (a.add (i * 6)) ∧ x.fits w0

theorem OpV.fits.one {w0 : World} {o : OpV} (h : o.fits w0) : o.tab.oneCell' = true := by
  rcases h.tab with ⟨h1, _⟩ | ⟨ta, c, h1, _⟩ <;> rw [h1] <;> rfl
theorem OpV.fits.len {w0 : World} {o : OpV} (h : o.fits w0) : o.rows.length ≤ 9223372036854775807 := by
  rcases h.tab with ⟨_, h1⟩ | ⟨ta, c, _, h1, h2, _⟩
  · rw [h1]; simp
  · omega

theorem zzFits3W (w0 : World) {o : OpV} (h : o.fits w0) : CallsA Try.prog w0 25 [.a o.cells] [] fun r H' => ∃ b : Bool, r = .o (.c (.val (.bool b))) ∧ H' = [] := by
  have hlen := h.len
  obtain ⟨act, oa, ob, oc, ov, otab, rows⟩ := o
  have ht := h.tab
  simp only at ht hlen
  refine callsA_of_ev c25_ ?_
  rcases ht with ⟨rfl, rfl⟩ | ⟨ta, c, rfl, _⟩
  · conv => whnf
    refine Or.inl ?_
    conv => whnf
    refine ⟨fun _ => ?_, fun _ => ?_⟩
    · conv => whnf
      exact Or.inr ⟨[], .o (.c (.val (.bool false))), [], ⟨rfl, trivial, rfl⟩, rfl, false, rfl, rfl⟩
    · conv => whnf
      exact Or.inr ⟨[], .o (.c (.val (.bool true))), [], ⟨rfl, trivial, rfl⟩, rfl, true, rfl, rfl⟩
  · conv => whnf
    refine Or.inl ?_
    conv => whnf
    refine ⟨fun _ => ?_, fun _ => ?_⟩
    · conv => whnf
      exact Or.inr ⟨[], .o (.c (.val (.bool false))), [], ⟨rfl, trivial, rfl⟩, rfl, false, rfl, rfl⟩
    · conv => whnf
      exact Or.inr ⟨[], .o (.c (.val (.bool true))), [], ⟨rfl, trivial, rfl⟩, rfl, true, rfl, rfl⟩
theorem boolT (b : Bool) : AV.ren [] (.o (.c (.val (.bool b)))) = .o (.c (.val (.bool b))) := rfl

theorem zzFits2W (w0 : World) {v : Value} {l : List OpV} (hv : opsAt w0 v l) (hl : l.length ≤ 9223372036854775807) : CallsA Try.prog w0 11 [.c (.val v)] [] fun r H' => ∃ b : Bool, r = .o (.c (.val (.bool b))) ∧ H' = [] ∧ (b = true → l.length ≤ 2147483647) := by
  refine callsA_of_ev c11_ ?_
  rcases hv with ⟨rfl, rfl⟩ | ⟨a, c, rfl, h1, h2, hb⟩
  · conv => whnf
    refine Or.inl ?_
    conv => whnf
    refine ⟨fun h => absurd (of_decide_eq_true h) (by decide), fun _ => ?_⟩
    conv => whnf
    refine Or.inl ?_
    conv => whnf
    refine ⟨Unit, fun _ => ⟨[(8, .o (.c (.val (.slice none 0 0)))), (9, .o (.c (.val (.int .i64 ((0 : Nat) : Int))))), (10, .o (.c (.val (.int .i64 ((0 : Nat) : Int)))))], []⟩, fun _ => 0, ⟨(), [], ⟨rfl, trivial, rfl⟩, rfl, rfl, rfl, trivial⟩, fun _ => ?_⟩
    conv => whnf
    refine ⟨fun h => absurd (lt_t h) (by omega), fun _ => ?_⟩
    conv => whnf
    exact Or.inl ⟨true, rfl, rfl, fun _ => by decide⟩
  · conv => whnf
    refine Or.inl ?_
    conv => whnf
    refine ⟨fun h => ?_, fun hz => ?_⟩
    · conv => whnf
      exact Or.inl ⟨false, rfl, rfl, (fun h => by cases h)⟩
    · have hz : l.length ≤ 2147483647 := gt_f hz
      conv => whnf
      refine Or.inl ?_
      conv => whnf
      refine ⟨_root_.Fin (l.length + 1), fun ⟨i, _⟩ => ⟨[(8, .o (.c (.val (.slice (some a) l.length c)))), (9, .o (.c (.val (.int .i64 l.length)))), (10, .o (.c (.val (.int .i64 i))))], []⟩, fun i => l.length - i.1, ⟨⟨0, by omega⟩, [], ⟨rfl, trivial, rfl⟩, rfl, rfl, rfl, trivial⟩, fun ⟨i, hi⟩ => ?_⟩
      conv => whnf
      refine ⟨fun h3 => ?_, fun h3 => ?_⟩
      · have h3 : i < l.length := lt_t h3
        obtain ⟨x, hx⟩ : ∃ x, l[i]? = some x := ⟨_, List.getElem?_eq_getElem h3⟩
        obtain ⟨⟨x0, x1, x2, x3, x4, x5, x6⟩, hfit⟩ := hb i x hx
        conv => whnf
        refine Or.inl ?_
        conv => whnf
        refine ⟨by omega, ?_⟩
        conv => whnf
        refine ⟨_, x0, rfl, ?_⟩
        conv => whnf
        refine ⟨_, x1, rfl, ?_⟩
        conv => whnf
        refine ⟨_, x2, rfl, ?_⟩
        conv => whnf
        refine ⟨_, x3, rfl, ?_⟩
        conv => whnf
        refine ⟨_, x4, rfl, ?_⟩
        conv => whnf
        refine ⟨_, x5, x6, ?_⟩
        conv => whnf
        refine CallsA.lift (H0 := []) [] rfl trivial rfl (zzFits3W w0 hfit) ?_
        rintro _ _ ⟨b, rfl, rfl⟩
        conv => whnf
        refine ⟨fun _ => ?_, fun _ => ?_⟩
        · conv => whnf
          exact Or.inr ⟨[], .o (.c (.val (.bool false))), [], ⟨rfl, trivial, rfl⟩, rfl, false, rfl, rfl, (fun h => by cases h)⟩
        · conv => whnf
          refine ⟨⟨i + 1, by omega⟩, ⟨[], ⟨rfl, trivial, rfl⟩, rfl, rfl, eq_i64 ?_, trivial⟩, ?_⟩
          · rw [nadd, nwrapi (by omega)]
          · show l.length - (i + 1) < l.length - i
            omega
      · conv => whnf
        exact Or.inl ⟨true, rfl, rfl, fun _ => hz⟩
end Go.Proofs.Ytkomikpfnogjcaa
end
section
namespace Go.Proofs.Ytkomikpfnogjcaa
open Go Go.Vc
set_option maxRecDepth 100000
set_option maxHeartbeats 4000000

/-- Sums that never fall. -/
def rising (rest : List Nat) (i : Nat) : Prop := ∀ j, j + 1 < i → rest.getD j 0 ≤ rest.getD (j + 1) 0
/-- What 'tabled' lets in. -/
structure TabFine (rows : List Nat) (total : Nat) (rest : List Nat) : Prop where
  cons : rows = total :: rest
  ok : TabOk total rest
  t2 : 2 ≤ total
  t256 : total ≤ 256
  len : rest.length ≤ 63
  rise : rising rest rest.length
  last : tabLow rest rest.length = total

theorem tabFine_of {total : Nat} {rest : List Nat} (h1 : 1 ≤ rest.length) (h2 : rest.length ≤ 63) (t2 : 2 ≤ total) (t256 : total ≤ 256) (hr : rising rest rest.length) (hl : tabLow rest rest.length = total) : TabFine (total :: rest) total rest := by
  have hl' : rest.getD (rest.length - 1) 0 = total := by
    unfold tabLow at hl
    rw [if_neg (by omega)] at hl
    exact hl
  have up : ∀ k j, j + k < rest.length → rest.getD j 0 ≤ rest.getD (j + k) 0 := by
    intro k
    induction k with
    | zero => intro j _; exact Nat.le_refl _
    | succ k ih =>
      intro j hj
      exact Nat.le_trans (ih j (by omega)) (hr (j + k) (by omega))
  refine ⟨rfl, ⟨by omega, by omega, ?_, ?_, by omega⟩, t2, t256, h2, hr, hl⟩
  · intro x hx
    obtain ⟨j, hj, rfl⟩ := List.getElem_of_mem hx
    have := up (rest.length - 1 - j) j (by omega)
    rw [show j + (rest.length - 1 - j) = rest.length - 1 by omega, hl'] at this
    rw [List.getD_eq_getElem?_getD, List.getElem?_eq_getElem hj] at this
    exact this
  · have hm : rest.length - 1 < rest.length := by omega
    rw [List.getD_eq_getElem?_getD, List.getElem?_eq_getElem hm] at hl'
    have : rest[rest.length - 1] = total := hl'
    rw [← this]
    exact List.getElem_mem hm

theorem tabledW (w0 : World) {o : OpV} (h : o.fits w0) : CallsA Try.prog w0 76 [.c (.val o.tab)] [] fun r H' => ∃ b : Bool, r = .o (.c (.val (.bool b))) ∧ H' = [] ∧ (b = true → ∃ total rest, TabFine o.rows total rest) := by
  obtain ⟨act, oa, ob, oc, ov, otab, rows⟩ := o
  have ht := h.tab
  simp only at ht
  refine callsA_of_ev c76_ ?_
  rcases ht with ⟨rfl, rfl⟩ | ⟨ta, c, rfl, hc1, hc2, hcell⟩
  · conv => whnf
    refine Or.inl ?_
    conv => whnf
    refine ⟨fun _ => ?_, fun h => absurd (lt_f h) (by omega)⟩
    conv => whnf
    exact Or.inl ⟨false, rfl, rfl, (fun h => by cases h)⟩
  · conv => whnf
    refine Or.inl ?_
    conv => whnf
    refine ⟨fun h1 => ?_, fun h1 => ?_⟩
    · conv => whnf
      exact Or.inl ⟨false, rfl, rfl, (fun h => by cases h)⟩
    · have h1 : 2 ≤ rows.length := lt_f h1
      obtain ⟨total, rest, rfl⟩ : ∃ t r, rows = t :: r := by
        cases rows with
        | nil => simp only [List.length_nil] at h1; omega
        | cons t r => exact ⟨t, r, rfl⟩
      simp only [List.length_cons] at h1 hc1
      obtain ⟨ht32, hct⟩ := hcell 0 total rfl
      have hrest : ∀ (i x : Nat), rest[i]? = some x → x < 4294967296 ∧ w0.cell? ((if c = 1 then ta else ta.add (1 * 1)).add i) = some (Value.int IntKind.u32 ↑x) := by
        intro i x hx
        rw [if_neg (by omega), Deep.add_add, Nat.add_comm]
        exact hcell (i + 1) x hx
      conv => whnf
      refine ⟨fun h2 => ?_, fun h2 => ?_⟩
      · conv => whnf
        exact Or.inl ⟨false, rfl, rfl, (fun h => by cases h)⟩
      · have h2 : (total :: rest).length ≤ 64 := gt_f h2
        simp only [List.length_cons] at h2
        conv => whnf
        refine ⟨by simp only [List.length_cons]; omega, ?_⟩
        conv => whnf
        refine ⟨_, hct, rfl, ?_⟩
        conv => whnf
        refine Or.inl ?_
        conv => whnf
        refine ⟨⟨by omega, by simp only [List.length_cons]; omega, by simp only [List.length_cons]; omega⟩, ?_⟩
        conv => whnf
        refine ⟨{i : Nat // i ≤ rest.length ∧ rising rest i}, fun ⟨i, _⟩ => ⟨[(3, .o (.c (.val (.int .u32 total)))), (4, .o (.c (.val (.int .u32 (tabLow rest i : Nat))))), (19, .o (.c (.val (.slice (some (if c = 1 then ta else ta.add (1 * 1))) rest.length (c - 1))))), (20, .o (.c (.val (.int .i64 rest.length)))), (21, .o (.c (.val (.int .i64 i))))], []⟩, fun i => rest.length - i.1, ⟨⟨0, by omega, (fun j hj => by omega)⟩, [], ⟨rfl, trivial, rfl⟩, rfl, rfl, rfl, rfl, rfl, trivial⟩, fun ⟨i, hi, hri⟩ => ?_⟩
        conv => whnf
        refine ⟨fun h3 => ?_, fun h3 => ?_⟩
        · have h3 : i < rest.length := lt_t h3
          obtain ⟨x, hx⟩ : ∃ x, rest[i]? = some x := ⟨_, List.getElem?_eq_getElem h3⟩
          obtain ⟨x32, x0⟩ := hrest i x hx
          have x0' : w0.cell? (((if c = 1 then ta else ta.add (1 * 1)).add (i * 1)).add 0) = some (Value.int IntKind.u32 ↑x) := by
            rw [Deep.add_add, show i * 1 + 0 = i by omega]
            exact x0
          conv => whnf
          refine Or.inl ?_
          conv => whnf
          refine ⟨by omega, ?_⟩
          conv => whnf
          refine ⟨_, x0', rfl, ?_⟩
          conv => whnf
          refine Or.inl ?_
          conv => whnf
          refine ⟨fun h4 => ?_, fun h4 => ?_⟩
          · conv => whnf
            exact Or.inl ⟨false, rfl, rfl, (fun h => by cases h)⟩
          · have h4 : tabLow rest i ≤ x := lt_f h4
            have hx' : rest.getD i 0 = x := by rw [List.getD_eq_getElem?_getD, hx]; rfl
            have ri : rising rest (i + 1) := by
              intro j hj
              rcases Nat.lt_or_ge (j + 1) i with h | h
              · exact hri j h
              · obtain rfl : i = j + 1 := by omega
                unfold tabLow at h4
                rw [if_neg (by omega)] at h4
                rw [hx']
                exact h4
            conv => whnf
            refine ⟨⟨i + 1, by omega, ri⟩, ⟨[], ⟨rfl, trivial, rfl⟩, rfl, eq_u32 ?_, rfl, rfl, eq_i64 ?_, trivial⟩, ?_⟩
            · show (x : Int) = (tabLow rest (i + 1) : Nat)
              unfold tabLow
              rw [if_neg (by omega), Nat.add_sub_cancel, hx']
            · rw [nadd, nwrapi (by omega)]
            · show rest.length - (i + 1) < rest.length - i
              omega
        · have h3 : rest.length ≤ i := lt_f h3
          obtain rfl : i = rest.length := by omega
          conv => whnf
          refine ⟨fun h4 => ?_, fun h4 => ?_⟩
          · have h4 : 2 ≤ total := ge_t h4
            conv => whnf
            refine ⟨fun h5 => ?_, fun h5 => ?_⟩
            · have h5 : total ≤ 256 := le_t h5
              conv => whnf
              refine ⟨fun h6 => ?_, fun h6 => ?_⟩
              · conv => whnf
                exact Or.inl ⟨_, rfl, rfl, fun h7 => ⟨total, rest, tabFine_of (by omega) (by omega) h4 h5 hri (beq_t h7)⟩⟩
              · conv => whnf
                exact Or.inl ⟨false, rfl, rfl, (fun h => by cases h)⟩
            · conv => whnf
              exact Or.inl ⟨false, rfl, rfl, (fun h => by cases h)⟩
          · conv => whnf
            exact Or.inl ⟨false, rfl, rfl, (fun h => by cases h)⟩
end Go.Proofs.Ytkomikpfnogjcaa
end
section
namespace Go.Proofs.Ytkomikpfnogjcaa
open Go Go.Vc
set_option maxRecDepth 100000
set_option maxHeartbeats 4000000

theorem ieq_t {a b : Int} (h : (a == b) = true) : a = b := eq_of_beq h
theorem ieq_f {a b : Int} (h : (a == b) = false) : a ≠ b := by
  rintro rfl
  rw [beq_self_eq_true] at h
  cases h

/-- Parts of a total, and Laplace's, as 'valid' lets them in. -/
theorem validW (w0 : World) {o : OpV} (_h : o.fits w0) (hk : o.act ≠ 1 ∧ o.act ≠ 2 ∧ o.act ≠ 3 ∧ o.act ≠ 4) : CallsA Try.prog w0 52 [.a o.cells] [] fun r H' => ∃ b : Bool, r = .o (.c (.val (.bool b))) ∧ H' = [] ∧ (b = true → (o.act = 0 ∧ o.a < o.b ∧ o.b ≤ o.c ∧ 2 ≤ o.c ∧ o.c ≤ 65535) ∨ (o.act = 5 ∧ 1 ≤ o.a ∧ o.a < 32000 ∧ o.b < 16000 ∧ -60 < o.v ∧ o.v < 60)) := by
  obtain ⟨act, oa, ob, oc, ov, otab, rows⟩ := o
  obtain ⟨k1, k2, k3, k4⟩ := hk
  simp only at k1 k2 k3 k4
  refine callsA_of_ev c52_ ?_
  conv => whnf
  refine Or.inl ?_
  conv => whnf
  refine ⟨fun h0 => ?_, fun h0 => ?_⟩
  · have h0 : act = 0 := ieq_t h0
    conv => whnf
    refine ⟨fun h1 => ?_, fun _ => ?_⟩
    · have h1 : oa < ob := lt_t h1
      conv => whnf
      refine ⟨fun h2 => ?_, fun _ => ?_⟩
      · have h2 : ob ≤ oc := le_t h2
        conv => whnf
        refine ⟨fun h3 => ?_, fun _ => ?_⟩
        · have h3 : 2 ≤ oc := ge_t h3
          conv => whnf
          exact Or.inr ⟨[], .o (.c (.val (.bool _))), [], ⟨rfl, trivial, rfl⟩, rfl, _, rfl, rfl, fun h4 => Or.inl ⟨h0, h1, h2, h3, le_t h4⟩⟩
        · conv => whnf
          exact Or.inr ⟨[], .o (.c (.val (.bool false))), [], ⟨rfl, trivial, rfl⟩, rfl, false, rfl, rfl, (fun h => by cases h)⟩
      · conv => whnf
        exact Or.inr ⟨[], .o (.c (.val (.bool false))), [], ⟨rfl, trivial, rfl⟩, rfl, false, rfl, rfl, (fun h => by cases h)⟩
    · conv => whnf
      exact Or.inr ⟨[], .o (.c (.val (.bool false))), [], ⟨rfl, trivial, rfl⟩, rfl, false, rfl, rfl, (fun h => by cases h)⟩
  · conv => whnf
    refine ⟨fun h => absurd (ieq_t h) k1, fun _ => ?_⟩
    conv => whnf
    refine ⟨fun h => absurd (ieq_t h) k2, fun _ => ?_⟩
    conv => whnf
    refine ⟨fun h => absurd (ieq_t h) k3, fun _ => ?_⟩
    conv => whnf
    refine ⟨fun h => absurd (ieq_t h) k4, fun _ => ?_⟩
    conv => whnf
    refine ⟨fun h5 => ?_, fun _ => ?_⟩
    · have h5 : act = 5 := ieq_t h5
      conv => whnf
      refine ⟨fun h1 => ?_, fun _ => ?_⟩
      · have h1 : 1 ≤ oa := ge_t h1
        conv => whnf
        refine ⟨fun h2 => ?_, fun _ => ?_⟩
        · have h2 : oa < 32000 := lt_t h2
          conv => whnf
          refine ⟨fun h3 => ?_, fun _ => ?_⟩
          · have h3 : ob < 16000 := lt_t h3
            conv => whnf
            refine ⟨fun h4 => ?_, fun _ => ?_⟩
            · have h4 : -60 < ov := of_decide_eq_true h4
              conv => whnf
              exact Or.inr ⟨[], .o (.c (.val (.bool _))), [], ⟨rfl, trivial, rfl⟩, rfl, _, rfl, rfl, fun h6 => Or.inr ⟨h5, h1, h2, h3, h4, of_decide_eq_true h6⟩⟩
            · conv => whnf
              exact Or.inr ⟨[], .o (.c (.val (.bool false))), [], ⟨rfl, trivial, rfl⟩, rfl, false, rfl, rfl, (fun h => by cases h)⟩
          · conv => whnf
            exact Or.inr ⟨[], .o (.c (.val (.bool false))), [], ⟨rfl, trivial, rfl⟩, rfl, false, rfl, rfl, (fun h => by cases h)⟩
        · conv => whnf
          exact Or.inr ⟨[], .o (.c (.val (.bool false))), [], ⟨rfl, trivial, rfl⟩, rfl, false, rfl, rfl, (fun h => by cases h)⟩
      · conv => whnf
        exact Or.inr ⟨[], .o (.c (.val (.bool false))), [], ⟨rfl, trivial, rfl⟩, rfl, false, rfl, rfl, (fun h => by cases h)⟩
    · conv => whnf
      exact Or.inr ⟨[], .o (.c (.val (.bool false))), [], ⟨rfl, trivial, rfl⟩, rfl, false, rfl, rfl, (fun h => by cases h)⟩
/-- What 'readable' lets in. -/
def OpV.reads (o : OpV) : Prop := (o.act = 0 ∧ o.a < o.b ∧ o.b ≤ o.c ∧ 2 ≤ o.c ∧ o.c ≤ 65535) ∨ (o.act = 1 ∧ 1 ≤ o.a ∧ o.a ≤ 15) ∨ (o.act = 2 ∧ ∃ total rest, TabFine o.rows total rest) ∨ (o.act = 3 ∧ 2 ≤ o.a) ∨ (o.act = 4 ∧ o.a ≤ 25) ∨
  (o.act = 5 ∧ 1 ≤ o.a ∧ o.a < 32000 ∧ o.b < 16000 ∧ -60 < o.v ∧ o.v < 60) ∨ (o.act = 6 ∧ o.a < 1048576)
theorem OpV.reads.good {w0 : World} {o : OpV} (h : o.reads) (hf : o.fits w0) : o.good w0 := by
  refine ⟨hf.a32, hf.b32, hf.c32, ?_⟩
  rcases h with ⟨e, h1, h2, h3, h4⟩ | ⟨e, h1, h2⟩ | ⟨e, total, rest, h1⟩ | ⟨e, h1⟩ | ⟨e, h1⟩ | ⟨e, h1, h2, h3, _⟩ | ⟨e, h1⟩
  · exact Or.inl ⟨e, by omega, by omega, by omega⟩
  · exact Or.inr (Or.inl ⟨e, h1, h2⟩)
  · refine Or.inr (Or.inr (Or.inl ⟨e, total, rest, ?_⟩))
    rcases hf.tab with ⟨_, h2⟩ | ⟨ta, c, h2, _, _, h3⟩
    · have := h1.cons
      rw [h2] at this
      cases this
    · exact ⟨ta, c, h1.cons, h1.ok, h2, h3⟩
  · exact Or.inr (Or.inr (Or.inr (Or.inl ⟨e, h1⟩)))
  · exact Or.inr (Or.inr (Or.inr (Or.inr (Or.inl ⟨e, by omega⟩))))
  · exact Or.inr (Or.inr (Or.inr (Or.inr (Or.inr (Or.inl ⟨e, by omega, by omega, by omega⟩)))))
  · exact Or.inr (Or.inr (Or.inr (Or.inr (Or.inr (Or.inr e)))))
theorem readableW (w0 : World) {o : OpV} (h : o.fits w0) (n : Int) : CallsA Try.prog w0 26 [.a o.cells, .c (.val (.int .i64 n))] [] fun r H' => ∃ b : Bool, r = .o (.c (.val (.bool b))) ∧ H' = [] ∧ (b = true → o.reads ∧ (o.act = 6 → (o.a : Int) ≤ n)) := by
  obtain ⟨act, oa, ob, oc, ov, otab, rows⟩ := o
  have a32 := h.a32
  simp only at a32
  refine callsA_of_ev c26_ ?_
  conv => whnf
  refine Or.inl ?_
  conv => whnf
  refine ⟨fun h0 => ?_, fun h0 => ?_⟩
  · have h0 : act = 3 := ieq_t h0
    conv => whnf
    exact Or.inr ⟨[], .o (.c (.val (.bool _))), [], ⟨rfl, trivial, rfl⟩, rfl, _, rfl, rfl, fun h1 => ⟨Or.inr (Or.inr (Or.inr (Or.inl ⟨h0, ge_t h1⟩))), fun h => by subst h0; cases h⟩⟩
  · have h0 : act ≠ 3 := ieq_f h0
    conv => whnf
    refine ⟨fun h1 => ?_, fun h1 => ?_⟩
    · have h1 : act = 4 := ieq_t h1
      conv => whnf
      exact Or.inr ⟨[], .o (.c (.val (.bool _))), [], ⟨rfl, trivial, rfl⟩, rfl, _, rfl, rfl, fun h2 => ⟨Or.inr (Or.inr (Or.inr (Or.inr (Or.inl ⟨h1, le_t h2⟩)))), fun h => by subst h1; cases h⟩⟩
    · have h1 : act ≠ 4 := ieq_f h1
      conv => whnf
      refine ⟨fun h2 => ?_, fun h2 => ?_⟩
      · have h2 : act = 6 := ieq_t h2
        conv => whnf
        refine ⟨fun h3 => ?_, fun h3 => ?_⟩
        · have h3 : IntKind.i64.wrap (oa : Int) ≤ n := of_decide_eq_true h3
          rw [nwrapi (by omega)] at h3
          conv => whnf
          exact Or.inr ⟨[], .o (.c (.val (.bool _))), [], ⟨rfl, trivial, rfl⟩, rfl, _, rfl, rfl, fun h4 => ⟨Or.inr (Or.inr (Or.inr (Or.inr (Or.inr (Or.inr ⟨h2, lt_t h4⟩))))), fun _ => h3⟩⟩
        · conv => whnf
          exact Or.inr ⟨[], .o (.c (.val (.bool false))), [], ⟨rfl, trivial, rfl⟩, rfl, false, rfl, rfl, (fun h => by cases h)⟩
      · have h2 : act ≠ 6 := ieq_f h2
        conv => whnf
        refine ⟨fun h3 => ?_, fun h3 => ?_⟩
        · have h3 : act = 2 := ieq_t h3
          conv => whnf
          refine CallsA.lift (H0 := []) [] rfl trivial rfl (tabledW w0 h) ?_
          rintro _ _ ⟨b, rfl, rfl, hb⟩
          conv => whnf
          exact Or.inr ⟨[], .o (.c (.val (.bool _))), [], ⟨rfl, trivial, rfl⟩, rfl, _, rfl, rfl, fun h4 => ⟨Or.inr (Or.inr (Or.inl ⟨h3, hb h4⟩)), fun h => by subst h3; cases h⟩⟩
        · have h3 : act ≠ 2 := ieq_f h3
          conv => whnf
          refine ⟨fun h4 => ?_, fun h4 => ?_⟩
          · have h4 : act = 1 := ieq_t h4
            conv => whnf
            refine ⟨fun h5 => ?_, fun h5 => ?_⟩
            · have h5 : 1 ≤ oa := ge_t h5
              conv => whnf
              exact Or.inr ⟨[], .o (.c (.val (.bool _))), [], ⟨rfl, trivial, rfl⟩, rfl, _, rfl, rfl, fun h6 => ⟨Or.inr (Or.inl ⟨h4, h5, le_t h6⟩), fun h => by subst h4; cases h⟩⟩
            · conv => whnf
              exact Or.inr ⟨[], .o (.c (.val (.bool false))), [], ⟨rfl, trivial, rfl⟩, rfl, false, rfl, rfl, (fun h => by cases h)⟩
          · have h4 : act ≠ 1 := ieq_f h4
            conv => whnf
            refine CallsA.lift (H0 := []) [] rfl trivial rfl (validW w0 h ⟨h4, h3, h0, h1⟩) ?_
            rintro _ _ ⟨b, rfl, rfl, hb⟩
            conv => whnf
            refine Or.inr ⟨[], .o (.c (.val (.bool _))), [], ⟨rfl, trivial, rfl⟩, rfl, _, rfl, rfl, fun h5 => ⟨?_, fun h => absurd h h2⟩⟩
            rcases hb h5 with h6 | h6
            · exact Or.inl h6
            · exact Or.inr (Or.inr (Or.inr (Or.inr (Or.inr (Or.inl h6)))))
end Go.Proofs.Ytkomikpfnogjcaa
end
section
namespace Go.Proofs.Ytkomikpfnogjcaa
open Go Go.Vc
set_option maxRecDepth 100000
set_option maxHeartbeats 4000000

theorem readW (w0 : World) {v : Value} {l : List OpV} (hv : opsAt w0 v l) (n most : Nat) (hl : l.length ≤ 9223372036854775807) : CallsA Try.prog w0 12 [.c (.val v), .c (.val (.int .i64 n)), .c (.val (.int .i64 most))] [] fun r H' => ∃ b : Bool, r = .o (.c (.val (.bool b))) ∧ H' = [] ∧ (b = true → l.length ≤ most ∧ ∀ o ∈ l, o.reads) := by
  refine callsA_of_ev c12_ ?_
  rcases hv with ⟨rfl, rfl⟩ | ⟨a, c, rfl, hc1, hc2, hb⟩
  · conv => whnf
    refine Or.inl ?_
    conv => whnf
    refine ⟨Unit, fun _ => ⟨[(0, .o (.c (.val (.slice none 0 0)))), (2, .o (.c (.val (.int .i64 most)))), (9, .o (.c (.val (.slice none 0 0)))), (10, .o (.c (.val (.int .i64 ((0 : Nat) : Int))))), (11, .o (.c (.val (.int .i64 ((0 : Nat) : Int)))))], []⟩, fun _ => 0, ⟨(), [], ⟨rfl, trivial, rfl⟩, rfl, rfl, rfl, rfl, rfl, trivial⟩, fun _ => ?_⟩
    conv => whnf
    refine ⟨fun h => absurd (lt_t h) (by omega), fun _ => ?_⟩
    conv => whnf
    exact Or.inl ⟨_, rfl, rfl, fun _ => ⟨Nat.zero_le _, fun o ho => absurd ho (by simp)⟩⟩
  · conv => whnf
    refine Or.inl ?_
    conv => whnf
    refine ⟨{p : Nat × Int // p.1 ≤ l.length ∧ ∀ j o, j < p.1 → l[j]? = some o → o.reads}, fun ⟨(i, m), _⟩ => ⟨[(0, .o (.c (.val (.slice (some a) l.length c)))), (1, .o (.c (.val (.int .i64 m)))), (2, .o (.c (.val (.int .i64 most)))), (9, .o (.c (.val (.slice (some a) l.length c)))), (10, .o (.c (.val (.int .i64 l.length)))), (11, .o (.c (.val (.int .i64 i))))], []⟩, fun p => l.length - p.1.1, ⟨⟨(0, n), by simp, (fun j o hj => by cases hj)⟩, [], ⟨rfl, trivial, rfl⟩, rfl, rfl, rfl, rfl, rfl, rfl, trivial⟩, fun ⟨(i, m), hi, hri⟩ => ?_⟩
    simp only at hi hri
    conv => whnf
    refine ⟨fun h3 => ?_, fun h3 => ?_⟩
    · have h3 : i < l.length := lt_t h3
      obtain ⟨x, hx⟩ : ∃ x, l[i]? = some x := ⟨_, List.getElem?_eq_getElem h3⟩
      obtain ⟨⟨x0, x1, x2, x3, x4, x5, x6⟩, hfit⟩ := hb i x hx
      have a32 := hfit.a32
      conv => whnf
      refine Or.inl ?_
      conv => whnf
      refine ⟨by omega, ?_⟩
      conv => whnf
      refine ⟨_, x0, rfl, ?_⟩
      conv => whnf
      refine ⟨_, x1, rfl, ?_⟩
      conv => whnf
      refine ⟨_, x2, rfl, ?_⟩
      conv => whnf
      refine ⟨_, x3, rfl, ?_⟩
      conv => whnf
      refine ⟨_, x4, rfl, ?_⟩
      conv => whnf
      refine ⟨_, x5, x6, ?_⟩
      conv => whnf
      refine Or.inl ?_
      conv => whnf
      refine CallsA.lift (H0 := []) [] rfl trivial rfl (readableW w0 hfit m) ?_
      rintro _ _ ⟨b, rfl, rfl, hr⟩
      conv => whnf
      refine ⟨fun _ => ?_, fun h4 => ?_⟩
      · conv => whnf
        exact Or.inr ⟨[], .o (.c (.val (.bool false))), [], ⟨rfl, trivial, rfl⟩, rfl, false, rfl, rfl, (fun h => by cases h)⟩
      · obtain ⟨hr1, _⟩ := hr (by cases b <;> first | rfl | cases h4)
        have hrs : ∀ j o, j < i + 1 → l[j]? = some o → o.reads := by
          intro j o hj ho
          rcases Nat.lt_or_ge j i with h | h
          · exact hri j o h ho
          · obtain rfl : j = i := by omega
            rw [hx] at ho
            cases ho
            exact hr1
        conv => whnf
        refine ⟨fun h5 => ?_, fun h5 => ?_⟩
        · conv => whnf
          refine ⟨⟨(i + 1, (x.a : Int)), by show i + 1 ≤ l.length; omega, hrs⟩, ⟨[], ⟨rfl, trivial, rfl⟩, rfl, eq_i64 (nwrapi (by omega)), rfl, rfl, rfl, eq_i64 ?_, trivial⟩, ?_⟩
          · rw [nadd, nwrapi (by omega)]
          · show l.length - (i + 1) < l.length - i
            omega
        · conv => whnf
          refine ⟨⟨(i + 1, m), by show i + 1 ≤ l.length; omega, hrs⟩, ⟨[], ⟨rfl, trivial, rfl⟩, rfl, rfl, rfl, rfl, rfl, eq_i64 ?_, trivial⟩, ?_⟩
          · rw [nadd, nwrapi (by omega)]
          · show l.length - (i + 1) < l.length - i
            omega
    · have h3 : l.length ≤ i := lt_f h3
      conv => whnf
      refine Or.inl ⟨_, rfl, rfl, fun h4 => ⟨le_t h4, fun o ho => ?_⟩⟩
      obtain ⟨j, hj, rfl⟩ := List.getElem_of_mem ho
      exact hri j _ (by omega) (List.getElem?_eq_getElem hj)
end Go.Proofs.Ytkomikpfnogjcaa
end
section
namespace Go.Proofs.Ytkomikpfnogjcaa
open Go Go.Vc
set_option maxRecDepth 100000
set_option maxHeartbeats 4000000

def oA : OpV := ⟨3, 1000, 777, 0, 0, .slice none 0 0, []⟩
def opsA : Blk := .vec true 80 encOp [] 6 [oA]
def seenA : SeenV := ⟨0, true, 8589934, E2.tell, E2.frac, 0⟩
def encASt : Nat → S
  | 0 => ⟨[(2, .o (.c (.ptr 1 0))), (3, .o (.c (.ptr 2 0))), (4, .o (.c (.ptr 3 0))), (5, .o (.c (.ptr 4 0))), (10, .o (.c (.vec 0 1))), (11, .o (.c (.val (.int .i64 ((1 : Nat) : Int))))), (12, .o (.c (.val (.int .i64 ((0 : Nat) : Int)))))], [opsA, .cells 9 [.val (.string ByteArray.empty)], .cells 28 [.val (.slice none 0 0)], .cells 3 [.val (.int .i64 ((0 : Nat) : Int))], EncS.init.blk 5 6, byteBlk [], byteBlk []]⟩
  | _ => ⟨[(2, .o (.c (.ptr 1 0))), (3, .o (.c (.ptr 2 0))), (4, .o (.c (.ptr 3 0))), (5, .o (.c (.ptr 4 0))), (10, .o (.c (.vec 0 1))), (11, .o (.c (.val (.int .i64 ((1 : Nat) : Int))))), (12, .o (.c (.val (.int .i64 ((1 : Nat) : Int)))))], [opsA, .cells 9 [.val (.string ByteArray.empty)], .cells 28 [.vec 7 1], .cells 3 [.val (.int .i64 ((0 : Nat) : Int))], E2.blk 5 6, byteBlk [], byteBlk [], .vec true 35 encSeen [] 6 [seenA]]⟩
theorem encodeA (w0 : World) : CallsA Try.prog w0 20 [.c (.vec 0 1)] [opsA] fun r H => ∃ s : SeenV, r = .t [.c (.val (.string (strOf [199, 1]))), .c (.vec 1 1), .c (.val (.int .i64 ((0 : Nat) : Int)))] ∧ H = [opsA, .vec true 35 encSeen [] 6 [s]] := by
  refine callsA_of_evD c20_ ?_
  conv => whnf
  refine CallsA.lift (H0 := [.cells 101 [.val (.slice none 0 0), .val (.slice none 0 0), .val (.int .u64 0), .val (.int .u64 0), .val (.int .u32 0), .val (.int .u32 0), .val (.int .i64 0), .val (.int .i64 0), .val (.int .u64 0)]]) [4] rfl ⟨rfl, rfl, trivial⟩ rfl (encInit w0) ?_
  rintro _ _ ⟨rfl, rfl⟩
  conv => whnf
  refine Or.inl ?_
  conv => whnf
  refine ⟨_root_.Fin 2, fun ⟨k, _⟩ => encASt k, fun k => 2 - k.1, ⟨⟨0, by decide⟩, ⟨[0, 1, 2, 3, 4, 5, 6], ⟨rfl, ⟨rfl, rfl, rfl, rfl, rfl, rfl, rfl, rfl, rfl, rfl, rfl, rfl, rfl, rfl, trivial⟩, rfl⟩, rfl, rfl, rfl, rfl, rfl, rfl, rfl, trivial⟩⟩, fun ⟨k, hk⟩ => ?_⟩
  rcases k with _ | _ | k
  · conv => whnf
    refine ⟨fun _ => ?_, fun h => absurd h (by decide)⟩
    conv => whnf
    refine Or.inl ?_
    conv => whnf
    refine ⟨by decide, ?_⟩
    conv => whnf
    refine ⟨oA, rfl, ?_⟩
    conv => whnf
    refine Or.inl ?_
    conv => whnf
    refine ⟨fun h => absurd h (by decide), fun _ => ?_⟩
    conv => whnf
    refine ⟨fun h => absurd h (by decide), fun _ => ?_⟩
    conv => whnf
    refine ⟨fun h => absurd h (by decide), fun _ => ?_⟩
    conv => whnf
    refine ⟨fun _ => ?_, fun h => absurd h (by decide)⟩
    conv => whnf
    refine CallsA.lift (H0 := EncS.init.H) [4, 5, 6] rfl ⟨rfl, rfl, rfl, rfl, rfl, rfl, trivial⟩ rfl (uniA w0) ?_
    rintro _ _ ⟨rfl, rfl⟩
    conv => whnf
    refine CallsA.lift (H0 := E2.H) [4, 5, 6] rfl ⟨rfl, rfl, rfl, rfl, rfl, rfl, trivial⟩ rfl (encFinal w0 E2) ?_
    rintro _ _ ⟨rfl, rfl⟩
    conv => whnf
    refine ⟨⟨⟨rfl, rfl⟩, trivial⟩, ?_⟩
    conv => whnf
    refine CallsA.lift (H0 := E2.H) [4, 5, 6] rfl ⟨rfl, rfl, rfl, rfl, rfl, rfl, trivial⟩ rfl (encTell w0 E2 (by decide) (by decide) (by decide)) ?_
    rintro _ _ ⟨rfl, rfl⟩
    conv => whnf
    refine ⟨⟨⟨rfl, rfl⟩, trivial⟩, ?_⟩
    conv => whnf
    refine CallsA.lift (H0 := E2.H) [4, 5, 6] rfl ⟨rfl, rfl, rfl, rfl, rfl, rfl, trivial⟩ rfl (encTellFrac w0 E2 (by decide) (by decide) (by decide)) ?_
    rintro _ _ ⟨rfl, rfl⟩
    conv => whnf
    refine ⟨⟨⟨rfl, rfl⟩, trivial⟩, ?_⟩
    conv => whnf
    refine ⟨⟨⟨rfl, rfl⟩, trivial⟩, ?_⟩
    conv => whnf
    refine ⟨by decide, SeenV, encSeen, [], [seenA], fun _ => rfl, ⟨rfl, rfl, rfl⟩, by decide, by decide, ?_⟩
    conv => whnf
    refine ⟨by first | exact trivial | exact ⟨⟨rfl, rfl⟩, trivial⟩, ?_⟩
    conv => whnf
    refine ⟨by first | exact trivial | exact ⟨⟨rfl, rfl⟩, trivial⟩, ?_⟩
    conv => whnf
    exact ⟨⟨1, by decide⟩, ⟨[0, 1, 2, 3, 4, 5, 6, 9], ⟨rfl, ⟨rfl, rfl, rfl, rfl, rfl, rfl, rfl, rfl, rfl, rfl, rfl, rfl, rfl, rfl, rfl, rfl, trivial⟩, rfl⟩, rfl, rfl, rfl, rfl, rfl, rfl, rfl, trivial⟩, (by show 2 - 1 < 2 - 0; decide)⟩
  · conv => whnf
    refine ⟨fun h => absurd h (by decide), fun _ => ?_⟩
    conv => whnf
    refine CallsA.lift (H0 := E2.H) [4, 5, 6] rfl ⟨rfl, rfl, rfl, rfl, rfl, rfl, trivial⟩ rfl (doneA w0) ?_
    rintro _ _ ⟨rfl, rfl⟩
    conv => whnf
    refine ⟨⟨⟨rfl, rfl⟩, trivial⟩, ?_⟩
    conv => whnf
    refine ⟨trivial, [199, 1], ⟨rfl, by decide, rfl, rfl⟩, ?_⟩
    conv => whnf
    refine ⟨⟨⟨rfl, rfl⟩, trivial⟩, ?_⟩
    conv => whnf
    refine ⟨by first | exact trivial | exact ⟨⟨rfl, rfl⟩, trivial⟩, ?_⟩
    conv => whnf
    refine ⟨by first | exact trivial | exact ⟨⟨rfl, rfl⟩, trivial⟩, ?_⟩
    conv => whnf
    refine ⟨by first | exact trivial | exact ⟨⟨rfl, rfl⟩, trivial⟩, ?_⟩
    conv => whnf
    refine Or.inr ⟨[0, 7], .t [.c (.val (.string (strOf [199, 1]))), .c (.vec 1 1), .c (.val (.int .i64 ((0 : Nat) : Int)))], [opsA, .vec true 35 encSeen [] 6 [seenA]], ⟨rfl, ⟨rfl, rfl, rfl, rfl, trivial⟩, rfl⟩, rfl, seenA, rfl, rfl⟩
  · omega
end Go.Proofs.Ytkomikpfnogjcaa
end
section
namespace Go.Proofs.Ytkomikpfnogjcaa
open Go Go.Vc
set_option maxRecDepth 100000
set_option maxHeartbeats 4000000

def locA : Blk := .cells 47 [.val (.int .i64 ((3 : Nat) : Int)), .val (.int .u32 ((1000 : Nat) : Int)), .val (.int .u32 ((777 : Nat) : Int)), .val (.int .u32 ((0 : Nat) : Int)), .val (.int .i64 ((0 : Nat) : Int)), .val (.slice none 0 0)]
def opsLSt : Nat → S
  | 0 => ⟨[(3, .o (.c (.val (.slice none 0 0)))), (6, .o (.c (.sli 0 6 0 1 1))), (7, .o (.c (.val (.int .i64 ((1 : Nat) : Int))))), (8, .o (.c (.val (.int .i64 ((0 : Nat) : Int)))))], [locA]⟩
  | _ => ⟨[(3, .o (.c (.vec 1 1))), (6, .o (.c (.sli 0 6 0 1 1))), (7, .o (.c (.val (.int .i64 ((1 : Nat) : Int))))), (8, .o (.c (.val (.int .i64 ((1 : Nat) : Int)))))], [locA, opsA]⟩
theorem opsL (w0 : World) : CallsA Try.prog w0 15 [.c (.sli 0 6 0 1 1)] [locA] fun r H => r = .o (.c (.vec 1 1)) ∧ H = [locA, opsA] := by
  refine callsA_of_ev c15_ ?_
  conv => whnf
  refine Or.inl ?_
  conv => whnf
  refine ⟨_root_.Fin 2, fun ⟨k, _⟩ => opsLSt k, fun k => 2 - k.1, ⟨⟨0, by decide⟩, ⟨[0], ⟨rfl, ⟨rfl, rfl, trivial⟩, rfl⟩, rfl, rfl, rfl, rfl, trivial⟩⟩, fun ⟨k, hk⟩ => ?_⟩
  rcases k with _ | _ | k
  · conv => whnf
    refine ⟨fun _ => ?_, fun h => absurd h (by decide)⟩
    conv => whnf
    refine ⟨by decide, ?_⟩
    conv => whnf
    refine ⟨by decide, OpV, encOp, [], [oA], fun _ => rfl, ⟨rfl, rfl, rfl⟩, by decide, by decide, ?_⟩
    conv => whnf
    exact ⟨⟨1, by decide⟩, ⟨[0, 3], ⟨rfl, ⟨rfl, rfl, rfl, rfl, trivial⟩, rfl⟩, rfl, rfl, rfl, rfl, trivial⟩, (by show 2 - 1 < 2 - 0; decide)⟩
  · conv => whnf
    refine ⟨fun h => absurd h (by decide), fun _ => ?_⟩
    conv => whnf
    exact Or.inl ⟨rfl, rfl⟩
  · omega

theorem goodA (w0 : World) : oA.good w0 := ⟨by decide, by decide, by decide, Or.inr (Or.inr (Or.inr (Or.inl ⟨rfl, by decide⟩)))⟩
theorem readA : ∃ s : SeenV, (Dec.init (bytesOf (strOf [199, 1]))).seen [oA] = [s] ∧ s.value = ((777 : Nat) : Int) ∧ s.fine = true := ⟨_, rfl, by kernel_rfl, by kernel_rfl⟩
theorem aliveW (w0 : World) : CallsA Try.prog w0 17 [] [] fun r H => r = .o (.c (.val (.bool true))) ∧ H = [] := by
  refine callsA_of_ev c17_ ?_
  conv => whnf
  refine CallsA.lift (H0 := [locA]) [0] rfl ⟨rfl, rfl, trivial⟩ rfl (opsL w0) ?_
  rintro _ _ ⟨rfl, rfl⟩
  conv => whnf
  refine CallsA.lift (H0 := [opsA]) [1] rfl ⟨rfl, rfl, trivial⟩ rfl (encodeA w0) ?_
  rintro _ _ ⟨sA, rfl, rfl⟩
  conv => whnf
  refine CallsA.lift (H0 := [opsA]) [1] rfl ⟨rfl, rfl, trivial⟩ rfl (decodeW w0 (b := strOf [199, 1]) (l := [oA]) (by decide) (by decide) (by decide) ?_) ?_
  · intro o ho
    rw [List.mem_singleton] at ho
    subst ho
    exact ⟨goodA w0, rfl⟩
  rintro _ _ ⟨rfl, rfl⟩
  obtain ⟨s, hs, h1, h2⟩ := readA
  rw [hs]
  obtain ⟨sv, sf, sr, st, sc, sl⟩ := s
  simp only at h1 h2
  subst h1 h2
  clear hs
  conv => whnf
  refine ⟨fun _ => ?_, fun h => absurd h (by decide)⟩
  conv => whnf
  refine ⟨fun _ => ?_, fun h => absurd h (by decide)⟩
  conv => whnf
  refine ⟨fun _ => ?_, fun h => absurd h (by decide)⟩
  conv => whnf
  refine ⟨by decide, ?_⟩
  conv => whnf
  refine ⟨_, rfl, ?_⟩
  conv => whnf
  refine ⟨fun _ => ?_, fun h => absurd rfl (ieq_f h)⟩
  conv => whnf
  refine ⟨by decide, ?_⟩
  conv => whnf
  refine ⟨_, rfl, ?_⟩
  conv => whnf
  exact Or.inr ⟨[], .o (.c (.val (.bool true))), [], ⟨rfl, trivial, rfl⟩, rfl, rfl, rfl⟩
end Go.Proofs.Ytkomikpfnogjcaa
end
