/- The laws' sanity check. -/
import Derived.Test.YtkomikpfnogjcaaDoorRmB
import Derived.Test.YtkomikpfnogjcaaDoorIrA
section
namespace Go.Proofs.YtkomikpfnogjcaaDoor
open Go Go.Vc
set_option maxRecDepth 100000

structure EncS where
  buf : List Int
  tail : List Int
  win : Nat
  nend : Nat
  rng : Nat
  low : Nat
  rem : Int
  ext : Nat
  total : Nat
def EncS.blk (e : EncS) (i j : Nat) : Blk := .cells 47 [.vec i e.buf.length, .vec j e.tail.length, .val (.int .u64 e.win), .val (.int .u64 e.nend), .val (.int .u32 e.rng), .val (.int .u32 e.low), .val (.int .i64 e.rem), .val (.int .i64 e.ext), .val (.int .u64 e.total)]
def byteBlk (xs : List Int) : Blk := .vec true 5 (encI .u8) [] 1 xs
def EncS.H (e : EncS) : List Blk := [e.blk 1 2, byteBlk e.buf, byteBlk e.tail]
def EncS.init : EncS := ⟨[], [], 0, 0, 2147483648, 0, -1, 0, 33⟩

theorem encInit (w0 : World) : CallsA Tryd.prog w0 21 [.c (.ptr 0 0)] [.cells 47 [.val (.slice none 0 0), .val (.slice none 0 0), .val (.int .u64 0), .val (.int .u64 0), .val (.int .u32 0), .val (.int .u32 0), .val (.int .i64 0), .val (.int .i64 0), .val (.int .u64 0)]] fun r H => r = .t [] ∧ H = EncS.init.H := by
  refine callsA_of_ev c21_ ?_
  conv => whnf
  refine ⟨rfl, rfl, Or.inr ⟨5, Int, encI .u8, by omega, fun _ => rfl, ?_⟩⟩
  conv => whnf
  refine ⟨rfl, rfl, Or.inr ⟨5, Int, encI .u8, by omega, fun _ => rfl, ?_⟩⟩
  conv => whnf
  exact Or.inl ⟨rfl, rfl⟩
end Go.Proofs.YtkomikpfnogjcaaDoor
end
section
namespace Go.Proofs.YtkomikpfnogjcaaDoor
open Go Go.Vc
set_option maxRecDepth 100000

theorem encFinal (w0 : World) (e : EncS) : CallsA Tryd.prog w0 55 [.c (.ptr 0 0)] e.H fun r H => r = u32 e.rng ∧ H = e.H := by
  refine callsA_of_ev c55_ ?_
  conv => whnf
  exact Or.inl ⟨rfl, rfl⟩
def EncS.tell (e : EncS) : Nat := e.total - len e.rng
theorem encTell (w0 : World) (e : EncS) (h : e.total ≤ 4611686018427387904) (h1 : 1 ≤ e.rng) (h2 : e.rng < 4294967296) : CallsA Tryd.prog w0 56 [.c (.ptr 0 0)] e.H fun r H => r = u64 e.tell ∧ H = e.H := by
  have hl1 := le_len (n := e.rng) (k := 0) h1
  have hl2 := len_le (n := e.rng) (k := 32) h2
  refine callsA_of_ev c56_ ?_
  conv => whnf
  refine (len32 w0 e.H h2).mono ?_
  rintro _ _ ⟨rfl, rfl⟩
  conv => whnf
  refine Or.inl ?_
  conv => whnf
  simp (disch := omega) only [nwrap64]
  refine ⟨fun h3 => ?_, fun h3 => ?_⟩
  · have := beq_t h3
    omega
  · conv => whnf
    refine Or.inl ?_
    conv => whnf
    refine ⟨fun h4 => ?_, fun h4 => ?_⟩
    · have h4 := le_t h4
      conv => whnf
      refine Or.inl ⟨u64_of ?_, rfl⟩
      unfold EncS.tell
      omega
    · have h4 := le_f h4
      conv => whnf
      refine Or.inl ⟨u64_of ?_, rfl⟩
      unfold EncS.tell
      rw [nsub (by omega), nwrap64 (by omega)]
theorem EncS.embH {e : EncS} {H : List Blk} {e0 env : Env} (hd : H = e.H) (he : embE [0, 1, 2] env e0) : EmbS 3 ⟨e0, e.H⟩ ⟨env, H⟩ := by
  subst hd
  exact ⟨[0, 1, 2], ⟨rfl, ⟨rfl, rfl, rfl, rfl, rfl, rfl, trivial⟩, rfl⟩, he⟩
def EncS.frac (e : EncS) : Nat := Go.Proofs.YtkomikpfnogjcaaDoor.frac e.total e.rng
theorem encTellFrac (w0 : World) (d : EncS) (hnb : d.total ≤ 1152921504606846976) (h1 : 8388608 ≤ d.rng) (h2 : d.rng < 4294967296) : CallsA Tryd.prog w0 57 [.c (.ptr 0 0)] d.H fun r H => r = u64 d.frac ∧ H = d.H := by
  have hl1 := le_len (n := d.rng) (k := 23) h1
  have hl2 := len_le (n := d.rng) (k := 32) h2
  obtain ⟨ht1, ht2⟩ := top_bits h1
  refine callsA_of_ev c57_ ?_
  conv => whnf
  refine (len32 w0 d.H h2).mono ?_
  rintro _ _ ⟨rfl, rfl⟩
  conv => whnf
  refine Or.inl ?_
  conv => whnf
  simp (disch := omega) only [nwrap64]
  refine ⟨fun h3 => ?_, fun h3 => ?_⟩
  · have h3 : ((len d.rng : Nat) : Int) = ((0 : Nat) : Int) := by simpa using h3
    omega
  · conv => whnf
    refine Or.inl ?_
    conv => whnf
    refine ⟨fun h4 => ?_, fun h4 => ?_⟩
    · have h4 := of_decide_eq_true h4
      have h4 : ((len d.rng : Nat) : Int) < ((24 : Nat) : Int) := h4
      omega
    · conv => whnf
      simp (disch := omega) only [nsub, nwrap64]
      refine ⟨by omega, ?_⟩
      conv => whnf
      simp (disch := omega) only [Int.toNat_natCast, nshr32, nwrap64]
      refine Or.inl ?_
      conv => whnf
      refine ⟨_root_.Fin 4, fun ⟨k, _⟩ => ⟨[(0, .o (.c (.ptr 0 0))), (3, .o (.c (.val (.int .u64 ((fracIter (d.rng / 2 ^ (len d.rng - 16), len d.rng) k).2 : Nat))))), (4, .o (.c (.val (.int .u64 ((fracIter (d.rng / 2 ^ (len d.rng - 16), len d.rng) k).1 : Nat))))), (33, .o (.c (.val (.int .i64 (k : Nat)))))], d.H⟩, fun k => 3 - k.1, ⟨0, EncS.embH rfl ⟨rfl, rfl, rfl, rfl, trivial⟩⟩, fun ⟨k, hk⟩ => ?_⟩
      obtain ⟨a, b, c⟩ := fracIter_lt (p := (d.rng / 2 ^ (len d.rng - 16), len d.rng)) ht1 ht2 hl2 k (by omega)
      have hpk : 2 ^ k ≤ 2 ^ 3 := Nat.pow_le_pow_right (by omega) (by omega)
      obtain ⟨a', b', c', d'⟩ := fracStep_lt a b
      conv => whnf
      refine ⟨fun h5 => ?_, fun h5 => ?_⟩
      · have h5 := of_decide_eq_true h5
        have h5 : (k : Int) < ((3 : Nat) : Int) := h5
        conv => whnf
        refine Or.inl ?_
        conv => whnf
        have hs : fracIter (d.rng / 2 ^ (len d.rng - 16), len d.rng) (k + 1) = fracStep (fracIter (d.rng / 2 ^ (len d.rng - 16), len d.rng) k) := rfl
        generalize hq : fracIter (d.rng / 2 ^ (len d.rng - 16), len d.rng) k = q at *
        obtain ⟨r, l⟩ := q
        simp only at a b c d'
        have hb2 : r * r / 32768 / 65536 ≤ 1 := by omega
        simp (disch := omega) only [nmul, nwrap64, nshr64, nadd]
        refine ⟨fun h6 => ?_, fun h6 => ?_⟩
        · have h6 : r * r / 2 ^ 15 / 2 ^ 16 ≠ 0 := by
            intro h0
            rw [h0] at h6
            cases h6
          conv => whnf
          refine ⟨⟨k + 1, by omega⟩, EncS.embH rfl ⟨rfl, ?_, ?_, ?_, trivial⟩, ?_⟩
          · refine eq_u64 ?_
            rw [hs]
            rfl
          · refine eq_u64 ?_
            rw [hs, nshr64 _ _ (by omega), fracStep_pos h6]
          · refine eq_i64 ?_
            rw [nadd, nwrapi (by omega)]
          · show 3 - (k + 1) < 3 - k
            omega
        · have h6 : r * r / 2 ^ 15 / 2 ^ 16 = 0 := bne_f h6
          conv => whnf
          refine ⟨⟨k + 1, by omega⟩, EncS.embH rfl ⟨rfl, ?_, ?_, ?_, trivial⟩, ?_⟩
          · refine eq_u64 ?_
            rw [hs]
            rfl
          · refine eq_u64 ?_
            rw [hs, fracStep_neg h6]
          · refine eq_i64 ?_
            rw [nadd, nwrapi (by omega)]
          · show 3 - (k + 1) < 3 - k
            omega
      · have h5 := of_decide_eq_false h5
        have h5 : ¬ (k : Int) < ((3 : Nat) : Int) := h5
        have hk3 : k = 3 := by omega
        subst hk3
        conv => whnf
        refine Or.inl ?_
        conv => whnf
        simp (disch := omega) only [nmul, nwrap64]
        refine ⟨fun h6 => ?_, fun h6 => ?_⟩
        · have h6 := of_decide_eq_true h6
          conv => whnf
          refine Or.inl ⟨u64_of ?_, rfl⟩
          have h6 : ((d.total * 8 : Nat) : Int) ≤ ((fracIter (d.rng / 2 ^ (len d.rng - 16), len d.rng) 3).2 : Nat) := h6
          show (0 : Int) = ((d.total * 8 - (fracIter (d.rng / 2 ^ (len d.rng - 16), len d.rng) 3).2 : Nat) : Int)
          omega
        · have h6 := of_decide_eq_false h6
          conv => whnf
          refine Or.inl ⟨u64_of ?_, rfl⟩
          have h6 : ¬ ((d.total * 8 : Nat) : Int) ≤ ((fracIter (d.rng / 2 ^ (len d.rng - 16), len d.rng) 3).2 : Nat) := h6
          show _ = ((d.total * 8 - (fracIter (d.rng / 2 ^ (len d.rng - 16), len d.rng) 3).2 : Nat) : Int)
          rw [nsub (by omega), nwrap64 (by omega)]
end Go.Proofs.YtkomikpfnogjcaaDoor
end
section
namespace Go.Proofs.YtkomikpfnogjcaaDoor
open Go Go.Vc
set_option maxRecDepth 100000

theorem bitMaskW (w0 : World) (H : List Blk) {n : Nat} (h : n < 32) : CallsA Tryd.prog w0 39 [.c (.val (.int .u64 n))] H fun r H' => r = u32 (2 ^ n - 1) ∧ H' = H := by
  have hp : 2 ^ n ≤ 2 ^ 31 := Nat.pow_le_pow_right (by omega) (by omega)
  have hp0 : 1 ≤ 2 ^ n := Nat.one_le_two_pow
  refine callsA_of_ev c39_ ?_
  conv => whnf
  refine Or.inl ?_
  conv => whnf
  refine ⟨fun h1 => absurd (ge_t h1) (by omega), fun _ => ?_⟩
  conv => whnf
  refine ⟨by omega, ?_⟩
  conv => whnf
  refine Or.inl ⟨u32_of ?_, rfl⟩
  rw [Int.toNat_natCast, nshl32 _ _ (by omega), Nat.one_mul, nwrap32 (by omega), nsub hp0, nwrap32 (by omega)]
theorem boolToIntW (w0 : World) (H : List Blk) (b : Bool) : CallsA Tryd.prog w0 45 [.c (.val (.bool b))] H fun r H' => r = i64 (bif b then 1 else 0) ∧ H' = H := by
  refine callsA_of_ev c45_ ?_
  conv => whnf
  refine Or.inl ?_
  conv => whnf
  refine ⟨fun h => ?_, fun h => ?_⟩
  · subst h
    conv => whnf
    exact Or.inl ⟨rfl, rfl⟩
  · subst h
    conv => whnf
    exact Or.inl ⟨rfl, rfl⟩
theorem shouldW (w0 : World) (e : EncS) (n : Nat) (h : 0 < e.nend) (hb : e.buf.length ≠ 0) (hn : e.nend ≤ n) : CallsA Tryd.prog w0 46 [.c (.ptr 0 0), .c (.val (.int .u64 n))] e.H fun r H' => r = .o (.c (.val (.bool false))) ∧ H' = e.H := by
  refine callsA_of_ev c46_ ?_
  conv => whnf
  refine ⟨fun _ => ?_, fun h1 => absurd (gt_f h1) (by omega)⟩
  conv => whnf
  refine ⟨fun h1 => absurd (beq_t h1) hb, fun _ => ?_⟩
  conv => whnf
  refine Or.inl ⟨?_, rfl⟩
  have : decide ((e.nend : Int) > (n : Int)) = false := decide_eq_false (by omega)
  rw [this]
  rfl
theorem carryN (w0 : World) (e : EncS) (hr : e.rem = -1) (hx : e.ext = 0) {v : Nat} (hv : v < 255) : CallsA Tryd.prog w0 44 [.c (.ptr 0 0), .c (.val (.int .i64 v))] e.H fun r H => r = .t [] ∧ H = ({ e with rem := v } : EncS).H := by
  refine callsA_of_ev c44_ ?_
  conv => whnf
  refine Or.inl ?_
  conv => whnf
  refine ⟨fun h1 => ?_, fun h1 => absurd (bne_f h1) (by omega)⟩
  conv => whnf
  refine Or.inl ?_
  conv => whnf
  refine ⟨fun h2 => absurd (of_decide_eq_true h2 : (0 : Int) ≤ e.rem) (by omega), fun _ => ?_⟩
  conv => whnf
  refine Or.inl ?_
  conv => whnf
  refine ⟨fun h1 => absurd (gt_t h1) (by omega), fun _ => ?_⟩
  conv => whnf
  refine Or.inl ⟨rfl, ?_⟩
  rw [nandi (by omega) (by omega), show (255 : Nat) = 2 ^ 8 - 1 by rfl, nand_mask, Nat.mod_eq_of_lt (by omega)]
  rfl
theorem carryP (w0 : World) (e : EncS) (hr : 0 ≤ e.rem) (hr2 : e.rem < 256) (hx : e.ext = 0) (hb : e.buf.length ≤ 1048576) {v : Nat} (hv : v < 255) : CallsA Tryd.prog w0 44 [.c (.ptr 0 0), .c (.val (.int .i64 v))] e.H fun r H => r = .t [] ∧ H = [({ e with rem := v, buf := e.buf ++ [e.rem] } : EncS).blk 3 2, .dead, byteBlk e.tail, byteBlk (e.buf ++ [e.rem])] := by
  refine callsA_of_ev c44_ ?_
  conv => whnf
  refine Or.inl ?_
  conv => whnf
  refine ⟨fun h1 => ?_, fun h1 => absurd (bne_f h1) (by omega)⟩
  conv => whnf
  refine Or.inl ?_
  conv => whnf
  refine ⟨fun _ => ?_, fun h2 => absurd hr (of_decide_eq_false h2)⟩
  conv => whnf
  refine ⟨⟨⟨rfl, rfl⟩, trivial⟩, ?_⟩
  conv => whnf
  have hX : IntKind.u8.wrap (IntKind.i64.wrap (e.rem + ((v : Nat) : Int).fdiv (2 ^ min 8 IntKind.i64.bits))) = e.rem := by
    rw [nshri _ _ (by omega), show v / 2 ^ 8 = 0 by omega, IntKind.wrap_i64, IntKind.wrap_u8]
    omega
  refine ⟨rfl, [e.rem], ⟨rfl, rfl, congrArg (fun x => [CV.val (.int .u8 x)]) hX.symm⟩, by rw [List.length_append, List.length_singleton]; omega, by rw [List.length_append, List.length_singleton]; omega, ?_⟩
  conv => whnf
  refine ⟨trivial, ?_⟩
  conv => whnf
  refine ⟨trivial, ?_⟩
  conv => whnf
  refine Or.inl ?_
  conv => whnf
  refine ⟨fun h1 => absurd (gt_t h1) (by omega), fun _ => ?_⟩
  conv => whnf
  have hrem : IntKind.i64.wrap (((BitVec.ofInt IntKind.i64.bits (v : Int) &&& BitVec.ofInt IntKind.i64.bits ((255 : Nat) : Int)).toNat : Nat) : Int) = (v : Int) := by
    rw [nandi (by omega) (by omega), show (255 : Nat) = 2 ^ 8 - 1 by rfl, nand_mask, Nat.mod_eq_of_lt (by omega)]
  refine Or.inr ⟨[0, 1, 2, 4], .t [], [({ e with rem := v, buf := e.buf ++ [e.rem] } : EncS).blk 3 2, .dead, byteBlk e.tail, byteBlk (e.buf ++ [e.rem])], ⟨rfl, ⟨congrArg (fun x : Int => some (Blk.cells 47 [.vec 4 (e.buf ++ [e.rem]).length, .vec 2 e.tail.length, .val (.int .u64 e.win), .val (.int .u64 e.nend), .val (.int .u32 e.rng), .val (.int .u32 e.low), .val (.int .i64 x), .val (.int .i64 e.ext), .val (.int .u64 e.total)])) hrem, rfl, Nat.le_of_ble_eq_true rfl, rfl, rfl, rfl, rfl, trivial⟩, rfl⟩, rfl, rfl, rfl⟩
theorem normStop (w0 : World) (e : EncS) (h : 8388608 < e.rng) : CallsA Tryd.prog w0 73 [.c (.ptr 0 0)] e.H fun r H => r = .t [] ∧ H = e.H := by
  refine callsA_of_ev c73_ ?_
  conv => whnf
  refine ⟨Unit, fun _ => ⟨[(0, .o (.c (.ptr 0 0)))], e.H⟩, fun _ => 0, ⟨(), EncS.embH rfl ⟨rfl, trivial⟩⟩, fun _ => ?_⟩
  conv => whnf
  refine ⟨fun h1 => absurd (le_t h1) (by omega), fun _ => ?_⟩
  conv => whnf
  exact Or.inl ⟨rfl, rfl⟩
end Go.Proofs.YtkomikpfnogjcaaDoor
end
section
namespace Go.Proofs.YtkomikpfnogjcaaDoor
open Go Go.Vc
set_option maxRecDepth 100000
set_option maxHeartbeats 4000000

def E1 : EncS := ⟨[], [], 0, 0, 8589934, 1666447344, -1, 0, 33⟩
def E2 : EncS := ⟨[], [], 1, 2, 8589934, 1666447344, -1, 0, 35⟩
theorem cumA (w0 : World) : CallsA Tryd.prog w0 37 [.c (.ptr 0 0), .c (.val (.int .u32 ((194 : Nat) : Int))), .c (.val (.int .u32 ((195 : Nat) : Int))), .c (.val (.int .u32 ((250 : Nat) : Int)))] EncS.init.H fun r H => r = .t [] ∧ H = E1.H := by
  refine callsA_of_ev c37_ ?_
  conv => whnf
  refine Or.inl ?_
  conv => whnf
  refine ⟨fun h => absurd (beq_t h) (by decide), fun _ => ?_⟩
  conv => whnf
  refine ⟨fun h => absurd (ge_t h) (by decide), fun _ => ?_⟩
  conv => whnf
  refine ⟨fun h => absurd (gt_t h) (by decide), fun _ => ?_⟩
  conv => whnf
  refine ⟨by decide, ?_⟩
  conv => whnf
  refine Or.inl ?_
  conv => whnf
  refine ⟨fun _ => ?_, fun h => absurd (bne_f h) (by decide)⟩
  conv => whnf
  refine ⟨by first | exact trivial | exact ⟨⟨rfl, rfl⟩, trivial⟩, ?_⟩
  conv => whnf
  refine (normStop w0 E1 (by decide)).mono ?_
  rintro _ _ ⟨rfl, rfl⟩
  conv => whnf
  exact Or.inl ⟨rfl, rfl⟩
theorem rawA (w0 : World) : CallsA Tryd.prog w0 38 [.c (.ptr 0 0), .c (.val (.int .u64 ((2 : Nat) : Int))), .c (.val (.int .u32 ((1 : Nat) : Int)))] E1.H fun r H => r = .t [] ∧ H = E2.H := by
  refine callsA_of_ev c38_ ?_
  conv => whnf
  refine Or.inl ?_
  conv => whnf
  refine ⟨fun h => absurd (beq_t h) (by decide), fun _ => ?_⟩
  conv => whnf
  refine Or.inl ?_
  conv => whnf
  refine ⟨fun _ => ?_, fun h => absurd (lt_f h) (by decide)⟩
  conv => whnf
  refine (bitMaskW w0 E1.H (n := 2) (by decide)).mono ?_
  rintro _ _ ⟨rfl, rfl⟩
  conv => whnf
  refine ⟨by decide, ?_⟩
  conv => whnf
  refine ⟨by first | exact trivial | exact ⟨⟨rfl, rfl⟩, trivial⟩, ?_⟩
  conv => whnf
  refine ⟨Unit, fun _ => ⟨[(0, .o (.c (.ptr 0 0)))], E2.H⟩, fun _ => 0, ⟨(), EncS.embH rfl ⟨rfl, trivial⟩⟩, fun _ => ?_⟩
  conv => whnf
  refine ⟨fun h => absurd (ge_t h) (by decide), fun _ => ?_⟩
  conv => whnf
  exact Or.inl ⟨rfl, rfl⟩
theorem uniA (w0 : World) : CallsA Tryd.prog w0 22 [.c (.ptr 0 0), .c (.val (.int .u32 ((1000 : Nat) : Int))), .c (.val (.int .u32 ((777 : Nat) : Int)))] EncS.init.H fun r H => r = .t [] ∧ H = E2.H := by
  refine callsA_of_ev c22_ ?_
  conv => whnf
  refine Or.inl ?_
  conv => whnf
  refine ⟨fun h => absurd (le_t h) (by decide), fun _ => ?_⟩
  conv => whnf
  refine Or.inl ?_
  conv => whnf
  refine ⟨fun h => absurd (ge_t h) (by decide), fun _ => ?_⟩
  conv => whnf
  refine (len32 w0 EncS.init.H (n := 999) (by decide)).mono ?_
  rintro _ _ ⟨rfl, rfl⟩
  conv => whnf
  refine Or.inl ?_
  conv => whnf
  refine ⟨fun h => absurd (le_t h) (by decide), fun _ => ?_⟩
  conv => whnf
  refine ⟨by decide, ?_⟩
  conv => whnf
  refine ⟨by decide, ?_⟩
  conv => whnf
  refine (cumA w0).mono ?_
  rintro _ _ ⟨rfl, rfl⟩
  conv => whnf
  refine (bitMaskW w0 E1.H (n := 2) (by decide)).mono ?_
  rintro _ _ ⟨rfl, rfl⟩
  conv => whnf
  refine (rawA w0).mono ?_
  rintro _ _ ⟨rfl, rfl⟩
  conv => whnf
  exact Or.inl ⟨rfl, rfl⟩
def E3 : EncS := ⟨[], [], 1, 2, 8589934, 1666447344, 199, 0, 35⟩
def E4 : EncS := ⟨[199], [], 1, 2, 8589934, 1666447344, 0, 0, 35⟩
def flushSt : Nat → S
  | 0 => ⟨[(0, .o (.c (.ptr 0 0))), (3, .o (.c (.val (.int .i64 ((9 : Nat) : Int))))), (5, .o (.c (.val (.int .u32 ((1669332992 : Nat) : Int)))))], E2.H⟩
  | 1 => ⟨[(0, .o (.c (.ptr 0 0))), (3, .o (.c (.val (.int .i64 ((1 : Nat) : Int))))), (5, .o (.c (.val (.int .u32 ((0 : Nat) : Int)))))], E3.H⟩
  | _ => ⟨[(0, .o (.c (.ptr 0 0))), (3, .o (.c (.val (.int .i64 (-7))))), (5, .o (.c (.val (.int .u32 ((0 : Nat) : Int)))))], [E4.blk 3 2, .dead, byteBlk [], byteBlk [199]]⟩
theorem flushA (w0 : World) : CallsA Tryd.prog w0 43 [.c (.ptr 0 0)] E2.H fun r H => r = i64 (-7) ∧ H = [E4.blk 3 2, .dead, byteBlk [], byteBlk [199]] := by
  refine callsA_of_ev c43_ ?_
  conv => whnf
  refine (len32 w0 E2.H (n := 8589934) (by decide)).mono ?_
  rintro _ _ ⟨rfl, rfl⟩
  conv => whnf
  refine ⟨by decide, ?_⟩
  conv => whnf
  refine Or.inl ?_
  conv => whnf
  refine ⟨fun _ => ?_, fun h => absurd h (by decide)⟩
  conv => whnf
  refine Or.inl ?_
  conv => whnf
  refine ⟨_root_.Fin 3, fun ⟨k, _⟩ => flushSt k, fun k => 3 - k.1, ⟨⟨0, by decide⟩, EncS.embH (e := E2) rfl ⟨rfl, rfl, rfl, trivial⟩⟩, fun ⟨k, hk⟩ => ?_⟩
  rcases k with _ | _ | _ | k
  · conv => whnf
    refine ⟨fun _ => ?_, fun h => absurd h (by decide)⟩
    conv => whnf
    refine (carryN w0 E2 rfl rfl (v := 199) (by decide)).mono ?_
    rintro _ _ ⟨rfl, rfl⟩
    conv => whnf
    exact ⟨⟨1, by decide⟩, EncS.embH (e := E3) rfl ⟨rfl, rfl, rfl, trivial⟩, (by show 3 - 1 < 3 - 0; decide)⟩
  · conv => whnf
    refine ⟨fun _ => ?_, fun h => absurd h (by decide)⟩
    conv => whnf
    refine (carryP w0 E3 (by decide) (by decide) rfl (by decide) (v := 0) (by decide)).mono ?_
    rintro _ _ ⟨rfl, rfl⟩
    conv => whnf
    exact ⟨⟨2, by decide⟩, ⟨[0, 1, 2, 3], ⟨rfl, ⟨rfl, rfl, by decide, rfl, rfl, rfl, rfl, trivial⟩, rfl⟩, rfl, rfl, rfl, trivial⟩, (by show 3 - 2 < 3 - 1; decide)⟩
  · conv => whnf
    refine ⟨fun h => absurd h (by decide), fun _ => ?_⟩
    conv => whnf
    exact Or.inl ⟨rfl, rfl⟩
  · omega
def E5 : EncS := ⟨[199, 0], [], 1, 2, 8589934, 1666447344, 0, 0, 35⟩
theorem doneA (w0 : World) : CallsA Tryd.prog w0 25 [.c (.ptr 0 0)] E2.H fun r H => r = .o (.c (.vec 3 2)) ∧ H = [.dead, .dead, .dead, byteBlk [199, 1]] := by
  refine callsA_of_ev c25_ ?_
  conv => whnf
  refine (flushA w0).mono ?_
  rintro _ _ ⟨rfl, rfl⟩
  conv => whnf
  refine Or.inl ?_
  conv => whnf
  refine ⟨fun _ => ?_, fun h => absurd h (by decide)⟩
  conv => whnf
  refine CallsA.lift (H0 := E4.H) [0, 3, 2] rfl ⟨rfl, rfl, rfl, rfl, rfl, rfl, trivial⟩ rfl (carryP w0 E4 (by decide) (by decide) rfl (by decide) (v := 0) (by decide)) ?_
  rintro _ _ ⟨rfl, rfl⟩
  conv => whnf
  refine Or.inl ?_
  conv => whnf
  refine ⟨fun _ => ?_, fun h => absurd h (by decide)⟩
  conv => whnf
  refine CallsA.lift (H0 := E5.H) [0, 4, 2] rfl ⟨rfl, rfl, rfl, rfl, rfl, rfl, trivial⟩ rfl (shouldW w0 E5 7 (by decide) (by decide) (by decide)) ?_
  rintro _ _ ⟨rfl, rfl⟩
  conv => whnf
  refine ⟨⟨⟨rfl, rfl⟩, ⟨rfl, rfl⟩, trivial⟩, ?_⟩
  conv => whnf
  refine (boolToIntW w0 _ false).mono ?_
  rintro _ _ ⟨rfl, rfl⟩
  conv => whnf
  refine ⟨⟨⟨rfl, rfl⟩, ⟨rfl, rfl⟩, trivial⟩, ?_⟩
  conv => whnf
  refine ⟨by decide, ?_⟩
  conv => whnf
  refine ⟨Int, encI .u8, [], 0, fun _ => rfl, rfl, ?_⟩
  conv => whnf
  refine ⟨by first | exact trivial | exact ⟨⟨rfl, rfl⟩, trivial⟩ | exact ⟨⟨rfl, rfl⟩, ⟨rfl, rfl⟩, trivial⟩, ?_⟩
  conv => whnf
  refine ⟨rfl, [199, 0], ⟨rfl, by decide, rfl, rfl⟩, by decide, ?_⟩
  conv => whnf
  refine Or.inl ?_
  conv => whnf
  refine ⟨Unit, fun _ => ⟨[(0, .o (.c (.ptr 0 0))), (4, .o (.c (.val (.int .u64 ((7 : Nat) : Int))))), (5, .o (.c (.vec 5 2))), (56, .o (.c (.vec 2 0))), (57, .o (.c (.val (.int .i64 ((0 : Nat) : Int))))), (58, .o (.c (.val (.int .i64 ((0 : Nat) : Int)))))], [E5.blk 4 2, .dead, byteBlk [], .dead, byteBlk [199, 0], byteBlk [199, 0]]⟩, fun _ => 0, ⟨(), [0, 1, 2, 3, 4, 5], ⟨rfl, ⟨rfl, rfl, by decide, rfl, rfl, by decide, rfl, rfl, rfl, rfl, trivial⟩, rfl⟩, rfl, rfl, rfl, rfl, rfl, rfl, trivial⟩, fun _ => ?_⟩
  conv => whnf
  refine ⟨fun h => absurd h (by decide), fun _ => ?_⟩
  conv => whnf
  refine Or.inl ?_
  conv => whnf
  refine ⟨fun _ => ?_, fun h => absurd h (by decide)⟩
  conv => whnf
  refine (bitMaskW w0 _ (n := 2) (by decide)).mono ?_
  rintro _ _ ⟨rfl, rfl⟩
  conv => whnf
  refine ⟨⟨⟨rfl, rfl⟩, trivial⟩, ?_⟩
  conv => whnf
  refine CallsA.lift (H0 := E5.H) [0, 4, 2] rfl ⟨rfl, rfl, rfl, rfl, rfl, rfl, trivial⟩ rfl (shouldW w0 E5 7 (by decide) (by decide) (by decide)) ?_
  rintro _ _ ⟨rfl, rfl⟩
  conv => whnf
  refine ⟨(fun h => by cases h), fun _ => ?_⟩
  conv => whnf
  refine ⟨by decide, ?_⟩
  conv => whnf
  refine ⟨0, rfl, ?_⟩
  conv => whnf
  refine ⟨by decide, ?_⟩
  conv => whnf
  refine ⟨0, 1, rfl, rfl, ?_⟩
  conv => whnf
  exact Or.inr ⟨[0, 1, 2, 5], .o (.c (.vec 3 2)), [.dead, .dead, .dead, byteBlk [199, 1]], ⟨rfl, ⟨Nat.le_of_ble_eq_true rfl, Nat.le_of_ble_eq_true rfl, Nat.le_of_ble_eq_true rfl, rfl, rfl, trivial⟩, rfl⟩, rfl, rfl, rfl⟩
end Go.Proofs.YtkomikpfnogjcaaDoor
end
section
namespace Go.Proofs.YtkomikpfnogjcaaDoor
open Go Go.Vc
set_option maxRecDepth 100000
set_option maxHeartbeats 4000000

def oA : OpV := ⟨3, 1000, 777, 0, 0, .slice none 0 0, []⟩
def opsA : Blk := .vec true 85 encOp [] 6 [oA]
def seenA : SeenV := ⟨0, true, 8589934, E2.tell, E2.frac, 0⟩
def encASt : Nat → S
  | 0 => ⟨[(2, .o (.c (.ptr 1 0))), (3, .o (.c (.ptr 2 0))), (4, .o (.c (.ptr 3 0))), (5, .o (.c (.ptr 4 0))), (10, .o (.c (.vec 0 1))), (11, .o (.c (.val (.int .i64 ((1 : Nat) : Int))))), (12, .o (.c (.val (.int .i64 ((0 : Nat) : Int)))))], [opsA, .cells 9 [.val (.string ByteArray.empty)], .cells 64 [.val (.slice none 0 0)], .cells 3 [.val (.int .i64 ((0 : Nat) : Int))], EncS.init.blk 5 6, byteBlk [], byteBlk []]⟩
  | _ => ⟨[(2, .o (.c (.ptr 1 0))), (3, .o (.c (.ptr 2 0))), (4, .o (.c (.ptr 3 0))), (5, .o (.c (.ptr 4 0))), (10, .o (.c (.vec 0 1))), (11, .o (.c (.val (.int .i64 ((1 : Nat) : Int))))), (12, .o (.c (.val (.int .i64 ((1 : Nat) : Int)))))], [opsA, .cells 9 [.val (.string ByteArray.empty)], .cells 64 [.vec 7 1], .cells 3 [.val (.int .i64 ((0 : Nat) : Int))], E2.blk 5 6, byteBlk [], byteBlk [], .vec true 70 encSeen [] 6 [seenA]]⟩
theorem encodeA (w0 : World) : CallsA Tryd.prog w0 30 [.c (.vec 0 1)] [opsA] fun r H => ∃ s : SeenV, r = .t [.c (.val (.string (strOf [199, 1]))), .c (.vec 1 1), .c (.val (.int .i64 ((0 : Nat) : Int)))] ∧ H = [opsA, .vec true 70 encSeen [] 6 [s]] := by
  refine callsA_of_evD c30_ ?_
  conv => whnf
  refine CallsA.lift (H0 := [.cells 47 [.val (.slice none 0 0), .val (.slice none 0 0), .val (.int .u64 0), .val (.int .u64 0), .val (.int .u32 0), .val (.int .u32 0), .val (.int .i64 0), .val (.int .i64 0), .val (.int .u64 0)]]) [4] rfl ⟨rfl, rfl, trivial⟩ rfl (encInit w0) ?_
  rintro _ _ ⟨rfl, rfl⟩
  conv => whnf
  refine Or.inl ?_
  conv => whnf
  refine ⟨_root_.Fin 2, fun ⟨k, _⟩ => encASt k, fun k => 2 - k.1, ⟨⟨0, by decide⟩, ⟨[0, 1, 2, 3, 4, 5, 6], ⟨rfl, ⟨rfl, rfl, rfl, rfl, rfl, rfl, rfl, rfl, rfl, rfl, rfl, rfl, rfl, rfl, trivial⟩, rfl⟩, rfl, rfl, rfl, rfl, rfl, rfl, rfl, trivial⟩⟩, fun ⟨k, hk⟩ => ?_⟩
  rcases k with _ | _ | k
  · conv => whnf
    refine ⟨fun _ => ?_, fun h => absurd h (by decide)⟩
    conv => whnf
    refine Or.inl ?_
    conv => whnf
    refine ⟨by decide, ?_⟩
    conv => whnf
    refine ⟨oA, rfl, ?_⟩
    conv => whnf
    refine Or.inl ?_
    conv => whnf
    refine ⟨fun h => absurd h (by decide), fun _ => ?_⟩
    conv => whnf
    refine ⟨fun h => absurd h (by decide), fun _ => ?_⟩
    conv => whnf
    refine ⟨fun h => absurd h (by decide), fun _ => ?_⟩
    conv => whnf
    refine ⟨fun _ => ?_, fun h => absurd h (by decide)⟩
    conv => whnf
    refine CallsA.lift (H0 := EncS.init.H) [4, 5, 6] rfl ⟨rfl, rfl, rfl, rfl, rfl, rfl, trivial⟩ rfl (uniA w0) ?_
    rintro _ _ ⟨rfl, rfl⟩
    conv => whnf
    refine CallsA.lift (H0 := E2.H) [4, 5, 6] rfl ⟨rfl, rfl, rfl, rfl, rfl, rfl, trivial⟩ rfl (encFinal w0 E2) ?_
    rintro _ _ ⟨rfl, rfl⟩
    conv => whnf
    refine ⟨⟨⟨rfl, rfl⟩, trivial⟩, ?_⟩
    conv => whnf
    refine CallsA.lift (H0 := E2.H) [4, 5, 6] rfl ⟨rfl, rfl, rfl, rfl, rfl, rfl, trivial⟩ rfl (encTell w0 E2 (by decide) (by decide) (by decide)) ?_
    rintro _ _ ⟨rfl, rfl⟩
    conv => whnf
    refine ⟨⟨⟨rfl, rfl⟩, trivial⟩, ?_⟩
    conv => whnf
    refine CallsA.lift (H0 := E2.H) [4, 5, 6] rfl ⟨rfl, rfl, rfl, rfl, rfl, rfl, trivial⟩ rfl (encTellFrac w0 E2 (by decide) (by decide) (by decide)) ?_
    rintro _ _ ⟨rfl, rfl⟩
    conv => whnf
    refine ⟨⟨⟨rfl, rfl⟩, trivial⟩, ?_⟩
    conv => whnf
    refine ⟨⟨⟨rfl, rfl⟩, trivial⟩, ?_⟩
    conv => whnf
    refine ⟨by decide, SeenV, encSeen, [], [seenA], fun _ => rfl, ⟨rfl, rfl, rfl⟩, by decide, by decide, ?_⟩
    conv => whnf
    refine ⟨by first | exact trivial | exact ⟨⟨rfl, rfl⟩, trivial⟩, ?_⟩
    conv => whnf
    refine ⟨by first | exact trivial | exact ⟨⟨rfl, rfl⟩, trivial⟩, ?_⟩
    conv => whnf
    exact ⟨⟨1, by decide⟩, ⟨[0, 1, 2, 3, 4, 5, 6, 9], ⟨rfl, ⟨rfl, rfl, rfl, rfl, rfl, rfl, rfl, rfl, rfl, rfl, rfl, rfl, rfl, rfl, rfl, rfl, trivial⟩, rfl⟩, rfl, rfl, rfl, rfl, rfl, rfl, rfl, trivial⟩, (by show 2 - 1 < 2 - 0; decide)⟩
  · conv => whnf
    refine ⟨fun h => absurd h (by decide), fun _ => ?_⟩
    conv => whnf
    refine CallsA.lift (H0 := E2.H) [4, 5, 6] rfl ⟨rfl, rfl, rfl, rfl, rfl, rfl, trivial⟩ rfl (doneA w0) ?_
    rintro _ _ ⟨rfl, rfl⟩
    conv => whnf
    refine ⟨⟨⟨rfl, rfl⟩, trivial⟩, ?_⟩
    conv => whnf
    refine ⟨trivial, [199, 1], ⟨rfl, by decide, rfl, rfl⟩, ?_⟩
    conv => whnf
    refine ⟨⟨⟨rfl, rfl⟩, trivial⟩, ?_⟩
    conv => whnf
    refine ⟨by first | exact trivial | exact ⟨⟨rfl, rfl⟩, trivial⟩, ?_⟩
    conv => whnf
    refine ⟨by first | exact trivial | exact ⟨⟨rfl, rfl⟩, trivial⟩, ?_⟩
    conv => whnf
    refine ⟨by first | exact trivial | exact ⟨⟨rfl, rfl⟩, trivial⟩, ?_⟩
    conv => whnf
    refine Or.inr ⟨[0, 7], .t [.c (.val (.string (strOf [199, 1]))), .c (.vec 1 1), .c (.val (.int .i64 ((0 : Nat) : Int)))], [opsA, .vec true 70 encSeen [] 6 [seenA]], ⟨rfl, ⟨rfl, rfl, rfl, rfl, trivial⟩, rfl⟩, rfl, seenA, rfl, rfl⟩
  · omega
end Go.Proofs.YtkomikpfnogjcaaDoor
end
section
namespace Go.Proofs.YtkomikpfnogjcaaDoor
open Go Go.Vc
set_option maxRecDepth 100000
set_option maxHeartbeats 4000000

def locA : Blk := .cells 62 [.val (.int .i64 ((3 : Nat) : Int)), .val (.int .u32 ((1000 : Nat) : Int)), .val (.int .u32 ((777 : Nat) : Int)), .val (.int .u32 ((0 : Nat) : Int)), .val (.int .i64 ((0 : Nat) : Int)), .val (.slice none 0 0)]
def opsLSt : Nat → S
  | 0 => ⟨[(3, .o (.c (.val (.slice none 0 0)))), (6, .o (.c (.sli 0 6 0 1 1))), (7, .o (.c (.val (.int .i64 ((1 : Nat) : Int))))), (8, .o (.c (.val (.int .i64 ((0 : Nat) : Int)))))], [locA]⟩
  | _ => ⟨[(3, .o (.c (.vec 1 1))), (6, .o (.c (.sli 0 6 0 1 1))), (7, .o (.c (.val (.int .i64 ((1 : Nat) : Int))))), (8, .o (.c (.val (.int .i64 ((1 : Nat) : Int)))))], [locA, opsA]⟩
theorem opsL (w0 : World) : CallsA Tryd.prog w0 29 [.c (.sli 0 6 0 1 1)] [locA] fun r H => r = .o (.c (.vec 1 1)) ∧ H = [locA, opsA] := by
  refine callsA_of_ev c29_ ?_
  conv => whnf
  refine Or.inl ?_
  conv => whnf
  refine ⟨_root_.Fin 2, fun ⟨k, _⟩ => opsLSt k, fun k => 2 - k.1, ⟨⟨0, by decide⟩, ⟨[0], ⟨rfl, ⟨rfl, rfl, trivial⟩, rfl⟩, rfl, rfl, rfl, rfl, trivial⟩⟩, fun ⟨k, hk⟩ => ?_⟩
  rcases k with _ | _ | k
  · conv => whnf
    refine ⟨fun _ => ?_, fun h => absurd h (by decide)⟩
    conv => whnf
    refine ⟨by decide, ?_⟩
    conv => whnf
    refine ⟨by decide, OpV, encOp, [], [oA], fun _ => rfl, ⟨rfl, rfl, rfl⟩, by decide, by decide, ?_⟩
    conv => whnf
    exact ⟨⟨1, by decide⟩, ⟨[0, 3], ⟨rfl, ⟨rfl, rfl, rfl, rfl, trivial⟩, rfl⟩, rfl, rfl, rfl, rfl, trivial⟩, (by show 2 - 1 < 2 - 0; decide)⟩
  · conv => whnf
    refine ⟨fun h => absurd h (by decide), fun _ => ?_⟩
    conv => whnf
    exact Or.inl ⟨rfl, rfl⟩
  · omega

theorem goodA (w0 : World) : oA.good w0 := ⟨by decide, by decide, by decide, Or.inr (Or.inr (Or.inr (Or.inl ⟨rfl, by decide⟩)))⟩
theorem readA : ∃ s : SeenV, (Dec.init (bytesOf (strOf [199, 1]))).seen [oA] = [s] ∧ s.value = ((777 : Nat) : Int) ∧ s.fine = true := ⟨_, rfl, by kernel_rfl, by kernel_rfl⟩
theorem aliveW (w0 : World) : CallsA Tryd.prog w0 11 [] [] fun r H => r = .o (.c (.val (.bool true))) ∧ H = [] := by
  refine callsA_of_ev c11_ ?_
  conv => whnf
  refine CallsA.lift (H0 := [locA]) [0] rfl ⟨rfl, rfl, trivial⟩ rfl (opsL w0) ?_
  rintro _ _ ⟨rfl, rfl⟩
  conv => whnf
  refine CallsA.lift (H0 := [opsA]) [1] rfl ⟨rfl, rfl, trivial⟩ rfl (encodeA w0) ?_
  rintro _ _ ⟨sA, rfl, rfl⟩
  conv => whnf
  refine CallsA.lift (H0 := [opsA]) [1] rfl ⟨rfl, rfl, trivial⟩ rfl (decodeW w0 (b := strOf [199, 1]) (l := [oA]) (by decide) (by decide) (by decide) ?_) ?_
  · intro o ho
    rw [List.mem_singleton] at ho
    subst ho
    exact ⟨goodA w0, rfl⟩
  rintro _ _ ⟨rfl, rfl⟩
  obtain ⟨s, hs, h1, h2⟩ := readA
  rw [hs]
  obtain ⟨sv, sf, sr, st, sc, sl⟩ := s
  simp only at h1 h2
  subst h1 h2
  clear hs
  conv => whnf
  refine ⟨fun _ => ?_, fun h => absurd h (by decide)⟩
  conv => whnf
  refine ⟨fun _ => ?_, fun h => absurd h (by decide)⟩
  conv => whnf
  refine ⟨fun _ => ?_, fun h => absurd h (by decide)⟩
  conv => whnf
  refine ⟨by decide, ?_⟩
  conv => whnf
  refine ⟨_, rfl, ?_⟩
  conv => whnf
  refine ⟨fun _ => ?_, fun h => absurd rfl (ieq_f h)⟩
  conv => whnf
  refine ⟨by decide, ?_⟩
  conv => whnf
  refine ⟨_, rfl, ?_⟩
  conv => whnf
  exact Or.inr ⟨[], .o (.c (.val (.bool true))), [], ⟨rfl, trivial, rfl⟩, rfl, rfl, rfl⟩
end Go.Proofs.YtkomikpfnogjcaaDoor
end
