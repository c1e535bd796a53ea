/- The reference's writer puts bytes out. -/
import Derived.Test.YtkomikpfnogjcaaRnG
import Derived.Test.YtkomikpfnogjcaaIrD
namespace Go.Proofs.Ytkomikpfnogjcaa
open Go Go.Vc
set_option maxRecDepth 100000

def EncS.rblk (e : EncS) (i j : Nat) : Blk := .cells 95 [.vec i e.buf.length, .vec j e.tail.length, .val (.int .u32 e.rng), .val (.int .u32 e.low), .val (.int .i64 e.rem), .val (.int .i64 e.ext), .val (.int .i64 e.total), .val (.int .u64 e.win), .val (.int .i64 e.nend)]
def EncS.RH (e : EncS) : List Blk := [e.rblk 1 2, byteBlk e.buf, byteBlk e.tail]
def EncS.RM (e : EncS) : List Blk := [e.rblk 3 4, .dead, .dead, byteBlk e.buf, byteBlk e.tail]
theorem EncS.rembM' {e : EncS} {H : List Blk} (i j : Nat) (h0 : H[0]? = some (e.rblk i j)) (hi : H[i]? = some (byteBlk e.buf)) (hj : H[j]? = some (byteBlk e.tail)) (hl : 3 ≤ H.length) (hn : nodupB [0, i, j] = true) : EmbH 3 [0, 1, 2, i, j] e.RM H :=
  ⟨rfl, ⟨h0, rfl, by omega, by omega, hi, rfl, hj, rfl, trivial⟩, hn⟩
theorem EncS.rembM {e : EncS} {H : List Blk} {e0 env : Env} (i j : Nat) (h0 : H[0]? = some (e.rblk i j)) (hi : H[i]? = some (byteBlk e.buf)) (hj : H[j]? = some (byteBlk e.tail)) (hl : 3 ≤ H.length) (hn : nodupB [0, i, j] = true) (he : embE [0, 1, 2, i, j] env e0) : EmbS 3 ⟨e0, e.RM⟩ ⟨env, H⟩ :=
  ⟨_, EncS.rembM' i j h0 hi hj hl hn, he⟩
theorem EncS.rfinM {e : EncS} {H : List Blk} (i j : Nat) (h0 : H[0]? = some (e.rblk i j)) (hi : H[i]? = some (byteBlk e.buf)) (hj : H[j]? = some (byteBlk e.tail)) (hl : 3 ≤ H.length) (hn : nodupB [0, i, j] = true) : Go.Vc.Fin 3 (fun r H => r = .t [] ∧ H = e.RM) (.t []) H :=
  Or.inr ⟨_, .t [], _, EncS.rembM' i j h0 hi hj hl hn, rfl, rfl, rfl⟩
theorem EncS.rblk_of {e : EncS} {i j n m : Nat} {w b r l x t k : Int} (h1 : n = e.buf.length) (h2 : m = e.tail.length) (h5 : r = e.rng) (h6 : l = e.low) (h7 : x = e.rem) (h8 : k = e.ext) (h9 : t = e.total) (h3 : w = e.win) (h4 : b = e.nend) :
    some (Blk.cells 95 [.vec i n, .vec j m, .val (.int .u32 r), .val (.int .u32 l), .val (.int .i64 x), .val (.int .i64 k), .val (.int .i64 t), .val (.int .u64 w), .val (.int .i64 b)]) = some (e.rblk i j) := by
  subst h1 h2 h3 h4 h5 h6 h7 h8 h9
  rfl
theorem EncS.RH_of {e : EncS} {n m : Nat} {w b r l x t k : Int} {xs ys : List Int} (h1 : n = e.buf.length) (h2 : m = e.tail.length) (h5 : r = e.rng) (h6 : l = e.low) (h7 : x = e.rem) (h8 : k = e.ext) (h9 : t = e.total) (h3 : w = e.win) (h4 : b = e.nend) (h10 : xs = e.buf) (h11 : ys = e.tail) :
    [Blk.cells 95 [.vec 1 n, .vec 2 m, .val (.int .u32 r), .val (.int .u32 l), .val (.int .i64 x), .val (.int .i64 k), .val (.int .i64 t), .val (.int .u64 w), .val (.int .i64 b)], byteBlk xs, byteBlk ys] = e.RH := by
  subst h1 h2 h3 h4 h5 h6 h7 h8 h9 h10 h11
  rfl

theorem rcarryW (w0 : World) (e : EncS) {N : Nat} (hN : N ≤ 1048576) (h : e.plain N) {v : Nat} (hv : v ≤ 511) : CallsA Try.prog w0 60 [.c (.ptr 0 0), .c (.val (.int .i64 v))] e.RH fun r H => r = .t [] ∧ H = (e.carry v).RM := by
  obtain ⟨r1, r2, hx⟩ := h
  have hpe := put1_ext e v
  have hpl := put1_len e v
  refine callsA_of_ev c60_ ?_
  conv => whnf
  refine Or.inl ?_
  conv => whnf
  refine ⟨fun h1 => ?_, fun h1 => ?_⟩
  · have h1 : v = 255 := beq_t h1
    subst h1
    conv => whnf
    refine EncS.rfinM 1 2 ?_ rfl rfl (Nat.le_of_ble_eq_true rfl) rfl
    rw [nadd, nwrapi (by omega)]
    rfl
  · have h1 : v ≠ 255 := beq_f h1
    have hcar : e.carry v = { (e.put1 v).put2 v e.ext with ext := 0, rem := (v % 256 : Nat) } := if_neg h1
    conv => whnf
    have hsh : ((v : Nat) : Int).fdiv (2 ^ min 8 IntKind.i64.bits) = ((v / 256 : Nat) : Int) := by rw [nshri _ _ (by omega)]
    rw [hsh]
    refine Or.inr ⟨Unit, fun _ => ⟨[(0, .o (.c (.ptr 0 0))), (1, .o (.c (.val (.int .i64 (v : Nat))))), (4, .o (.c (.val (.int .i64 (v / 256 : Nat)))))], (e.put1 v).RM⟩, ?_, fun _ => ?_⟩
    · conv => whnf
      refine ⟨fun h2 => ?_, fun h2 => ?_⟩
      · have h2 : (0 : Int) ≤ e.rem := of_decide_eq_true h2
        conv => whnf
        refine ⟨⟨⟨rfl, rfl⟩, trivial⟩, ?_⟩
        conv => whnf
        have hX : IntKind.u8.wrap (IntKind.i64.wrap (e.rem + ((v / 256 : Nat) : Int))) = (e.rem + (v / 256 : Nat)) % 256 := by
          rw [IntKind.wrap_i64, IntKind.wrap_u8]
          omega
        refine ⟨rfl, [(e.rem + (v / 256 : Nat)) % 256], ⟨rfl, rfl, congrArg (fun x => [CV.val (.int .u8 x)]) hX.symm⟩, by rw [List.length_append, List.length_singleton]; omega, by rw [List.length_append, List.length_singleton]; omega, ?_⟩
        conv => whnf
        refine ⟨trivial, ?_⟩
        conv => whnf
        refine ⟨trivial, ?_⟩
        conv => whnf
        have hp1 : e.put1 v = { e with buf := e.buf ++ [(e.rem + (v / 256 : Nat)) % 256] } := if_pos h2
        rw [hp1]
        exact ⟨(), EncS.rembM 4 2 rfl rfl rfl (Nat.le_of_ble_eq_true rfl) rfl ⟨rfl, rfl, rfl, trivial⟩⟩
      · have h2 : ¬ (0 : Int) ≤ e.rem := of_decide_eq_false h2
        have hp1 : e.put1 v = e := if_neg h2
        conv => whnf
        rw [hp1]
        exact ⟨(), EncS.rembM 1 2 rfl rfl rfl (Nat.le_of_ble_eq_true rfl) rfl ⟨rfl, rfl, rfl, trivial⟩⟩
    · generalize e.put1 v = f at *
      conv => whnf
      refine Or.inr ⟨Unit, fun _ => ⟨[(0, .o (.c (.ptr 0 0))), (1, .o (.c (.val (.int .i64 (v : Nat)))))], ({ f.put2 v e.ext with ext := 0 } : EncS).RM⟩, ?_, fun _ => ?_⟩
      · conv => whnf
        have hfl : IntKind.u8.wrap (IntKind.i64.wrap (((255 : Nat) : Int) + ((v / 256 : Nat) : Int))) = (((255 + v / 256) % 256 : Nat) : Int) := by
          rw [nadd, nwrapi (n := 255 + v / 256) (by omega), IntKind.wrap_u8]
          omega
        refine ⟨_root_.Fin (e.ext + 1), fun ⟨k, _⟩ => ⟨[(0, .o (.c (.ptr 0 0))), (1, .o (.c (.val (.int .i64 (v : Nat))))), (4, .o (.c (.val (.int .i64 (v / 256 : Nat)))))], ({ f.put2 v k with ext := e.ext - k } : EncS).RM⟩, fun k => e.ext - k.1, ⟨⟨0, by omega⟩, EncS.rembM 3 4 ?_ ?_ rfl (Nat.le_of_ble_eq_true rfl) rfl ⟨rfl, rfl, rfl, trivial⟩⟩, fun ⟨k, hk⟩ => ?_⟩
        · rw [put2_zero, Nat.sub_zero, ← hpe]
          rfl
        · rw [put2_zero]
          rfl
        · conv => whnf
          refine ⟨fun h5 => ?_, fun h5 => ?_⟩
          · have h5 : 0 < e.ext - k := gt_t h5
            conv => whnf
            rw [hfl]
            refine ⟨rfl, [(((255 + v / 256) % 256 : Nat) : Int)], ⟨rfl, rfl, rfl⟩, by rw [List.length_append, List.length_singleton, put2_len]; omega, by rw [List.length_append, List.length_singleton, put2_len]; omega, ?_⟩
            conv => whnf
            refine ⟨⟨k + 1, by omega⟩, EncS.rembM 6 4 ?_ ?_ rfl (Nat.le_of_ble_eq_true rfl) rfl ⟨rfl, rfl, rfl, trivial⟩, ?_⟩
            · rw [put2_succ]
              refine EncS.rblk_of rfl rfl rfl rfl rfl ?_ rfl rfl rfl
              show IntKind.i64.wrap (((e.ext - k : Nat) : Int) - ((1 : Nat) : Int)) = ((e.ext - (k + 1) : Nat) : Int)
              rw [nsub (by omega), nwrapi (by omega)]
              omega
            · rw [put2_succ]
              rfl
            · show e.ext - (k + 1) < e.ext - k
              omega
          · have h5 : e.ext - k ≤ 0 := gt_f h5
            obtain rfl : k = e.ext := by omega
            conv => whnf
            refine ⟨(), EncS.rembM 3 4 ?_ rfl rfl (Nat.le_of_ble_eq_true rfl) rfl ⟨rfl, rfl, trivial⟩⟩
            rw [Nat.sub_self]
            rfl
      · conv => whnf
        refine Or.inl ⟨rfl, ?_⟩
        rw [hcar, nandi (by omega) (by omega), show (255 : Nat) = 2 ^ 8 - 1 by rfl, nand_mask]
        rfl
end Go.Proofs.Ytkomikpfnogjcaa
