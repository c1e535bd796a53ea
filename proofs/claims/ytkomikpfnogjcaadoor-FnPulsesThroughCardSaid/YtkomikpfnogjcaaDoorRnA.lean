/- The encoder puts bytes out, with carries. -/
import Derived.Test.YtkomikpfnogjcaaDoorRmC
import Derived.Test.YtkomikpfnogjcaaDoorIrA
namespace Go.Proofs.YtkomikpfnogjcaaDoor
open Go Go.Vc
set_option maxRecDepth 100000

/-- The state behind any function that may put bytes out: where its blocks lie does not matter. -/
def EncS.M (e : EncS) : List Blk := [e.blk 3 4, .dead, .dead, byteBlk e.buf, byteBlk e.tail]
theorem EncS.embM' {e : EncS} {H : List Blk} (i j : Nat) (h0 : H[0]? = some (e.blk i j)) (hi : H[i]? = some (byteBlk e.buf)) (hj : H[j]? = some (byteBlk e.tail)) (hl : 3 ≤ H.length) (hn : nodupB [0, i, j] = true) : EmbH 3 [0, 1, 2, i, j] e.M H :=
  ⟨rfl, ⟨h0, rfl, by omega, by omega, hi, rfl, hj, rfl, trivial⟩, hn⟩
theorem EncS.embM {e : EncS} {H : List Blk} {e0 env : Env} (i j : Nat) (h0 : H[0]? = some (e.blk i j)) (hi : H[i]? = some (byteBlk e.buf)) (hj : H[j]? = some (byteBlk e.tail)) (hl : 3 ≤ H.length) (hn : nodupB [0, i, j] = true) (he : embE [0, 1, 2, i, j] env e0) : EmbS 3 ⟨e0, e.M⟩ ⟨env, H⟩ :=
  ⟨_, EncS.embM' i j h0 hi hj hl hn, he⟩
theorem EncS.finM {e : EncS} {H : List Blk} (i j : Nat) (h0 : H[0]? = some (e.blk i j)) (hi : H[i]? = some (byteBlk e.buf)) (hj : H[j]? = some (byteBlk e.tail)) (hl : 3 ≤ H.length) (hn : nodupB [0, i, j] = true) : Go.Vc.Fin 3 (fun r H => r = .t [] ∧ H = e.M) (.t []) H :=
  Or.inr ⟨_, .t [], _, EncS.embM' i j h0 hi hj hl hn, rfl, rfl, rfl⟩

theorem EncS.blk_of {e : EncS} {i j n m : Nat} {w b r l x t k : Int} (h1 : n = e.buf.length) (h2 : m = e.tail.length) (h3 : w = e.win) (h4 : b = e.nend) (h5 : r = e.rng) (h6 : l = e.low) (h7 : x = e.rem) (h8 : k = e.ext) (h9 : t = e.total) :
    some (Blk.cells 47 [.vec i n, .vec j m, .val (.int .u64 w), .val (.int .u64 b), .val (.int .u32 r), .val (.int .u32 l), .val (.int .i64 x), .val (.int .i64 k), .val (.int .u64 t)]) = some (e.blk i j) := by
  subst h1 h2 h3 h4 h5 h6 h7 h8 h9
  rfl
/-- A byte with its carry: what waits is put out. -/
def EncS.put1 (e : EncS) (v : Nat) : EncS := if 0 ≤ e.rem then { e with buf := e.buf ++ [(e.rem + (v / 256 : Nat)) % 256] } else e
def EncS.put2 (e : EncS) (v k : Nat) : EncS := { e with buf := e.buf ++ List.replicate k (((255 + v / 256) % 256 : Nat) : Int) }
def EncS.carry (e : EncS) (v : Nat) : EncS :=
  if v = 255 then { e with ext := e.ext + 1 }
  else { (e.put1 v).put2 v e.ext with ext := 0, rem := (v % 256 : Nat) }
def EncS.plain (e : EncS) (N : Nat) : Prop := -1 ≤ e.rem ∧ e.rem < 256 ∧ e.ext + e.buf.length ≤ N
theorem EncS.carry_plain {e : EncS} {N v : Nat} (h : e.plain N) : (e.carry v).plain (N + 1) := by
  obtain ⟨h1, h2, h3⟩ := h
  unfold EncS.carry EncS.put2 EncS.put1
  by_cases hv : v = 255
  · rw [if_pos hv]
    exact ⟨h1, h2, by show e.ext + 1 + e.buf.length ≤ N + 1; omega⟩
  · rw [if_neg hv]
    refine ⟨by show -1 ≤ ((v % 256 : Nat) : Int); omega, by show ((v % 256 : Nat) : Int) < 256; omega, ?_⟩
    by_cases hr : 0 ≤ e.rem
    · rw [if_pos hr]
      show 0 + ((e.buf ++ _) ++ List.replicate e.ext _).length ≤ N + 1
      simp only [List.length_append, List.length_replicate, List.length_singleton]
      omega
    · rw [if_neg hr]
      show 0 + (e.buf ++ List.replicate e.ext _).length ≤ N + 1
      simp only [List.length_append, List.length_replicate]
      omega
theorem put1_ext (e : EncS) (v : Nat) : (e.put1 v).ext = e.ext := by unfold EncS.put1; split <;> rfl
theorem put1_rem (e : EncS) (v : Nat) : (e.put1 v).rem = e.rem := by unfold EncS.put1; split <;> rfl
theorem put1_len (e : EncS) (v : Nat) : (e.put1 v).buf.length ≤ e.buf.length + 1 := by
  unfold EncS.put1
  split
  · show (e.buf ++ _).length ≤ _
    simp
  · omega

theorem put2_zero (f : EncS) (v : Nat) : f.put2 v 0 = f := by
  unfold EncS.put2
  rw [List.replicate_zero, List.append_nil]
theorem put2_len (f : EncS) (v k : Nat) : (f.put2 v k).buf.length = f.buf.length + k := by
  unfold EncS.put2
  rw [List.length_append, List.length_replicate]
theorem put2_succ (f : EncS) (v k : Nat) : f.put2 v (k + 1) = { f with buf := (f.put2 v k).buf ++ [(((255 + v / 256) % 256 : Nat) : Int)] } := by
  unfold EncS.put2
  rw [List.replicate_succ', ← List.append_assoc]
theorem carryW (w0 : World) (e : EncS) {N : Nat} (hN : N ≤ 1048576) (h : e.plain N) {v : Nat} (hv : v ≤ 511) : CallsA Tryd.prog w0 44 [.c (.ptr 0 0), .c (.val (.int .i64 v))] e.H fun r H => r = .t [] ∧ H = (e.carry v).M := by
  obtain ⟨r1, r2, hx⟩ := h
  have hpe := put1_ext e v
  have hpr := put1_rem e v
  have hpl := put1_len e v
  refine callsA_of_ev c44_ ?_
  conv => whnf
  refine Or.inl ?_
  conv => whnf
  refine ⟨fun h1 => ?_, fun h1 => ?_⟩
  · have h1 := bne_t h1
    have hcar : e.carry v = { (e.put1 v).put2 v e.ext with ext := 0, rem := (v % 256 : Nat) } := if_neg h1
    conv => whnf
    have hsh : ((v : Nat) : Int).fdiv (2 ^ min 8 IntKind.i64.bits) = ((v / 256 : Nat) : Int) := by rw [nshri _ _ (by omega)]
    rw [hsh]
    refine Or.inr ⟨Unit, fun _ => ⟨[(0, .o (.c (.ptr 0 0))), (1, .o (.c (.val (.int .i64 (v : Nat))))), (4, .o (.c (.val (.int .i64 (v / 256 : Nat)))))], (e.put1 v).M⟩, ?_, fun _ => ?_⟩
    · conv => whnf
      refine ⟨fun h2 => ?_, fun h2 => ?_⟩
      · have h2 : (0 : Int) ≤ e.rem := of_decide_eq_true h2
        conv => whnf
        refine ⟨⟨⟨rfl, rfl⟩, trivial⟩, ?_⟩
        conv => whnf
        have hX : IntKind.u8.wrap (IntKind.i64.wrap (e.rem + ((v / 256 : Nat) : Int))) = (e.rem + (v / 256 : Nat)) % 256 := by
          rw [IntKind.wrap_i64, IntKind.wrap_u8]
          omega
        refine ⟨rfl, [(e.rem + (v / 256 : Nat)) % 256], ⟨rfl, rfl, congrArg (fun x => [CV.val (.int .u8 x)]) hX.symm⟩, by rw [List.length_append, List.length_singleton]; omega, by rw [List.length_append, List.length_singleton]; omega, ?_⟩
        conv => whnf
        refine ⟨trivial, ?_⟩
        conv => whnf
        refine ⟨trivial, ?_⟩
        conv => whnf
        have hp1 : e.put1 v = { e with buf := e.buf ++ [(e.rem + (v / 256 : Nat)) % 256] } := if_pos h2
        rw [hp1]
        exact ⟨(), EncS.embM 4 2 rfl rfl rfl (Nat.le_of_ble_eq_true rfl) rfl ⟨rfl, rfl, rfl, trivial⟩⟩
      · have h2 : ¬ (0 : Int) ≤ e.rem := of_decide_eq_false h2
        have hp1 : e.put1 v = e := if_neg h2
        conv => whnf
        rw [hp1]
        exact ⟨(), EncS.embM 1 2 rfl rfl rfl (Nat.le_of_ble_eq_true rfl) rfl ⟨rfl, rfl, rfl, trivial⟩⟩
    · generalize e.put1 v = f at *
      conv => whnf
      refine Or.inr ⟨Unit, fun _ => ⟨[(0, .o (.c (.ptr 0 0))), (1, .o (.c (.val (.int .i64 (v : Nat)))))], ({ f.put2 v e.ext with ext := 0 } : EncS).M⟩, ?_, fun _ => ?_⟩
      · conv => whnf
        refine ⟨fun h2 => ?_, fun h2 => ?_⟩
        · have h2 := gt_t h2
          conv => whnf
          refine Or.inl ?_
          conv => whnf
          have hfl : IntKind.u8.wrap (IntKind.i64.wrap ((BitVec.ofInt IntKind.i64.bits (IntKind.i64.wrap (((255 : Nat) : Int) + ((v / 256 : Nat) : Int))) &&& BitVec.ofInt IntKind.i64.bits ((255 : Nat) : Int)).toNat : Nat)) = (((255 + v / 256) % 256 : Nat) : Int) := by
            rw [nadd, nwrapi (n := 255 + v / 256) (by omega), nandi (by omega) (by omega), show (255 + v / 256) &&& 255 = (255 + v / 256) % 256 from nand_mask _ 8, nwrap8 (by omega)]
          refine ⟨_root_.Fin (e.ext + 1), fun ⟨k, _⟩ => ⟨[(0, .o (.c (.ptr 0 0))), (1, .o (.c (.val (.int .i64 (v : Nat))))), (5, .o (.c (.val (.int .u8 ((255 + v / 256) % 256 : Nat))))), (43, .o (.c (.val (.int .i64 (e.ext : Nat))))), (44, .o (.c (.val (.int .i64 (k : Nat)))))], (f.put2 v k).M⟩, fun k => e.ext - k.1, ⟨⟨0, by omega⟩, EncS.embM 3 4 ?_ ?_ rfl (Nat.le_of_ble_eq_true rfl) rfl ⟨rfl, rfl, ?_, ?_, rfl, trivial⟩⟩, fun ⟨k, hk⟩ => ?_⟩
          · rw [put2_zero]
            rfl
          · rw [put2_zero]
            rfl
          · exact eq_u8 hfl
          · rw [hpe]
            rfl
          · conv => whnf
            refine ⟨fun h5 => ?_, fun h5 => ?_⟩
            · have h5 := lt_t h5
              conv => whnf
              refine ⟨rfl, [(((255 + v / 256) % 256 : Nat) : Int)], ⟨rfl, rfl, rfl⟩, by rw [List.length_append, List.length_singleton, put2_len]; omega, by rw [List.length_append, List.length_singleton, put2_len]; omega, ?_⟩
              conv => whnf
              refine ⟨⟨k + 1, by omega⟩, EncS.embM 6 4 ?_ ?_ rfl (Nat.le_of_ble_eq_true rfl) rfl ⟨rfl, rfl, rfl, rfl, ?_, trivial⟩, ?_⟩
              · rw [put2_succ]
                rfl
              · rw [put2_succ]
                rfl
              · refine eq_i64 ?_
                rw [nadd, nwrapi (by omega)]
              · show e.ext - (k + 1) < e.ext - k
                omega
            · have h5 := lt_f h5
              obtain rfl : k = e.ext := by omega
              conv => whnf
              exact ⟨(), EncS.embM 3 4 rfl rfl rfl (Nat.le_of_ble_eq_true rfl) rfl ⟨rfl, rfl, trivial⟩⟩
        · have h2 := gt_f h2
          have h0 : e.ext = 0 := by omega
          have hf0 : ({ f.put2 v e.ext with ext := 0 } : EncS) = f := by
            rw [h0, put2_zero]
            obtain ⟨_, _, _, _, _, _, _, _, _⟩ := f
            simp only at hpe
            rw [hpe, h0]
          conv => whnf
          rw [hf0]
          exact ⟨(), EncS.embM 3 4 rfl rfl rfl (Nat.le_of_ble_eq_true rfl) rfl ⟨rfl, rfl, trivial⟩⟩
      · conv => whnf
        refine Or.inl ⟨rfl, ?_⟩
        rw [hcar, nandi (by omega) (by omega), show (255 : Nat) = 2 ^ 8 - 1 by rfl, nand_mask]
        rfl
  · have h1 : v = 255 := bne_f h1
    subst h1
    conv => whnf
    refine EncS.finM 1 2 ?_ rfl rfl (Nat.le_of_ble_eq_true rfl) rfl
    rw [nadd, nwrapi (by omega)]
    rfl
end Go.Proofs.YtkomikpfnogjcaaDoor
