/- The reference writes raw bits, and a number by Laplace's shares. -/
import Derived.Test.YtkomikpfnogjcaaRoB
import Derived.Test.YtkomikpfnogjcaaRmF
namespace Go.Proofs.Ytkomikpfnogjcaa
open Go Go.Vc
set_option maxRecDepth 100000

theorem rawIter_total (f : EncS) (t : Nat) : ∀ k, { f.rawIter k with total := t } = ({ f with total := t } : EncS).rawIter k
  | 0 => rfl
  | k + 1 => by
    have h := rawIter_total f t k
    show _ = (EncS.rawIter _ k).rawStep
    rw [← h]
    rfl
theorem EncS.raw_rinv {e : EncS} {N n v : Nat} (h : e.rinv N) (hn : n ≤ 25) : (e.raw n v).rinv (N + 1) := by
  have hnend := h.ok.nend
  obtain ⟨a, b, c, d, f, g, i, j, l⟩ := EncS.rawIter_facts (e.rawTop n v) ((e.nend + n) / 8) (by show 8 * _ ≤ e.nend + n; omega)
  have hw := EncS.rawTop_win (v := v) (n := n) h.ok.win
  have e1 : (e.rawTop n v).nend = e.nend + n := rfl
  have e2 : (e.rawTop n v).total = e.total + n := rfl
  have e3 : (e.rawTop n v).tail = e.tail := rfl
  have h3 := h.ok.total
  have h4 := h.ok.tail
  have h5 := h.ok.plain
  rw [e1] at a
  rw [e2] at b
  rw [e3] at c
  refine ⟨⟨?_, ?_, ?_, ?_, ?_, ?_, ?_, ?_, ?_⟩, ?_⟩
  · show -1 ≤ (EncS.rawIter _ _).rem ∧ (EncS.rawIter _ _).rem < 256 ∧ (EncS.rawIter _ _).ext + (EncS.rawIter _ _).buf.length ≤ _
    rw [j, f, l]
    exact ⟨h5.1, h5.2.1, by have := h5.2.2; show e.ext + e.buf.length ≤ _; omega⟩
  · show 1 ≤ (EncS.rawIter _ _).rng
    rw [g]
    exact h.ok.lo
  · show (EncS.rawIter _ _).rng ≤ _
    rw [g]
    exact h.ok.hi
  · show (EncS.rawIter _ _).low < _
    rw [i]
    exact h.ok.low
  · show (EncS.rawIter _ _).total ≤ _
    omega
  · show (EncS.rawIter _ _).win < 2 ^ (EncS.rawIter _ _).nend
    rw [d, a, Nat.div_lt_iff_lt_mul (Nat.pow_pos (by omega)), show (256 : Nat) = 2 ^ 8 by rfl, ← Nat.pow_mul, ← Nat.pow_add, show e.nend + n - 8 * ((e.nend + n) / 8) + 8 * ((e.nend + n) / 8) = e.nend + n by omega]
    exact hw
  · show (EncS.rawIter _ _).nend ≤ 7
    omega
  · show (EncS.rawIter _ _).tail.length ≤ _
    omega
  · show 33 ≤ (EncS.rawIter _ _).total
    have := h.ok.tlo
    omega
  · show _ < (EncS.rawIter _ _).rng
    rw [g]
    exact h.big
theorem rrawW (w0 : World) (e : EncS) {N : Nat} (hN : N ≤ 1048500) (h : e.rinv N) {n v : Nat} (hn : n ≤ 25) (hv : v < 2 ^ n) :
    CallsA Try.prog w0 57 [.c (.ptr 0 0), .c (.val (.int .u32 v)), .c (.val (.int .i64 n))] e.RH fun r H => r = .t [] ∧ H = (e.raw n v).RM := by
  have hnend := h.ok.nend
  have htot := h.ok.total
  have htail := h.ok.tail
  have hwin := h.ok.win
  have hp : 2 ^ n ≤ 2 ^ 25 := Nat.pow_le_pow_right (by omega) hn
  have hvm : v % 2 ^ n = v := Nat.mod_eq_of_lt hv
  have hw2 := EncS.rawTop_win (v := v) (n := n) hwin
  have hp3 : 2 ^ (e.nend + n) ≤ 2 ^ 32 := Nat.pow_le_pow_right (by omega) (by omega)
  have hw3 : e.win + v % 2 ^ n * 2 ^ e.nend < 2 ^ (e.nend + n) := hw2
  have hpn : 2 ^ e.nend ≤ 2 ^ 7 := Nat.pow_le_pow_right (by omega) hnend
  have hfin : ∀ k, { ({ e.rawTop n v with total := e.total } : EncS).rawIter k with total := e.total + n } = (e.rawTop n v).rawIter k := by
    intro k
    rw [rawIter_total]
    rfl
  have hwt : (e.rawTop n v).win = e.win + v % 2 ^ n * 2 ^ e.nend := rfl
  have hraw : e.raw n v = (e.rawTop n v).rawIter ((e.nend + n) / 8) := rfl
  have hb0 : ({ e.rawTop n v with total := e.total } : EncS).nend = e.nend + n ∧ ({ e.rawTop n v with total := e.total } : EncS).total = e.total ∧ ({ e.rawTop n v with total := e.total } : EncS).tail = e.tail ∧ ({ e.rawTop n v with total := e.total } : EncS).buf = e.buf ∧ ({ e.rawTop n v with total := e.total } : EncS).win = e.win + v % 2 ^ n * 2 ^ e.nend := ⟨rfl, rfl, rfl, rfl, rfl⟩
  have hblk : ∀ {w b : Int}, w = ((e.win + v % 2 ^ n * 2 ^ e.nend : Nat) : Int) → b = ((e.nend + n : Nat) : Int) → some (Blk.cells 95 [.vec 1 e.buf.length, .vec 2 e.tail.length, .val (.int .u32 e.rng), .val (.int .u32 e.low), .val (.int .i64 e.rem), .val (.int .i64 e.ext), .val (.int .i64 e.total), .val (.int .u64 w), .val (.int .i64 b)]) = some (({ e.rawTop n v with total := e.total } : EncS).rblk 1 2) := by
    rintro _ _ rfl rfl
    rfl
  rw [hraw]
  clear hraw
  generalize ({ e.rawTop n v with total := e.total } : EncS) = f0 at *
  obtain ⟨b1, b2, b3, b4, b5⟩ := hb0
  refine callsA_of_ev c57_ ?_
  conv => whnf
  rw [nwrap64 (n := v) (by omega)]
  refine ⟨by omega, ?_⟩
  conv => whnf
  refine ⟨trivial, ?_⟩
  conv => whnf
  refine Or.inr ⟨Unit, fun _ => ⟨[(0, .o (.c (.ptr 0 0))), (2, .o (.c (.val (.int .i64 n))))], (f0.rawIter ((e.nend + n) / 8)).RM⟩, ?_, fun _ => ?_⟩
  · conv => whnf
    refine ⟨_root_.Fin ((e.nend + n) / 8 + 1), fun ⟨k, _⟩ => ⟨[(0, .o (.c (.ptr 0 0))), (2, .o (.c (.val (.int .i64 n))))], (f0.rawIter k).RM⟩, fun k => (e.nend + n) / 8 - k.1, ⟨⟨0, by omega⟩, EncS.rembM 1 2 (hblk ?_ ?_) (by show some (byteBlk e.buf) = some (byteBlk f0.buf); rw [b4]) (by show some (byteBlk e.tail) = some (byteBlk f0.tail); rw [b3]) (Nat.le_of_ble_eq_true rfl) rfl ⟨rfl, rfl, trivial⟩⟩, fun ⟨k, hk⟩ => ?_⟩
    · rw [hvm, nshlv64 _ _ (by omega), nwrap64 (n := v * 2 ^ e.nend) (by rw [hvm] at hw3; omega), nor64 (by omega) (by rw [hvm] at hw3; omega), Nat.or_comm, nor_add hwin, Nat.add_comm]
    · rw [nadd, nwrapi (by omega)]
    · obtain ⟨a, b, c, d, f, g, i, j, l⟩ := EncS.rawIter_facts f0 k (by omega)
      have hst : f0.rawIter (k + 1) = (f0.rawIter k).rawStep := rfl
      have hwk : (f0.rawIter k).win < 4294967296 := by
        rw [d, b5]
        exact Nat.lt_of_le_of_lt (Nat.div_le_self _ _) (by omega)
      rw [b1] at a
      rw [b3] at c
      have hkk : k = (e.nend + n) / 8 → f0.rawIter k = f0.rawIter ((e.nend + n) / 8) := fun hk => by rw [hk]
      conv => whnf
      generalize f0.rawIter k = q at *
      refine ⟨fun c2 => ?_, fun c2 => ?_⟩
      · have c2 := ge_t c2
        conv => whnf
        have hb : IntKind.u8.wrap ((q.win : Nat) : Int) = ((q.win % 256 : Nat) : Int) := by
          rw [IntKind.wrap_u8]
          omega
        rw [hb]
        refine ⟨⟨⟨rfl, rfl⟩, trivial⟩, ?_⟩
        conv => whnf
        refine ⟨rfl, [((q.win % 256 : Nat) : Int)], ⟨rfl, rfl, rfl⟩, by rw [List.length_append, List.length_singleton]; omega, by rw [List.length_append, List.length_singleton]; omega, ?_⟩
        conv => whnf
        refine ⟨trivial, ?_⟩
        conv => whnf
        refine ⟨trivial, ?_⟩
        conv => whnf
        refine ⟨⟨k + 1, by omega⟩, EncS.rembM 3 6 (hst ▸ EncS.rblk_of (e := q.rawStep) rfl rfl rfl rfl rfl rfl rfl ?_ ?_) (by rw [hst]; rfl) (by rw [hst]; rfl) (Nat.le_of_ble_eq_true rfl) rfl ⟨rfl, rfl, trivial⟩, ?_⟩
        · show (e.nend + n) / 8 - (k + 1) < (e.nend + n) / 8 - k
          omega
        · show _ = ((q.win / 256 : Nat) : Int)
          rw [nshr64 _ _ (by omega)]
        · show IntKind.i64.wrap _ = ((q.nend - 8 : Nat) : Int)
          rw [nsub (by omega), nwrapi (by omega)]
      · have c2 := ge_f c2
        rw [← hkk (by omega)]
        conv => whnf
        exact ⟨(), EncS.rembM 3 4 rfl rfl rfl (Nat.le_of_ble_eq_true rfl) rfl ⟨rfl, rfl, trivial⟩⟩
  · obtain ⟨a, b, _⟩ := EncS.rawIter_facts f0 ((e.nend + n) / 8) (by omega)
    rw [b2] at b
    rw [← hfin]
    generalize f0.rawIter ((e.nend + n) / 8) = q at *
    conv => whnf
    refine EncS.rfinM 3 4 (EncS.rblk_of rfl rfl rfl rfl rfl rfl ?_ rfl rfl) rfl rfl (Nat.le_of_ble_eq_true rfl) rfl
    show IntKind.i64.wrap _ = ((e.total + n : Nat) : Int)
    rw [b, nadd, nwrapi (by omega)]
end Go.Proofs.Ytkomikpfnogjcaa
