/- The encoder writes a symbol by a table, and raw bits. -/
import Derived.Test.YtkomikpfnogjcaaDoorRnC
namespace Go.Proofs.YtkomikpfnogjcaaDoor
open Go Go.Vc
set_option maxRecDepth 100000

/-- Behind one more block. -/
def EncS.M4 (e : EncS) (K : Blk) : List Blk := [e.blk 4 5, .dead, .dead, K, byteBlk e.buf, byteBlk e.tail]
def EncS.tab (e : EncS) (total : Nat) (rest : List Nat) (k : Nat) : EncS := e.cum (tabLow rest k) (rest.getD k 0) total
theorem encIcdf (w0 : World) (e : EncS) {N : Nat} (hN : N ≤ 1048500) (h : e.inv N) {total : Nat} {rest : List Nat} (h1 : total ≤ 256) (h2 : rest.length ≤ 65536) (h3 : ∀ x ∈ rest, x ≤ total) {k : Nat} (hk : k < rest.length) :
    CallsA Tryd.prog w0 52 [.c (.ptr 0 0), .c (.vec 3 (rest.length + 1)), .c (.val (.int .u32 k))] (e.H ++ [tabBlk total rest]) fun r H => r = .t [] ∧ H = (e.tab total rest k).M4 (tabBlk total rest) := by
  have hge : ∀ i, i < rest.length → rest[i]? = some (rest.getD i 0) ∧ rest.getD i 0 ≤ total := by
    intro i hi
    have hg : rest[i]? = some rest[i] := List.getElem?_eq_getElem hi
    rw [List.getD_eq_getElem?_getD, hg]
    exact ⟨rfl, h3 _ (List.getElem_mem hi)⟩
  have hidx : ∀ i : Nat, 1 + ((i : Nat) : Int).toNat = i + 1 := fun i => by omega
  have hfin : ∀ lo hi n : Int, lo = (tabLow rest k : Nat) → hi = (rest.getD k 0 : Nat) → n = (total : Nat) → CallsA Tryd.prog w0 37 [.c (.ptr 0 0), .c (.val (.int .u32 lo)), .c (.val (.int .u32 hi)), .c (.val (.int .u32 n))] (e.H ++ [tabBlk total rest]) fun r H => r = .t [] ∧ H = (e.tab total rest k).M4 (tabBlk total rest) := by
    rintro _ _ _ rfl rfl rfl
    have hl1 := (hge k hk).2
    have hl2 : tabLow rest k ≤ total := by
      unfold tabLow
      split
      · omega
      · exact (hge (k - 1) (by omega)).2
    refine CallsA.lift (H0 := e.H) [0, 1, 2] rfl ⟨rfl, rfl, rfl, rfl, rfl, rfl, trivial⟩ rfl (cumW w0 e hN h (lo := tabLow rest k) (hi := rest.getD k 0) (n := total) (by omega) (by omega) (by omega)) ?_
    rintro _ _ ⟨rfl, rfl⟩
    exact ⟨rfl, rfl⟩
  refine callsA_of_ev c52_ ?_
  conv => whnf
  refine Or.inl ?_
  conv => whnf
  refine ⟨fun c1 => absurd (lt_t c1) (by omega), fun _ => ?_⟩
  conv => whnf
  refine ⟨by omega, ?_⟩
  conv => whnf
  refine ⟨_, rfl, ?_⟩
  conv => whnf
  refine ⟨by omega, Or.inl ⟨fun c hc1 hc2 => ?_, fun hl => ?_, fun hl => ?_⟩⟩
  · conv => whnf
    refine Or.inl ?_
    conv => whnf
    have hL : (((rest.length + 1 : Nat) : Int)).toNat - (((1 : Nat) : Int)).toNat = rest.length := by omega
    rw [hL, nwrapi (n := k) (by omega), nwrap32 (n := total) (by omega)]
    refine ⟨fun c2 => absurd (ge_t c2) (by omega), fun _ => ?_⟩
    conv => whnf
    refine ⟨by omega, ?_⟩
    conv => whnf
    refine ⟨_, tab_get (hge k hk).1 (hidx k), ?_⟩
    have hle := (hge k hk).2
    conv => whnf
    refine Or.inl ?_
    conv => whnf
    refine ⟨fun c3 => ?_, fun c3 => ?_⟩
    · have c3 : k ≠ 0 := bne_t c3
      have hle2 := (hge (k - 1) (by omega)).2
      conv => whnf
      rw [nsub (a := k) (b := 1) (by omega), nwrap32 (n := k - 1) (by omega)]
      refine ⟨by omega, ?_⟩
      conv => whnf
      refine ⟨_, tab_get (hge (k - 1) (by omega)).1 (hidx (k - 1)), ?_⟩
      conv => whnf
      refine (hfin _ _ _ ?_ ?_ ?_).mono ?_
      · rw [nwrap32 (by omega)]
        unfold tabLow
        rw [if_neg c3]
      · rw [nwrap32 (by omega)]
      · rfl
      · rintro _ _ ⟨rfl, rfl⟩
        conv => whnf
        exact Or.inl ⟨rfl, rfl⟩
    · have c3 : k = 0 := bne_f c3
      conv => whnf
      refine (hfin _ _ _ ?_ ?_ ?_).mono ?_
      · unfold tabLow
        rw [if_pos c3]
      · rw [nwrap32 (by omega)]
      · rfl
      · rintro _ _ ⟨rfl, rfl⟩
        conv => whnf
        exact Or.inl ⟨rfl, rfl⟩
  · have : ((1 : Nat) : Int) = ((rest.length + 1 : Nat) : Int) := hl
    omega
  · omega

/-- Raw bits. -/
def EncS.rawTop (e : EncS) (n v : Nat) : EncS := { e with win := e.win + v % 2 ^ n * 2 ^ e.nend, nend := e.nend + n, total := e.total + n }
def EncS.rawStep (e : EncS) : EncS := { e with tail := e.tail ++ [((e.win % 256 : Nat) : Int)], win := e.win / 256, nend := e.nend - 8 }
def EncS.rawIter (e : EncS) : Nat → EncS
  | 0 => e
  | k + 1 => (e.rawIter k).rawStep
def EncS.raw (e : EncS) (n v : Nat) : EncS := (e.rawTop n v).rawIter ((e.nend + n) / 8)
theorem EncS.rawIter_facts (e : EncS) : ∀ k, 8 * k ≤ e.nend → (e.rawIter k).nend = e.nend - 8 * k ∧ (e.rawIter k).total = e.total ∧ (e.rawIter k).tail.length = e.tail.length + k ∧ (e.rawIter k).win = e.win / 256 ^ k ∧ (e.rawIter k).buf = e.buf ∧ (e.rawIter k).rng = e.rng ∧ (e.rawIter k).low = e.low ∧ (e.rawIter k).rem = e.rem ∧ (e.rawIter k).ext = e.ext
  | 0, _ => ⟨rfl, rfl, rfl, by simp [EncS.rawIter], rfl, rfl, rfl, rfl, rfl⟩
  | k + 1, hk => by
    obtain ⟨a, b, c, d, f, g, i, j, l⟩ := EncS.rawIter_facts e k (by omega)
    refine ⟨?_, b, ?_, ?_, f, g, i, j, l⟩
    · show (e.rawIter k).nend - 8 = _
      omega
    · show ((e.rawIter k).tail ++ _).length = _
      rw [List.length_append, List.length_singleton]
      omega
    · show (e.rawIter k).win / 256 = _
      rw [d, Nat.div_div_eq_div_mul, ← Nat.pow_succ]
theorem EncS.rawTop_win {e : EncS} {n v : Nat} (h : e.win < 2 ^ e.nend) : (e.rawTop n v).win < 2 ^ (e.nend + n) := by
  show e.win + v % 2 ^ n * 2 ^ e.nend < _
  have hv : v % 2 ^ n < 2 ^ n := Nat.mod_lt _ (Nat.two_pow_pos n)
  have := Nat.mul_le_mul_right (2 ^ e.nend) (show v % 2 ^ n + 1 ≤ 2 ^ n from hv)
  rw [Nat.add_mul, Nat.one_mul] at this
  rw [Nat.pow_add, Nat.mul_comm (2 ^ e.nend)]
  omega
theorem EncS.rawIter_bytes {e : EncS} (h : ∀ x ∈ e.tail, 0 ≤ x ∧ x < 256) : ∀ k, ∀ x ∈ (e.rawIter k).tail, 0 ≤ x ∧ x < 256
  | 0, x, hx => h x hx
  | k + 1, x, hx => by
    have hx : x ∈ (e.rawIter k).tail ++ [(((e.rawIter k).win % 256 : Nat) : Int)] := hx
    rcases List.mem_append.1 hx with hx | hx
    · exact EncS.rawIter_bytes h k x hx
    · rw [List.mem_singleton.1 hx]
      omega
theorem EncS.raw_inv {e : EncS} {N n v : Nat} (h : e.inv N) (hn : n ≤ 25) : (e.raw n v).inv (N + 1) := by
  have hnend := h.ok.nend
  obtain ⟨a, b, c, d, f, g, i, j, l⟩ := EncS.rawIter_facts (e.rawTop n v) ((e.nend + n) / 8) (by show 8 * _ ≤ e.nend + n; omega)
  have hw := EncS.rawTop_win (v := v) (n := n) h.ok.win
  have e1 : (e.rawTop n v).nend = e.nend + n := rfl
  have e2 : (e.rawTop n v).total = e.total + n := rfl
  have e3 : (e.rawTop n v).tail = e.tail := rfl
  have h3 := h.ok.total
  have h4 := h.ok.tail
  have h5 := h.ok.plain
  rw [e1] at a
  rw [e2] at b
  rw [e3] at c
  refine ⟨⟨?_, ?_, ?_, ?_, ?_, ?_, ?_, ?_, ?_, EncS.rawIter_bytes (e := e.rawTop n v) h.ok.tb _⟩, ?_⟩
  · show -1 ≤ (EncS.rawIter _ _).rem ∧ (EncS.rawIter _ _).rem < 256 ∧ (EncS.rawIter _ _).ext + (EncS.rawIter _ _).buf.length ≤ _
    rw [j, f, l]
    exact ⟨h5.1, h5.2.1, by have := h5.2.2; show e.ext + e.buf.length ≤ _; omega⟩
  · show 1 ≤ (EncS.rawIter _ _).rng
    rw [g]
    exact h.ok.lo
  · show (EncS.rawIter _ _).rng ≤ _
    rw [g]
    exact h.ok.hi
  · show (EncS.rawIter _ _).low + (EncS.rawIter _ _).rng ≤ _
    rw [g, i]
    exact h.ok.low
  · show (EncS.rawIter _ _).total ≤ _
    omega
  · show (EncS.rawIter _ _).win < 2 ^ (EncS.rawIter _ _).nend
    rw [d, a, Nat.div_lt_iff_lt_mul (Nat.pow_pos (by omega)), show (256 : Nat) = 2 ^ 8 by rfl, ← Nat.pow_mul, ← Nat.pow_add, show e.nend + n - 8 * ((e.nend + n) / 8) + 8 * ((e.nend + n) / 8) = e.nend + n by omega]
    exact hw
  · show (EncS.rawIter _ _).nend ≤ 7
    omega
  · show (EncS.rawIter _ _).tail.length ≤ _
    omega
  · show ∀ x ∈ (EncS.rawIter _ _).buf, _
    rw [f]
    exact h.ok.bb
  · show _ < (EncS.rawIter _ _).rng
    rw [g]
    exact h.big
theorem EncS.raw_zero {e : EncS} {v : Nat} (h : e.nend ≤ 7) : e.raw 0 v = e := by
  have : (e.nend + 0) / 8 = 0 := by omega
  unfold EncS.raw
  rw [this]
  show e.rawTop 0 v = e
  unfold EncS.rawTop
  rw [Nat.pow_zero, Nat.mod_one, Nat.zero_mul]
  rfl
theorem rawW (w0 : World) (e : EncS) {N : Nat} (hN : N ≤ 1048500) (h : e.inv N) {n v : Nat} (hn : n ≤ 25) (hv : v < 4294967296) :
    CallsA Tryd.prog w0 38 [.c (.ptr 0 0), .c (.val (.int .u64 n)), .c (.val (.int .u32 v))] e.H fun r H => r = .t [] ∧ H = (e.raw n v).M := by
  have hnend := h.ok.nend
  have htot := h.ok.total
  have htail := h.ok.tail
  have hwin := h.ok.win
  refine callsA_of_ev c38_ ?_
  conv => whnf
  refine Or.inl ?_
  conv => whnf
  refine ⟨fun c1 => ?_, fun c1 => ?_⟩
  · have c1 : n = 0 := beq_t c1
    subst c1
    conv => whnf
    rw [EncS.raw_zero hnend]
    exact EncS.finM 1 2 rfl rfl rfl (Nat.le_of_ble_eq_true rfl) rfl
  · have c1 := beq_f c1
    conv => whnf
    refine Or.inl ?_
    conv => whnf
    refine ⟨fun _ => ?_, fun c2 => absurd (lt_f c2) (by omega)⟩
    conv => whnf
    refine (bitMaskW w0 e.H (n := n) (by omega)).mono ?_
    rintro _ _ ⟨rfl, rfl⟩
    conv => whnf
    have hp : 2 ^ n ≤ 2 ^ 25 := Nat.pow_le_pow_right (by omega) hn
    have hp0 : 1 ≤ 2 ^ n := Nat.one_le_two_pow
    have hvm : v % 2 ^ n < 2 ^ n := Nat.mod_lt _ (Nat.two_pow_pos n)
    have hmask : IntKind.u32.wrap ((BitVec.ofInt IntKind.u32.bits (v : Int) &&& BitVec.ofInt IntKind.u32.bits ((2 ^ n - 1 : Nat) : Int)).toNat : Nat) = ((v % 2 ^ n : Nat) : Int) := by
      rw [nand32 hv (by omega), nand_mask]
    rw [hmask, nwrap64 (n := v % 2 ^ n) (by omega)]
    refine ⟨by omega, ?_⟩
    conv => whnf
    refine ⟨trivial, ?_⟩
    conv => whnf
    have hw2 := EncS.rawTop_win (v := v) (n := n) hwin
    have hp3 : 2 ^ (e.nend + n) ≤ 2 ^ 32 := Nat.pow_le_pow_right (by omega) (by omega)
    have hw3 : e.win + v % 2 ^ n * 2 ^ e.nend < 2 ^ (e.nend + n) := hw2
    have hpn : 2 ^ e.nend ≤ 2 ^ 7 := Nat.pow_le_pow_right (by omega) hnend
    refine ⟨_root_.Fin ((e.nend + n) / 8 + 1), fun ⟨k, _⟩ => ⟨[(0, .o (.c (.ptr 0 0)))], ((e.rawTop n v).rawIter k).M⟩, fun k => (e.nend + n) / 8 - k.1, ⟨⟨0, by omega⟩, EncS.embM 1 2 (EncS.blk_of (e := e.rawTop n v) rfl rfl ?_ ?_ rfl rfl rfl rfl ?_) rfl rfl (Nat.le_of_ble_eq_true rfl) rfl ⟨rfl, trivial⟩⟩, fun ⟨k, hk⟩ => ?_⟩
    · show IntKind.u64.wrap _ = ((e.win + v % 2 ^ n * 2 ^ e.nend : Nat) : Int)
      rw [nshlv64 _ _ (by omega), nwrap64 (n := v % 2 ^ n * 2 ^ e.nend) (by omega), nor64 (by omega) (by omega), Nat.or_comm, nor_add hwin, Nat.add_comm]
    · show IntKind.u64.wrap _ = ((e.nend + n : Nat) : Int)
      rw [nadd, nwrap64 (by omega)]
    · show IntKind.u64.wrap _ = ((e.total + n : Nat) : Int)
      rw [nadd, nwrap64 (by omega)]
    · obtain ⟨a, b, c, d, f, g, i, j, l⟩ := EncS.rawIter_facts (e.rawTop n v) k (by show 8 * k ≤ e.nend + n; omega)
      have hst : (e.rawTop n v).rawIter (k + 1) = ((e.rawTop n v).rawIter k).rawStep := rfl
      have e1 : (e.rawTop n v).nend = e.nend + n := rfl
      have e3 : (e.rawTop n v).tail = e.tail := rfl
      have hfin : k = (e.nend + n) / 8 → (e.rawTop n v).rawIter k = e.raw n v := by
        intro hk
        subst hk
        rfl
      rw [e1] at a
      rw [e3] at c
      have hwk : ((e.rawTop n v).rawIter k).win < 4294967296 := by
        rw [d]
        exact Nat.lt_of_le_of_lt (Nat.div_le_self _ _) (by omega)
      conv => whnf
      generalize (e.rawTop n v).rawIter k = q at *
      refine ⟨fun c2 => ?_, fun c2 => ?_⟩
      · have c2 := ge_t c2
        conv => whnf
        have hb : IntKind.u8.wrap (IntKind.u64.wrap ((BitVec.ofInt IntKind.u64.bits (q.win : Int) &&& BitVec.ofInt IntKind.u64.bits ((255 : Nat) : Int)).toNat : Nat)) = ((q.win % 256 : Nat) : Int) := by
          rw [nand64 (by omega) (by omega), show q.win &&& 255 = q.win % 256 from nand_mask _ 8, nwrap8 (by omega)]
        rw [hb]
        refine ⟨⟨⟨rfl, rfl⟩, trivial⟩, ?_⟩
        conv => whnf
        refine ⟨rfl, [((q.win % 256 : Nat) : Int)], ⟨rfl, rfl, rfl⟩, by rw [List.length_append, List.length_singleton]; omega, by rw [List.length_append, List.length_singleton]; omega, ?_⟩
        conv => whnf
        refine ⟨trivial, ?_⟩
        conv => whnf
        refine ⟨trivial, ?_⟩
        conv => whnf
        refine ⟨⟨k + 1, by omega⟩, EncS.embM 3 6 (hst ▸ EncS.blk_of (e := q.rawStep) rfl rfl ?_ ?_ rfl rfl rfl rfl rfl) (by rw [hst]; rfl) (by rw [hst]; rfl) (Nat.le_of_ble_eq_true rfl) rfl ⟨rfl, trivial⟩, ?_⟩
        · show (e.nend + n) / 8 - (k + 1) < (e.nend + n) / 8 - k
          omega
        · show _ = ((q.win / 256 : Nat) : Int)
          rw [nshr64 _ _ (by omega)]
        · show IntKind.u64.wrap _ = ((q.nend - 8 : Nat) : Int)
          rw [nsub (by omega), nwrap64 (by omega)]
      · have c2 := ge_f c2
        rw [hfin (by omega)]
        conv => whnf
        exact Or.inl ⟨rfl, rfl⟩
end Go.Proofs.YtkomikpfnogjcaaDoor
