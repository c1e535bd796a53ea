/- What the reference's decoder reads. -/
import Derived.Test.YtkomikpfnogjcaaRmC
import Derived.Test.YtkomikpfnogjcaaIrB
import Derived.Test.YtkomikpfnogjcaaRmD
import Derived.Test.YtkomikpfnogjcaaRmE
section
namespace Go.Proofs.Ytkomikpfnogjcaa
open Go Go.Vc
set_option maxRecDepth 100000
set_option maxHeartbeats 4000000
set_option linter.unusedSimpArgs false

structure RD where
  b : ByteArray
  pos : Nat
  fin : Nat
  rng : Nat
  val : Nat
  rem : Nat
  total : Nat
  win : Nat
  got : Nat
  raws : Nat
  taken : Nat
  bad : Bool
def RD.blk (r : RD) : Blk := .cells 71 [.val (.string r.b), .val (.int .i64 r.pos), .val (.int .i64 r.fin), .val (.int .u32 r.rng), .val (.int .u32 r.val), .val (.int .i64 r.rem), .val (.int .i64 r.total), .val (.int .u64 r.win), .val (.int .i64 r.got), .val (.int .i64 r.raws), .val (.int .i64 r.taken), .val (.bool r.bad)]
/-- The reference's state tells what the package's does. -/
structure RD.sim (r : RD) (d : Dec) : Prop where
  data : d.data = bytesOf r.b
  small : r.b.size ≤ 65536
  rng : r.rng = d.rng
  val : r.val = d.val
  total : r.total = d.nb
  raws : r.raws = d.rb
  taken : r.taken = d.br
  pos : (1 ≤ r.pos ∧ r.pos ≤ r.b.size ∧ d.br = 8 * r.pos - 1 ∧ r.rem = d.byte (r.pos - 1)) ∨ (r.pos = r.b.size ∧ d.br = 8 * r.b.size ∧ r.rem = 0)
  win : r.win = d.raw r.got
  cnt : ∃ c, d.rb + r.got = 8 * c ∧ r.fin = min c r.b.size
  got : r.got ≤ 32
theorem nori {a b : Nat} (ha : a < 9223372036854775808) (hb : b < 9223372036854775808) : IntKind.i64.wrap (((BitVec.ofInt IntKind.i64.bits (a : Int) ||| BitVec.ofInt IntKind.i64.bits (b : Int)).toNat : Nat) : Int) = ((a ||| b : Nat) : Int) := by
  rw [ofInt_nat, ofInt_nat, BitVec.toNat_or, BitVec.toNat_ofNat, BitVec.toNat_ofNat]
  rw [Nat.mod_eq_of_lt (by simp [IntKind.bits]; omega), Nat.mod_eq_of_lt (by simp [IntKind.bits]; omega)]
  exact nwrapi (Nat.or_lt_two_pow (n := 63) ha hb)
theorem byteAt {b : ByteArray} {d : Dec} (h : d.data = bytesOf b) {i : Nat} (hi : i < b.size) : ∃ y : UInt8, b[i]? = some y ∧ y.toNat = d.byte i := by
  have h2 : b[i]? = some b[i] := by
    rw [getElem?_pos b i hi]
  refine ⟨b[i], h2, ?_⟩
  unfold Dec.byte
  rw [h]
  unfold bytesOf
  rw [List.getD_eq_getElem?_getD, List.getElem?_map]
  have h3 : b.data.toList[i]? = some b[i] := by
    rw [List.getElem?_eq_getElem (by simpa using hi)]
    rfl
  rw [h3]
  rfl
theorem Dec.data_len {r : RD} {d : Dec} (h : r.sim d) : d.data.length = r.b.size := by
  rw [h.data]
  exact bytesOf_len r.b
def RD.nx (r : RD) (d : Dec) : Nat := if r.pos < r.b.size then d.byte r.pos else 0
theorem RD.nx_eq {r : RD} {d : Dec} (h : r.sim d) : r.nx d = d.byte r.pos := by
  unfold RD.nx
  split
  · rfl
  · rw [d.byte_out (by rw [Dec.data_len h]; omega)]
theorem RD.rem_lt {r : RD} {d : Dec} (h : r.sim d) (ho : d.ok) : r.rem < 256 := by
  rcases h.pos with ⟨_, _, _, h1⟩ | ⟨_, _, h1⟩
  · rw [h1]
    exact d.byte_lt ho _
  · omega
theorem RD.bits8 {r : RD} {d : Dec} (h : r.sim d) : (r.rem * 256 + r.nx d) / 2 % 256 = d.bits 8 := by
  have hl := Dec.data_len h
  rw [r.nx_eq h]
  unfold Dec.bits Dec.two
  rcases h.pos with ⟨p1, p2, p3, p4⟩ | ⟨p1, p2, p3⟩
  · have e1 : d.br / 8 = r.pos - 1 := by omega
    have e2 : d.br % 8 = 7 := by omega
    rw [e1, e2, p4, show r.pos - 1 + 1 = r.pos by omega]
  · have e1 : d.br / 8 = r.b.size := by omega
    rw [e1, p3, p1, d.byte_out (by omega), d.byte_out (by omega)]
    simp
def RD.stepped (r : RD) (d : Dec) : RD := { r with pos := if r.pos < r.b.size then r.pos + 1 else r.pos, total := r.total + 8, taken := (d.bitsOn 8).br, rng := r.rng * 256, rem := r.nx d, val := d.step.val }
theorem Dec.raw_congr {d e : Dec} (h1 : e.data = d.data) (h2 : e.rb = d.rb) : ∀ n, e.raw n = d.raw n
  | 0 => rfl
  | n + 1 => by
    have hr : ∀ i, e.rawAt i = d.rawAt i := by
      intro i
      unfold Dec.rawAt Dec.byte
      rw [h1]
    show e.raw n + e.rawAt (e.rb + n) * 2 ^ n = d.raw n + d.rawAt (d.rb + n) * 2 ^ n
    rw [Dec.raw_congr h1 h2 n, hr, h2]
theorem RD.stepped_sim {r : RD} {d : Dec} (h : r.sim d) : (r.stepped d).sim d.step := by
  have hl := Dec.data_len h
  have hb : ∀ i, d.step.byte i = d.byte i := fun i => rfl
  refine ⟨h.data, h.small, ?_, rfl, ?_, h.raws, rfl, ?_, h.win.trans (Dec.raw_congr (d := d) (e := d.step) rfl rfl _).symm, h.cnt, h.got⟩
  · show r.rng * 256 = d.rng * 256
    rw [h.rng]
  · show r.total + 8 = d.nb + 8
    rw [h.total]
  · show (1 ≤ (if r.pos < r.b.size then r.pos + 1 else r.pos) ∧ (if r.pos < r.b.size then r.pos + 1 else r.pos) ≤ r.b.size ∧ (if d.br + 8 ≤ 8 * d.data.length then d.br + 8 else max d.br (8 * d.data.length)) = 8 * (if r.pos < r.b.size then r.pos + 1 else r.pos) - 1 ∧ r.nx d = d.byte ((if r.pos < r.b.size then r.pos + 1 else r.pos) - 1)) ∨ ((if r.pos < r.b.size then r.pos + 1 else r.pos) = r.b.size ∧ (if d.br + 8 ≤ 8 * d.data.length then d.br + 8 else max d.br (8 * d.data.length)) = 8 * r.b.size ∧ r.nx d = 0)
    unfold RD.nx
    rw [hl]
    rcases h.pos with ⟨p1, p2, p3, p4⟩ | ⟨p1, p2, p3⟩
    · by_cases hp : r.pos < r.b.size
      · rw [if_pos hp, if_pos hp, if_pos (by omega)]
        exact Or.inl ⟨by omega, by omega, by omega, rfl⟩
      · rw [if_neg hp, if_neg hp, if_neg (by omega)]
        exact Or.inr ⟨by omega, by omega, rfl⟩
    · rw [if_neg (by omega), if_neg (by omega), if_neg (by omega)]
      exact Or.inr ⟨by omega, by omega, rfl⟩
theorem rNextW (w0 : World) {r : RD} {d : Dec} (hd : d.data = bytesOf r.b) (hs : r.b.size ≤ 65536) : CallsA Try.prog w0 77 [.c (.ptr 0 0)] [r.blk] fun v H => (r.pos < r.b.size ∧ v = i64 (d.byte r.pos : Nat) ∧ H = [({ r with pos := r.pos + 1 } : RD).blk]) ∨ (r.b.size ≤ r.pos ∧ v = i64 ((0 : Nat) : Int) ∧ H = [r.blk]) := by
  refine callsA_of_ev c77_ ?_
  conv => whnf
  refine Or.inl ?_
  conv => whnf
  refine ⟨fun h1 => ?_, fun h1 => ?_⟩
  · have h1 := ge_t h1
    conv => whnf
    exact Or.inl (Or.inr ⟨h1, rfl, rfl⟩)
  · have h1 := ge_f h1
    conv => whnf
    simp (disch := omega) only [nadd, nwrapi, nsub, Nat.add_sub_cancel]
    obtain ⟨y, hy1, hy2⟩ := byteAt hd h1
    refine ⟨y, ?_, ?_⟩
    · rw [if_pos (by omega), Int.toNat_natCast]
      exact hy1
    rw [hy2]
    have hlt : d.byte r.pos < 256 := by rw [← hy2]; exact y.toNat_lt
    conv => whnf
    refine Or.inl (Or.inl ⟨h1, i64_of (nwrapi (by omega)), rfl⟩)
theorem symEq {a n : Nat} (ha : a < 256) (hn : n < 256) : IntKind.i64.wrap (((BitVec.ofInt IntKind.i64.bits ((IntKind.i64.wrap (((BitVec.ofInt IntKind.i64.bits (IntKind.i64.wrap ((a : Int) * 2 ^ min 8 IntKind.i64.bits)) ||| BitVec.ofInt IntKind.i64.bits (n : Int)).toNat : Nat) : Int)).fdiv (2 ^ min 1 IntKind.i64.bits)) &&& BitVec.ofInt IntKind.i64.bits ((255 : Nat) : Int)).toNat : Nat) : Int) = (((a * 256 + n) / 2 % 256 : Nat) : Int) := by
  rw [nshli _ _ (by omega), nwrapi (n := a * 2 ^ 8) (by omega), nori (by omega) (by omega), nor_add (i := 8) (by omega), nshri _ _ (by omega), nandi (by omega) (by omega), show (255 : Nat) = 2 ^ 8 - 1 by rfl, nand_mask]
theorem valEq {v x : Nat} (hx : x < 256) : IntKind.u32.wrap (((BitVec.ofInt IntKind.u32.bits (IntKind.u32.wrap (IntKind.u32.wrap ((v : Int) * 2 ^ min 8 IntKind.u32.bits) + IntKind.u32.wrap (IntKind.i64.wrap (((255 : Nat) : Int) - (x : Int))))) &&& BitVec.ofInt IntKind.u32.bits ((2147483647 : Nat) : Int)).toNat : Nat) : Int) = (((v * 256 + (255 - x)) % 2147483648 : Nat) : Int) := by
  rw [nshl32 _ _ (by omega), nsub (by omega), nwrapi (by omega)]
  have e1 : IntKind.u32.wrap (IntKind.u32.wrap ((v * 2 ^ 8 : Nat) : Int) + IntKind.u32.wrap ((255 - x : Nat) : Int)) = (((v * 256 + (255 - x)) % 4294967296 : Nat) : Int) := by
    simp only [IntKind.wrap_u32]
    omega
  rw [e1, nand32 (Nat.mod_lt _ (by omega)) (by omega), show (2147483647 : Nat) = 2 ^ 31 - 1 by rfl, nand_mask]
  omega
theorem rNormalW (w0 : World) {r : RD} {d : Dec} (h : r.sim d) (hp : d.pre) : CallsA Try.prog w0 78 [.c (.ptr 0 0)] [r.blk] fun v H => v = .t [] ∧ ∃ r' : RD, H = [r'.blk] ∧ r'.sim d.norm ∧ r'.bad = r.bad := by
  have hlo := hp.lo
  have hhi := hp.hi
  refine callsA_of_ev c78_ ?_
  conv => whnf
  refine ⟨{p : Nat × RD // p.1 ≤ 3 ∧ (∀ i, i < p.1 → (d.iter i).rng ≤ 8388608) ∧ p.2.sim (d.iter p.1) ∧ p.2.bad = r.bad}, fun ⟨(_, e), _⟩ => ⟨[(0, .o (.c (.ptr 0 0)))], [e.blk]⟩, fun k => 3 - k.1.1, ⟨⟨(0, r), by omega, (fun i hi => by cases hi), h, rfl⟩, [0], ⟨rfl, ⟨rfl, rfl, trivial⟩, rfl⟩, rfl, trivial⟩, fun ⟨(k, e), hk3, hk, he, hbad⟩ => ?_⟩
  simp only at hk3 hk he hbad
  obtain ⟨hok, hr, hb⟩ := d.iter_facts hp.ok hp.nb k (by omega)
  have hnb := hp.nb
  have hpow : d.rng * 256 ^ k ≤ 8388608 → d.rng * 256 ^ k * 256 ≤ 2147483648 := by omega
  have hval : (d.iter k).val < 4294967296 := by
    cases k with
    | zero => exact hp.val
    | succ k =>
      show (_ : Nat) % 2147483648 < _
      omega
  have e1 := he.rng; have e2 := he.val; have e3 := he.total; have e4 := he.taken; have e5 := he.small; have e6 := hok.br
  have hl := Dec.data_len he
  conv => whnf
  refine ⟨fun h1 => ?_, fun h1 => ?_⟩
  · have h1 : e.rng ≤ 8388608 := le_t h1
    have hk2 : k < 3 := by
      rcases Nat.lt_or_ge k 3 with h | h
      · exact h
      · have : k = 3 := by omega
        subst this
        rw [e1, hr] at h1
        omega
    conv => whnf
    have hrem := RD.rem_lt he hok
    have hkk : ∀ i, i < k + 1 → (d.iter i).rng ≤ 8388608 := by
      intro i hi
      rcases Nat.lt_or_ge i k with h | h
      · exact hk i h
      · obtain rfl : i = k := by omega
        omega
    have hbt := (d.iter k).byte_lt hok e.pos
    have hb8 := (d.iter k).bits_lt 8
    have hx : IntKind.i64.wrap (IntKind.i64.wrap (((8 : Nat) : Int) * (e.b.size : Int)) - (e.taken : Int)) = 8 * (e.b.size : Int) - (e.taken : Int) := by
      rw [nmul, nwrapi (by omega), IntKind.wrap_i64]
      omega
    have ht : IntKind.i64.wrap ((e.taken : Int) + (if (if 8 * (e.b.size : Int) - (e.taken : Int) < ((8 : Nat) : Int) then 8 * (e.b.size : Int) - (e.taken : Int) else ((8 : Nat) : Int)) > ((0 : Nat) : Int) then (if 8 * (e.b.size : Int) - (e.taken : Int) < ((8 : Nat) : Int) then 8 * (e.b.size : Int) - (e.taken : Int) else ((8 : Nat) : Int)) else ((0 : Nat) : Int))) = ((((d.iter k).bitsOn 8).br : Nat) : Int) := by
      have hbr : ((d.iter k).bitsOn 8).br = if (d.iter k).br + 8 ≤ 8 * (d.iter k).data.length then (d.iter k).br + 8 else max (d.iter k).br (8 * (d.iter k).data.length) := rfl
      rw [hbr, hl, e4, IntKind.wrap_i64]
      split <;> split <;> split <;> omega
    refine ⟨trivial, ?_⟩
    conv => whnf
    simp only [hx, cond_true, cond_false]
    rw [ht]
    simp (disch := omega) only [nshl32, nwrap32, nadd, nwrapi]
    refine (rNextW w0 (r := { e with total := e.total + 8, taken := ((d.iter k).bitsOn 8).br, rng := e.rng * 2 ^ 8 }) (d := d.iter k) he.data e5).mono ?_
    rintro _ _ (⟨hps, rfl, rfl⟩ | ⟨hps, rfl, rfl⟩)
    · have hps : e.pos < e.b.size := hps
      have hnx : e.nx (d.iter k) = (d.iter k).byte e.pos := by unfold RD.nx; rw [if_pos hps]
      conv => whnf
      have hV : IntKind.u32.wrap (((BitVec.ofInt IntKind.u32.bits (IntKind.u32.wrap (IntKind.u32.wrap ((e.val : Int) * 2 ^ min 8 IntKind.u32.bits) + IntKind.u32.wrap (IntKind.i64.wrap (((255 : Nat) : Int) - IntKind.i64.wrap (((BitVec.ofInt IntKind.i64.bits ((IntKind.i64.wrap (((BitVec.ofInt IntKind.i64.bits (IntKind.i64.wrap ((e.rem : Int) * 2 ^ min 8 IntKind.i64.bits)) ||| BitVec.ofInt IntKind.i64.bits (((d.iter k).byte e.pos : Nat) : Int)).toNat : Nat) : Int)).fdiv (2 ^ min 1 IntKind.i64.bits)) &&& BitVec.ofInt IntKind.i64.bits ((255 : Nat) : Int)).toNat : Nat) : Int))))) &&& BitVec.ofInt IntKind.u32.bits ((2147483647 : Nat) : Int)).toNat : Nat) : Int) = (((d.iter k).step.val : Nat) : Int) := by
        rw [symEq hrem hbt, hnx.symm, RD.bits8 he, valEq hb8, e2]
        rfl
      refine ⟨⟨(k + 1, e.stepped (d.iter k)), by show k + 1 ≤ 3; omega, hkk, RD.stepped_sim he, hbad⟩, ⟨[0], ⟨rfl, ⟨?_, rfl, trivial⟩, rfl⟩, rfl, trivial⟩, ?_⟩
      · have hst : e.stepped (d.iter k) = { e with pos := e.pos + 1, total := e.total + 8, taken := ((d.iter k).bitsOn 8).br, rng := e.rng * 2 ^ 8, rem := (d.iter k).byte e.pos, val := (d.iter k).step.val } := by
          unfold RD.stepped
          rw [if_pos hps, hnx]
        exact (congrArg (fun v : Int => some (Blk.cells 71 [.val (.string e.b), .val (.int .i64 ((e.pos + 1 : Nat) : Int)), .val (.int .i64 e.fin), .val (.int .u32 ((e.rng * 2 ^ 8 : Nat) : Int)), .val (.int .u32 v), .val (.int .i64 (((d.iter k).byte e.pos : Nat) : Int)), .val (.int .i64 ((e.total + 8 : Nat) : Int)), .val (.int .u64 e.win), .val (.int .i64 e.got), .val (.int .i64 e.raws), .val (.int .i64 (((d.iter k).bitsOn 8).br : Nat)), .val (.bool e.bad)])) hV).trans (congrArg (fun x : RD => some x.blk) hst.symm)
      · show 3 - (k + 1) < 3 - k
        omega
    · have hps : e.b.size ≤ e.pos := hps
      have hnx : e.nx (d.iter k) = 0 := by unfold RD.nx; rw [if_neg (by omega)]
      conv => whnf
      have hV : IntKind.u32.wrap (((BitVec.ofInt IntKind.u32.bits (IntKind.u32.wrap (IntKind.u32.wrap ((e.val : Int) * 2 ^ min 8 IntKind.u32.bits) + IntKind.u32.wrap (IntKind.i64.wrap (((255 : Nat) : Int) - IntKind.i64.wrap (((BitVec.ofInt IntKind.i64.bits ((IntKind.i64.wrap (((BitVec.ofInt IntKind.i64.bits (IntKind.i64.wrap ((e.rem : Int) * 2 ^ min 8 IntKind.i64.bits)) ||| BitVec.ofInt IntKind.i64.bits (((0 : Nat) : Int) : Int)).toNat : Nat) : Int)).fdiv (2 ^ min 1 IntKind.i64.bits)) &&& BitVec.ofInt IntKind.i64.bits ((255 : Nat) : Int)).toNat : Nat) : Int))))) &&& BitVec.ofInt IntKind.u32.bits ((2147483647 : Nat) : Int)).toNat : Nat) : Int) = (((d.iter k).step.val : Nat) : Int) := by
        rw [symEq hrem (by omega), hnx.symm, RD.bits8 he, valEq hb8, e2]
        rfl
      refine ⟨⟨(k + 1, e.stepped (d.iter k)), by show k + 1 ≤ 3; omega, hkk, RD.stepped_sim he, hbad⟩, ⟨[0], ⟨rfl, ⟨?_, rfl, trivial⟩, rfl⟩, rfl, trivial⟩, ?_⟩
      · have hst : e.stepped (d.iter k) = { e with pos := e.pos, total := e.total + 8, taken := ((d.iter k).bitsOn 8).br, rng := e.rng * 2 ^ 8, rem := 0, val := (d.iter k).step.val } := by
          unfold RD.stepped
          rw [if_neg (by omega), hnx]
        exact (congrArg (fun v : Int => some (Blk.cells 71 [.val (.string e.b), .val (.int .i64 ((e.pos : Nat) : Int)), .val (.int .i64 e.fin), .val (.int .u32 ((e.rng * 2 ^ 8 : Nat) : Int)), .val (.int .u32 v), .val (.int .i64 ((0 : Nat) : Int)), .val (.int .i64 ((e.total + 8 : Nat) : Int)), .val (.int .u64 e.win), .val (.int .i64 e.got), .val (.int .i64 e.raws), .val (.int .i64 (((d.iter k).bitsOn 8).br : Nat)), .val (.bool e.bad)])) hV).trans (congrArg (fun x : RD => some x.blk) hst.symm)
      · show 3 - (k + 1) < 3 - k
        omega
  · have h1 : 8388608 < e.rng := le_f h1
    conv => whnf
    refine Or.inl ⟨rfl, e, rfl, ?_, hbad⟩
    rw [d.norm_iter hk3 hk (by omega)]
    exact he
end Go.Proofs.Ytkomikpfnogjcaa
end
section
namespace Go.Proofs.Ytkomikpfnogjcaa
open Go Go.Vc
set_option maxRecDepth 100000
set_option maxHeartbeats 4000000
set_option linter.unusedSimpArgs false

theorem len_half {n : Nat} (h : 0 < n) : len (n / 2) + 1 = len n := by
  obtain ⟨k, h1, h2, h3⟩ := len_spec (n := n) (by omega)
  cases k with
  | zero =>
    have : n = 1 := by omega
    subst this
    rw [h1]
    rfl
  | succ k =>
    have : len (n / 2) = k + 1 := len_eq (by rw [Nat.pow_succ] at h2; omega) (by rw [Nat.pow_succ] at h3; omega)
    omega
theorem ilogW (w0 : World) {n : Nat} (hn : n < 4294967296) : CallsA Try.prog w0 56 [.c (.val (.int .u32 n))] [] fun v H' => v = i64 (len n : Nat) ∧ H' = [] := by
  have hl := len_le (n := n) (k := 32) hn
  refine callsA_of_ev c56_ ?_
  conv => whnf
  refine Or.inl ?_
  conv => whnf
  refine ⟨{p : Nat × Nat // len p.1 + p.2 = len n ∧ p.1 < 4294967296}, fun ⟨(m, k), _⟩ => ⟨[(0, .o (.c (.val (.int .u32 m)))), (3, .o (.c (.val (.int .i64 k))))], []⟩, fun p => len p.1.1, ⟨⟨(n, 0), rfl, hn⟩, [], ⟨rfl, trivial, rfl⟩, rfl, rfl, trivial⟩, fun ⟨(m, k), hm, hm2⟩ => ?_⟩
  simp only at hm hm2
  conv => whnf
  refine ⟨fun h => ?_, fun h => ?_⟩
  · have h : 0 < m := gt_t h
    have h2 := len_half h
    conv => whnf
    refine ⟨⟨(m / 2, k + 1), by show len (m / 2) + (k + 1) = len n; omega, by show m / 2 < _; omega⟩, ⟨[], ⟨rfl, trivial, rfl⟩, eq_u32 ?_, eq_i64 ?_, trivial⟩, ?_⟩
    · rw [nshr32 _ _ (by omega)]
    · rw [nadd, nwrapi (by omega)]
    · show len (m / 2) < len m
      omega
  · have h : m = 0 := by have := gt_f h; omega
    subst h
    have h0 : len 0 = 0 := rfl
    conv => whnf
    refine Or.inl ⟨i64_of ?_, rfl⟩
    omega
theorem eighthsW (w0 : World) {t n : Nat} (h1 : 8388608 ≤ n) (h2 : n < 4294967296) (ht : t ≤ 1000000) (hp : lf n ≤ 8 * t) : CallsA Try.prog w0 59 [.c (.val (.int .i64 t)), .c (.val (.int .u32 n))] [] fun v H' => v = i64 ((t * 8 - lf n : Nat) : Int) ∧ H' = [] := by
  have hl1 := le_len (n := n) (k := 23) h1
  have hl2 := len_le (n := n) (k := 32) h2
  obtain ⟨ht1, ht2⟩ := top_bits h1
  refine callsA_of_ev c59_ ?_
  conv => whnf
  refine (ilogW w0 h2).mono ?_
  rintro _ _ ⟨rfl, rfl⟩
  conv => whnf
  simp (disch := omega) only [nsub, nwrapi]
  refine ⟨by omega, ?_⟩
  conv => whnf
  rw [Int.toNat_natCast, nshr32 _ _ (by omega)]
  refine Or.inl ?_
  conv => whnf
  refine ⟨_root_.Fin 4, fun ⟨k, _⟩ => ⟨[(0, .o (.c (.val (.int .i64 t)))), (5, .o (.c (.val (.int .i64 ((fracIter (n / 2 ^ (len n - 16), len n) k).2 : Nat))))), (6, .o (.c (.val (.int .u32 ((fracIter (n / 2 ^ (len n - 16), len n) k).1 : Nat))))), (14, .o (.c (.val (.int .i64 k))))], []⟩, fun k => 3 - k.1, ⟨⟨0, by omega⟩, [], ⟨rfl, trivial, rfl⟩, rfl, rfl, rfl, rfl, trivial⟩, fun ⟨k, hk⟩ => ?_⟩
  obtain ⟨a1, a2, a3⟩ := fracIter_lt (p := (n / 2 ^ (len n - 16), len n)) ht1 ht2 hl2 k (by omega)
  have hp3 : 2 ^ k ≤ 2 ^ 3 := Nat.pow_le_pow_right (by omega) (by omega)
  have hstep : fracIter (n / 2 ^ (len n - 16), len n) (k + 1) = fracStep (fracIter (n / 2 ^ (len n - 16), len n) k) := rfl
  have hlf : k = 3 → (fracIter (n / 2 ^ (len n - 16), len n) k).2 = lf n := fun h => by subst h; rfl
  conv => whnf
  generalize fracIter (n / 2 ^ (len n - 16), len n) k = p at *
  have hm1 : p.1 * p.1 ≤ 65535 * 65535 := Nat.mul_le_mul (by omega) (by omega)
  refine ⟨fun h => ?_, fun h => ?_⟩
  · have h : k < 3 := lt_t h
    conv => whnf
    have hs2 : p.1 * p.1 / 32768 / 65536 ≤ 1 := by omega
    have e15 : (2 : Nat) ^ 15 = 32768 := rfl
    have e16 : (2 : Nat) ^ 16 = 65536 := rfl
    simp (disch := omega) only [nmul, nwrap32, nshr32, e15, e16]
    refine ⟨by omega, ?_⟩
    conv => whnf
    refine ⟨⟨k + 1, by omega⟩, ⟨[], ⟨rfl, trivial, rfl⟩, rfl, eq_i64 ?_, eq_u32 ?_, eq_i64 ?_, trivial⟩, ?_⟩
    · show IntKind.i64.wrap (((BitVec.ofInt IntKind.i64.bits (IntKind.i64.wrap ((p.2 : Int) * 2 ^ min 1 IntKind.i64.bits)) ||| BitVec.ofInt IntKind.i64.bits (IntKind.i64.wrap ((p.1 * p.1 / 32768 / 65536 : Nat) : Int))).toNat : Nat) : Int) = ((fracIter (n / 2 ^ (len n - 16), len n) (k + 1)).2 : Nat)
      rw [hstep, nshli _ _ (by omega), nwrapi (n := p.2 * 2 ^ 1) (by omega), nwrapi (n := p.1 * p.1 / 32768 / 65536) (by omega), nori (by omega) (by omega), nor_add (i := 1) (by omega)]
      show ((p.2 * 2 ^ 1 + p.1 * p.1 / 32768 / 65536 : Nat) : Int) = ((2 * p.2 + p.1 * p.1 / 32768 / 65536 : Nat) : Int)
      omega
    · show ((p.1 * p.1 / 32768 / 2 ^ ((p.1 * p.1 / 32768 / 65536 : Nat) : Int).toNat : Nat) : Int) = ((fracIter (n / 2 ^ (len n - 16), len n) (k + 1)).1 : Nat)
      rw [hstep, Int.toNat_natCast]
      show ((p.1 * p.1 / 32768 / 2 ^ (p.1 * p.1 / 32768 / 65536) : Nat) : Int) = ((if p.1 * p.1 / 32768 / 65536 ≠ 0 then p.1 * p.1 / 32768 / 2 else p.1 * p.1 / 32768 : Nat) : Int)
      rcases (show p.1 * p.1 / 32768 / 65536 = 0 ∨ p.1 * p.1 / 32768 / 65536 = 1 by omega) with h0 | h0
      · rw [h0, if_neg (by omega), Nat.pow_zero, Nat.div_one]
      · rw [h0, if_pos (by omega), Nat.pow_one]
    · rw [nadd, nwrapi (by omega)]
    · show 3 - (k + 1) < 3 - k
      omega
  · have h : 3 ≤ k := lt_f h
    have hl := hlf (by omega)
    conv => whnf
    refine Or.inl ⟨i64_of ?_, rfl⟩
    rw [nshli _ _ (by omega), nwrapi (by omega), hl, nsub (by omega), nwrapi (by omega)]
/-- Bits are used, and not too many. -/
structure Dec.used (d : Dec) : Prop where
  pay : lf d.rng + 8 ≤ 8 * d.nb
  nb : d.nb ≤ 100000
  rb : d.rb ≤ 100000
theorem rSeenW (w0 : World) {r : RD} {d : Dec} {N : Nat} (h : r.sim d) (hi : d.inv N) (hu : d.used) (v : Int) (f : Bool) : CallsA Try.prog w0 36 [.c (.ptr 0 0), .c (.val (.int .i64 v)), .c (.val (.bool f))] [r.blk] fun x H => x = .o (.a (d.told v f).cells) ∧ H = [r.blk] := by
  have hlo := hi.lo; have hhi := hi.hi; have hpay := hu.pay; have hnb := hu.nb; have hrb := hu.rb; have hsm := h.small
  have hbr := hi.br
  have hl := Dec.data_len h
  have hb := lf_bounds (r := d.rng) (by omega)
  have hlen := len_le (n := d.rng) (k := 32) (by omega)
  have hbr2 : d.br ≤ 524288 := by
    rcases h.pos with ⟨p1, p2, p3, _⟩ | ⟨p1, p2, _⟩ <;> omega
  obtain ⟨b, pos, fin, rng, val, rem, total, win, got, raws, taken, bad⟩ := r
  obtain rfl : rng = d.rng := h.rng
  obtain rfl : val = d.val := h.val
  obtain rfl : total = d.nb := h.total
  obtain rfl : raws = d.rb := h.raws
  obtain rfl : taken = d.br := h.taken
  simp only at hsm hl
  refine callsA_of_ev c36_ ?_
  conv => whnf
  refine CallsA.lift (H0 := []) [] rfl trivial rfl (ilogW w0 (n := d.rng) (by omega)) ?_
  rintro _ _ ⟨rfl, rfl⟩
  conv => whnf
  refine ⟨⟨⟨rfl, rfl⟩, ⟨rfl, rfl⟩, ⟨rfl, rfl⟩, ⟨rfl, rfl⟩, ⟨rfl, rfl⟩, ⟨rfl, rfl⟩, ⟨rfl, rfl⟩, trivial⟩, ?_⟩
  conv => whnf
  refine CallsA.lift (H0 := []) [] rfl trivial rfl (eighthsW w0 (t := d.nb) (n := d.rng) (by omega) (by omega) (by omega) (by omega)) ?_
  rintro _ _ ⟨rfl, rfl⟩
  conv => whnf
  refine ⟨⟨⟨rfl, rfl⟩, ⟨rfl, rfl⟩, ⟨rfl, rfl⟩, ⟨rfl, rfl⟩, ⟨rfl, rfl⟩, trivial⟩, ?_⟩
  conv => whnf
  refine ⟨by first | exact trivial | exact ⟨⟨rfl, rfl⟩, trivial⟩, ?_⟩
  conv => whnf
  have q1 : IntKind.u32.wrap (IntKind.i64.wrap ((d.nb : Int) - ((len d.rng : Nat) : Int))) = ((d.tell % 4294967296 : Nat) : Int) := by
    unfold Dec.tell
    rw [nsub (by omega), nwrapi (by omega), wrap_mod]
  have q2 : IntKind.u32.wrap ((d.nb * 8 - lf d.rng : Nat) : Int) = ((d.frac % 4294967296 : Nat) : Int) := by
    rw [wrap_mod]
    rfl
  have q3 : IntKind.i64.wrap (IntKind.i64.wrap (IntKind.i64.wrap (((8 : Nat) : Int) * (b.size : Int)) - (d.br : Int)) - (d.rb : Int)) = ((d.data.length * 8 : Nat) : Int) - (d.br : Int) - (d.rb : Int) := by
    rw [nmul, nwrapi (by omega), hl]
    simp only [IntKind.wrap_i64]
    omega
  refine Or.inr ⟨[0], .o (.a (d.told v f).cells), [RD.blk ⟨b, pos, fin, d.rng, d.val, rem, d.nb, win, got, d.rb, d.br, bad⟩], ⟨rfl, ⟨rfl, rfl, trivial⟩, rfl⟩, ?_, rfl, rfl⟩
  show AV.o (A1.a [.val (.int .i64 v), .val (.bool f), .val (.int .u32 d.rng), .val (.int .u32 (IntKind.u32.wrap (IntKind.i64.wrap ((d.nb : Int) - ((len d.rng : Nat) : Int))))), .val (.int .u32 (IntKind.u32.wrap ((d.nb * 8 - lf d.rng : Nat) : Int))), .val (.int .i64 (IntKind.i64.wrap (IntKind.i64.wrap (IntKind.i64.wrap (((8 : Nat) : Int) * (b.size : Int)) - (d.br : Int)) - (d.rb : Int))))]) = _
  rw [q1, q2, q3]
  rfl
theorem rSymbolW (w0 : World) {r : RD} {d : Dec} {N n : Nat} (h : r.sim d) (hi : d.inv N) (hn : 1 ≤ n) (hn2 : n ≤ 65536) : CallsA Try.prog w0 29 [.c (.ptr 0 0), .c (.val (.int .i64 n))] [r.blk] fun x H => x = .t [.c (.val (.int .i64 (d.at n : Nat))), .c (.val (.int .u32 (d.rng / n : Nat)))] ∧ H = [r.blk] := by
  have hlo := hi.lo; have hhi := hi.hi; have hv := hi.val
  obtain ⟨h1, h2, h3, h4⟩ := d.at_spec hi hn hn2
  have hq := Nat.div_le_self d.rng n
  have hq2 := Nat.div_le_self d.val (d.rng / n)
  obtain ⟨b, pos, fin, rng, val, rem, total, win, got, raws, taken, bad⟩ := r
  obtain rfl : rng = d.rng := h.rng
  obtain rfl : val = d.val := h.val
  obtain rfl : total = d.nb := h.total
  obtain rfl : raws = d.rb := h.raws
  obtain rfl : taken = d.br := h.taken
  refine callsA_of_ev c29_ ?_
  conv => whnf
  simp (disch := omega) only [nwrap32, ntdiv]
  refine ⟨by omega, ?_⟩
  conv => whnf
  simp (disch := omega) only [nwrap32, ntdiv]
  refine ⟨by omega, ?_⟩
  conv => whnf
  have hw : IntKind.i64.wrap (IntKind.i64.wrap ((d.val / (d.rng / n) : Nat) : Int) + ((1 : Nat) : Int)) = ((d.val / (d.rng / n) + 1 : Nat) : Int) := by
    rw [nwrapi (by omega), nadd, nwrapi (by omega)]
  have hA : IntKind.i64.wrap ((n : Int) - (if (n : Int) < ((d.val / (d.rng / n) + 1 : Nat) : Int) then (n : Int) else ((d.val / (d.rng / n) + 1 : Nat) : Int))) = ((d.at n : Nat) : Int) := by
    unfold Dec.at
    rw [IntKind.wrap_i64]
    generalize d.val / (d.rng / n) = q at *
    split <;> omega
  refine Or.inl ⟨?_, rfl⟩
  simp only [hw, cond_true]
  rw [hA]
  rfl
theorem Dec.cut_pre {d : Dec} {N n low high : Nat} (h : d.inv N) (hN : N ≤ 1152921504606846976) (hn : 1 ≤ n) (hn2 : n ≤ 65536) (hl : low ≤ d.at n) (hh : d.at n < high) (hhn : high ≤ n) : (d.cut (d.rng / n) low high n).pre := by
  obtain ⟨h1, h2, h3, h4⟩ := d.at_spec h hn hn2
  obtain ⟨h5, h6⟩ := h4 low high hl hh hhn
  have hlo := h.lo; have hhi := h.hi; have hv := h.val; have hnb := h.nb; have hrb := h.rb
  refine ⟨⟨h.bytes, h.len, h.br, by show d.rb ≤ _; omega, by show d.nb ≤ _; omega⟩, by show d.nb ≤ _; omega, ?_, ?_, ?_⟩
  · generalize d.rng / n = s at *
    have e1 : s * (n - high) + s * high = s * n := by rw [← Nat.mul_add, Nat.sub_add_cancel hhn]
    have e3 : 1 ≤ s * (high - low) := Nat.mul_pos h2 (by omega)
    have e4 : 1 ≤ s * high := Nat.mul_pos h2 (by omega)
    show 1 ≤ (if low ≠ 0 then s * (high - low) else d.rng - s * (n - high))
    split <;> omega
  · generalize d.rng / n = s at *
    have e2 : s * (high - low) ≤ s * n := Nat.mul_le_mul_left s (by omega)
    show (if low ≠ 0 then s * (high - low) else d.rng - s * (n - high)) ≤ _
    split <;> omega
  · show d.val - _ < _
    omega
theorem rUpdateW (w0 : World) {r : RD} {d : Dec} {N n low high : Nat} (h : r.sim d) (hi : d.inv N) (hN : N ≤ 1152921504606846976) (hn : 1 ≤ n) (hn2 : n ≤ 65536) (hl : low ≤ d.at n) (hh : d.at n < high) (hhn : high ≤ n) :
    CallsA Try.prog w0 30 [.c (.ptr 0 0), .c (.val (.int .i64 low)), .c (.val (.int .i64 high)), .c (.val (.int .i64 n)), .c (.val (.int .u32 (d.rng / n : Nat)))] [r.blk] fun v H => v = .t [] ∧ ∃ r' : RD, H = [r'.blk] ∧ r'.sim (d.cut (d.rng / n) low high n).norm ∧ r'.bad = r.bad := by
  have hlo := hi.lo; have hhi := hi.hi; have hv := hi.val
  obtain ⟨h1, h2, h3, h4⟩ := d.at_spec hi hn hn2
  obtain ⟨h5, h6⟩ := h4 low high hl hh hhn
  have hpre := Dec.cut_pre hi hN hn hn2 hl hh hhn
  obtain ⟨b, pos, fin, rng, val, rem, total, win, got, raws, taken, bad⟩ := r
  obtain rfl : rng = d.rng := h.rng
  obtain rfl : val = d.val := h.val
  obtain rfl : total = d.nb := h.total
  obtain rfl : raws = d.rb := h.raws
  obtain rfl : taken = d.br := h.taken
  have hcut : (d.cut (d.rng / n) low high n).rng = if low ≠ 0 then d.rng / n * (high - low) else d.rng - d.rng / n * (n - high) := rfl
  have hsim : ∀ x, x = (d.cut (d.rng / n) low high n).rng → RD.sim ⟨b, pos, fin, x, d.val - d.rng / n * (n - high), rem, d.nb, win, got, d.rb, d.br, bad⟩ (d.cut (d.rng / n) low high n) := fun x hx => ⟨h.data, h.small, hx, rfl, rfl, rfl, rfl, h.pos, h.win.trans (Dec.raw_congr (d := d) (e := d.cut (d.rng / n) low high n) rfl rfl _).symm, h.cnt, h.got⟩
  generalize hs : d.rng / n = s at *
  have e1 : s * (n - high) + s * high = s * n := by rw [← Nat.mul_add, Nat.sub_add_cancel hhn]
  have e2 : s * (high - low) ≤ s * n := Nat.mul_le_mul_left s (by omega)
  refine callsA_of_ev c30_ ?_
  conv => whnf
  simp (disch := omega) only [nsub, nwrapi, nwrap32, nmul]
  refine Or.inl ?_
  conv => whnf
  refine ⟨fun h7 => ?_, fun h7 => ?_⟩
  · have h7 : 0 < low := gt_t h7
    conv => whnf
    simp (disch := omega) only [nsub, nwrapi, nwrap32, nmul]
    refine (rNormalW w0 (hsim _ (by rw [hcut, if_pos (by omega)])) hpre).mono ?_
    rintro _ _ ⟨rfl, r', rfl, h8, h9⟩
    conv => whnf
    exact Or.inl ⟨rfl, r', rfl, h8, h9⟩
  · have h7 : low = 0 := by have := gt_f h7; omega
    subst h7
    conv => whnf
    simp (disch := omega) only [nsub, nwrapi, nwrap32, nmul]
    refine (rNormalW w0 (hsim _ (by rw [hcut, if_neg (by omega)])) hpre).mono ?_
    rintro _ _ ⟨rfl, r', rfl, h8, h9⟩
    conv => whnf
    exact Or.inl ⟨rfl, r', rfl, h8, h9⟩
end Go.Proofs.Ytkomikpfnogjcaa
end
section
namespace Go.Proofs.Ytkomikpfnogjcaa
open Go Go.Vc
set_option maxRecDepth 100000
set_option maxHeartbeats 4000000
set_option linter.unusedSimpArgs false

theorem Dec.raw_add (d : Dec) (n : Nat) : ∀ m, d.raw (n + m) = d.raw n + (d.rawOn n).raw m * 2 ^ n
  | 0 => by
    show d.raw n = d.raw n + 0 * 2 ^ n
    omega
  | m + 1 => by
    show d.raw (n + m) + d.rawAt (d.rb + (n + m)) * 2 ^ (n + m) = d.raw n + ((d.rawOn n).raw m + (d.rawOn n).rawAt (d.rb + n + m) * 2 ^ m) * 2 ^ n
    have h : (d.rawOn n).rawAt (d.rb + n + m) = d.rawAt (d.rb + (n + m)) := by
      rw [Nat.add_assoc]
      rfl
    rw [Dec.raw_add d n m, h, Nat.add_mul, Nat.mul_assoc, ← Nat.pow_add, Nat.add_comm m n, Nat.add_assoc]
theorem Dec.raw_mod (d : Dec) {n g : Nat} (h : n ≤ g) : d.raw g % 2 ^ n = d.raw n := by
  obtain ⟨m, rfl⟩ : ∃ m, g = n + m := ⟨g - n, by omega⟩
  rw [d.raw_add, Nat.add_mul_mod_self_right, Nat.mod_eq_of_lt (d.raw_lt n)]
theorem Dec.raw_div (d : Dec) {n g : Nat} (h : n ≤ g) : d.raw g / 2 ^ n = (d.rawOn n).raw (g - n) := by
  obtain ⟨m, rfl⟩ : ∃ m, g = n + m := ⟨g - n, by omega⟩
  rw [d.raw_add, Nat.add_mul_div_right _ _ (Nat.two_pow_pos n), Nat.div_eq_of_lt (d.raw_lt n), Nat.zero_add, Nat.add_sub_cancel_left]
/-- A byte from the end. -/
def Dec.rear (d : Dec) (c : Nat) : Nat := if c < d.data.length then d.byte (d.data.length - 1 - c) else 0
theorem Dec.rawAt_rear (d : Dec) (c j : Nat) (hj : j < 8) : d.rawAt (8 * c + j) = d.rear c / 2 ^ j % 2 := by
  unfold Dec.rawAt Dec.rear
  rw [show (8 * c + j) / 8 = c by omega, show (8 * c + j) % 8 = j by omega]
  split
  · rfl
  · rw [Nat.zero_div]
theorem Dec.raw_byte (d : Dec) {g c : Nat} (h : d.rb + g = 8 * c) : ∀ m, m ≤ 8 → d.raw (g + m) = d.raw g + d.rear c % 2 ^ m * 2 ^ g
  | 0, _ => by rw [Nat.pow_zero, Nat.mod_one, Nat.zero_mul]; rfl
  | m + 1, hm => by
    show d.raw (g + m) + d.rawAt (d.rb + (g + m)) * 2 ^ (g + m) = _
    rw [Dec.raw_byte d h m (by omega), ← Nat.add_assoc, h, d.rawAt_rear c m (by omega), Nat.mod_pow_succ, Nat.add_mul, Nat.add_assoc, Nat.pow_add]
    congr 2
    rw [Nat.mul_comm (2 ^ g) (2 ^ m), ← Nat.mul_assoc, Nat.mul_comm (2 ^ m)]
theorem Dec.rear_lt {d : Dec} (h : d.ok) (c : Nat) : d.rear c < 256 := by
  unfold Dec.rear
  split
  · exact d.byte_lt h _
  · omega
theorem rBitW (w0 : World) {r : RD} {d : Dec} {N k : Nat} (h : r.sim d) (hi : d.inv N) (hN : N ≤ 1152921504606846976) (hk : 1 ≤ k) (hk2 : k ≤ 15) : CallsA Try.prog w0 31 [.c (.ptr 0 0), .c (.val (.int .i64 k))] [r.blk] fun v H => v = i64 ((d.logp k).1 : Nat) ∧ ∃ r' : RD, H = [r'.blk] ∧ r'.sim (d.logp k).2 ∧ r'.bad = r.bad := by
  have hlo := hi.lo; have hhi := hi.hi; have hv := hi.val; have hnb := hi.nb; have hrb := hi.rb
  have hp : 2 ^ k ≤ 2 ^ 15 := Nat.pow_le_pow_right (by omega) hk2
  have hp1 : 2 ^ 1 ≤ 2 ^ k := Nat.pow_le_pow_right (by omega) hk
  have k1 : 1 ≤ d.rng / 2 ^ k := Nat.div_pos (by omega) (by omega)
  have k2 : 2 * (d.rng / 2 ^ k) ≤ d.rng := by
    have := Nat.div_mul_le_self d.rng (2 ^ k)
    have h3 := Nat.mul_le_mul_left (d.rng / 2 ^ k) hp1
    omega
  obtain ⟨b, pos, fin, rng, val, rem, total, win, got, raws, taken, bad⟩ := r
  obtain rfl : rng = d.rng := h.rng
  obtain rfl : val = d.val := h.val
  obtain rfl : total = d.nb := h.total
  obtain rfl : raws = d.rb := h.raws
  obtain rfl : taken = d.br := h.taken
  have hpre : ∀ rr vv, 1 ≤ rr → rr ≤ 2147483648 → vv < 4294967296 → Dec.pre { d with rng := rr, val := vv } := fun rr vv h1 h2 h3 => ⟨⟨hi.bytes, hi.len, hi.br, by show d.rb ≤ _; omega, by show d.nb ≤ _; omega⟩, by show d.nb ≤ _; omega, h1, h2, h3⟩
  have hsim : ∀ rr vv, RD.sim ⟨b, pos, fin, rr, vv, rem, d.nb, win, got, d.rb, d.br, bad⟩ { d with rng := rr, val := vv } := fun rr vv => ⟨h.data, h.small, rfl, rfl, rfl, rfl, rfl, h.pos, h.win.trans (Dec.raw_congr (d := d) (e := { d with rng := rr, val := vv }) rfl rfl _).symm, h.cnt, h.got⟩
  refine callsA_of_ev c31_ ?_
  conv => whnf
  refine ⟨by omega, ?_⟩
  conv => whnf
  rw [Int.toNat_natCast, nshr32 _ _ (by omega)]
  refine Or.inl ?_
  conv => whnf
  refine ⟨fun h1 => ?_, fun h1 => ?_⟩
  · have h1 : d.val < d.rng / 2 ^ k := lt_t h1
    have hl : d.logp k = (1, { d with rng := d.rng / 2 ^ k }.norm) := by
      unfold Dec.logp
      rw [if_neg (by omega)]
    rw [hl]
    conv => whnf
    refine (rNormalW w0 (hsim (d.rng / 2 ^ k) d.val) (hpre _ _ k1 (by omega) (by omega))).mono ?_
    rintro _ _ ⟨rfl, r', rfl, h8, h9⟩
    conv => whnf
    exact Or.inl ⟨rfl, r', rfl, h8, h9⟩
  · have h1 : d.rng / 2 ^ k ≤ d.val := lt_f h1
    have hl : d.logp k = (0, { d with val := d.val - d.rng / 2 ^ k, rng := d.rng - d.rng / 2 ^ k }.norm) := by
      unfold Dec.logp
      rw [if_pos h1]
    rw [hl]
    conv => whnf
    simp (disch := omega) only [nsub, nwrap32]
    refine (rNormalW w0 (hsim (d.rng - d.rng / 2 ^ k) (d.val - d.rng / 2 ^ k)) (hpre _ _ (by omega) (by omega) (by omega))).mono ?_
    rintro _ _ ⟨rfl, r', rfl, h8, h9⟩
    conv => whnf
    exact Or.inl ⟨rfl, r', rfl, h8, h9⟩
theorem rRawW (w0 : World) {r : RD} {d : Dec} {N n : Nat} (h : r.sim d) (hi : d.inv N) (hN : N ≤ 1152921504606846976) (hn : n ≤ 25) : CallsA Try.prog w0 34 [.c (.ptr 0 0), .c (.val (.int .i64 n))] [r.blk] fun v H => v = i64 (d.raw n : Nat) ∧ ∃ r' : RD, H = [r'.blk] ∧ r'.sim (d.rawOn n) ∧ r'.bad = r.bad := by
  have hnb := hi.nb; have hrb := hi.rb
  have hrl := d.raw_lt n
  have hpn : 2 ^ n ≤ 2 ^ 25 := Nat.pow_le_pow_right (by omega) hn
  have hok : d.ok := ⟨hi.bytes, hi.len, hi.br, by omega, by omega⟩
  refine callsA_of_ev c34_ ?_
  conv => whnf
  refine Or.inr ⟨{e : RD // e.sim d ∧ e.bad = r.bad ∧ n ≤ e.got}, fun ⟨e, _⟩ => ⟨[(0, .o (.c (.ptr 0 0))), (1, .o (.c (.val (.int .i64 n))))], [e.blk]⟩, ?_, fun ⟨e, he, hbad, hgot⟩ => ?_⟩
  · conv => whnf
    refine ⟨fun h1 => ?_, fun h1 => ?_⟩
    · have h1 := lt_t h1
      conv => whnf
      refine ⟨{e : RD // e.sim d ∧ e.bad = r.bad}, fun ⟨e, _⟩ => ⟨[(0, .o (.c (.ptr 0 0))), (1, .o (.c (.val (.int .i64 n))))], [e.blk]⟩, fun e => 32 - e.1.got, ⟨⟨r, h, rfl⟩, [0], ⟨rfl, ⟨rfl, rfl, trivial⟩, rfl⟩, rfl, rfl, trivial⟩, fun ⟨e, he, hbad⟩ => ?_⟩
      have hg := he.got
      obtain ⟨c, hc1, hc2⟩ := he.cnt
      have hsm := he.small
      have hl := Dec.data_len he
      conv => whnf
      refine ⟨fun h2 => ?_, fun h2 => ?_⟩
      · have h2 : e.got ≤ 24 := le_t h2
        conv => whnf
        have hrear := Dec.rear_lt hok c
        have hw := he.win
        have hwl := d.raw_lt e.got
        have hwp : 2 ^ e.got ≤ 2 ^ 24 := Nat.pow_le_pow_right (by omega) h2
        have hrm : d.rear c * 2 ^ e.got ≤ 255 * 2 ^ e.got := Nat.mul_le_mul_right _ (by omega)
        have hnext := d.raw_byte hc1 8 (by omega)
        rw [show d.rear c % 2 ^ 8 = d.rear c from Nat.mod_eq_of_lt (by omega)] at hnext
        refine Or.inr ⟨Unit, fun _ => ⟨[(0, .o (.c (.ptr 0 0))), (1, .o (.c (.val (.int .i64 n)))), (5, .o (.c (.val (.int .u64 (d.rear c : Nat)))))], [({ e with fin := min (c + 1) e.b.size } : RD).blk]⟩, ?_, fun _ => ?_⟩
        · conv => whnf
          refine ⟨fun h3 => ?_, fun h3 => ?_⟩
          · have h3 : e.fin < e.b.size := lt_t h3
            have hcs : c < e.b.size := by omega
            obtain ⟨y, hy1, hy2⟩ := byteAt he.data (i := e.b.size - (e.fin + 1)) (by omega)
            have hrc : d.rear c = y.toNat := by
              unfold Dec.rear
              rw [if_pos (by omega), hl, hy2]
              congr 1
              omega
            conv => whnf
            simp (disch := omega) only [nadd, nwrapi, nsub]
            refine ⟨y, ?_, ?_⟩
            · rw [if_pos (by omega), Int.toNat_natCast]
              exact hy1
            conv => whnf
            refine ⟨(), [0], ⟨rfl, ⟨?_, rfl, trivial⟩, rfl⟩, rfl, rfl, eq_u64 ?_, trivial⟩
            · show some (({ e with fin := e.fin + 1 } : RD).blk) = some (({ e with fin := min (c + 1) e.b.size } : RD).blk)
              rw [show e.fin + 1 = min (c + 1) e.b.size by omega]
            · rw [hrc, nwrap64 (by have := y.toNat_lt; omega)]
          · have h3 : e.b.size ≤ e.fin := lt_f h3
            have hrc : d.rear c = 0 := by
              unfold Dec.rear
              rw [if_neg (by omega)]
            conv => whnf
            refine ⟨(), [0], ⟨rfl, ⟨?_, rfl, trivial⟩, rfl⟩, rfl, rfl, eq_u64 ?_, trivial⟩
            · show some e.blk = some (({ e with fin := min (c + 1) e.b.size } : RD).blk)
              rw [show min (c + 1) e.b.size = e.fin by omega]
            · rw [hrc]
        · conv => whnf
          refine ⟨by omega, ?_⟩
          conv => whnf
          refine ⟨trivial, ?_⟩
          conv => whnf
          refine ⟨⟨{ e with fin := min (c + 1) e.b.size, win := d.raw (e.got + 8), got := e.got + 8 }, ⟨he.data, he.small, he.rng, he.val, he.total, he.raws, he.taken, he.pos, rfl, ⟨c + 1, by show d.rb + (e.got + 8) = 8 * (c + 1); omega, rfl⟩, by show e.got + 8 ≤ 32; omega⟩, hbad⟩, ⟨[0], ⟨rfl, ⟨?_, rfl, trivial⟩, rfl⟩, rfl, rfl, trivial⟩, ?_⟩
          · have hW : IntKind.u64.wrap (((BitVec.ofInt IntKind.u64.bits (e.win : Int) ||| BitVec.ofInt IntKind.u64.bits (IntKind.u64.wrap (((d.rear c : Nat) : Int) * 2 ^ min ((e.got : Nat) : Int).toNat IntKind.u64.bits))).toNat : Nat) : Int) = ((d.raw (e.got + 8) : Nat) : Int) := by
              rw [Int.toNat_natCast, nshl64 _ _ (by omega), nwrap64 (n := d.rear c * 2 ^ e.got) (by omega), nor64 (by omega) (by omega), Nat.or_comm, nor_add (i := e.got) (by omega), hnext, hw, Nat.add_comm]
            have hG : IntKind.i64.wrap ((e.got : Int) + ((8 : Nat) : Int)) = ((e.got + 8 : Nat) : Int) := by rw [nadd, nwrapi (by omega)]
            show some (Blk.cells 71 [.val (.string e.b), .val (.int .i64 e.pos), .val (.int .i64 ((min (c + 1) e.b.size : Nat) : Int)), .val (.int .u32 e.rng), .val (.int .u32 e.val), .val (.int .i64 e.rem), .val (.int .i64 e.total), .val (.int .u64 (IntKind.u64.wrap (((BitVec.ofInt IntKind.u64.bits (e.win : Int) ||| BitVec.ofInt IntKind.u64.bits (IntKind.u64.wrap (((d.rear c : Nat) : Int) * 2 ^ min ((e.got : Nat) : Int).toNat IntKind.u64.bits))).toNat : Nat) : Int))), .val (.int .i64 (IntKind.i64.wrap ((e.got : Int) + ((8 : Nat) : Int)))), .val (.int .i64 e.raws), .val (.int .i64 e.taken), .val (.bool e.bad)]) = _
            rw [hW, hG]
            rfl
          · show 32 - (e.got + 8) < 32 - e.got
            omega
      · have h2 : 24 < e.got := le_f h2
        conv => whnf
        exact ⟨⟨e, he, hbad, by omega⟩, [0], ⟨rfl, ⟨rfl, rfl, trivial⟩, rfl⟩, rfl, rfl, trivial⟩
    · have h1 := lt_f h1
      conv => whnf
      exact ⟨⟨r, h, rfl, h1⟩, [0], ⟨rfl, ⟨rfl, rfl, trivial⟩, rfl⟩, rfl, rfl, trivial⟩
  · have hg := he.got
    have hw := he.win
    have e3 := he.total; have e4 := he.raws
    have hm := d.raw_mod hgot
    have hdv := d.raw_div hgot
    have hwl := d.raw_lt e.got
    have hwp : 2 ^ e.got ≤ 2 ^ 32 := Nat.pow_le_pow_right (by omega) hg
    conv => whnf
    refine ⟨by omega, ?_⟩
    conv => whnf
    refine ⟨by omega, ?_⟩
    conv => whnf
    have hV : IntKind.i64.wrap (IntKind.u64.wrap (((BitVec.ofInt IntKind.u64.bits (e.win : Int) &&& BitVec.ofInt IntKind.u64.bits (IntKind.u64.wrap (IntKind.u64.wrap (((1 : Nat) : Int) * 2 ^ min ((n : Nat) : Int).toNat IntKind.u64.bits) - ((1 : Nat) : Int)))).toNat : Nat) : Int)) = ((d.raw n : Nat) : Int) := by
      have hp1 : 1 ≤ 2 ^ n := Nat.one_le_two_pow
      rw [Int.toNat_natCast, nshl64 _ _ (by omega), Nat.one_mul, nwrap64 (n := 2 ^ n) (by omega), nsub hp1, nwrap64 (n := 2 ^ n - 1) (by omega), nand64 (by omega) (by omega), nand_mask, hw, hm, nwrapi (by omega)]
    refine Or.inl ⟨i64_of hV, { e with win := (d.rawOn n).raw (e.got - n), got := e.got - n, total := e.total + n, raws := e.raws + n }, ?_, ?_, hbad⟩
    · have hW : ((e.win : Nat) : Int).fdiv (2 ^ min ((n : Nat) : Int).toNat IntKind.u64.bits) = (((d.rawOn n).raw (e.got - n) : Nat) : Int) := by
        rw [Int.toNat_natCast, nshr64 _ _ (by omega), hw, hdv]
      have hG : IntKind.i64.wrap ((e.got : Int) - (n : Int)) = ((e.got - n : Nat) : Int) := by rw [nsub hgot, nwrapi (by omega)]
      have hT : IntKind.i64.wrap ((e.total : Int) + (n : Int)) = ((e.total + n : Nat) : Int) := by rw [nadd, nwrapi (by omega)]
      have hR : IntKind.i64.wrap ((e.raws : Int) + (n : Int)) = ((e.raws + n : Nat) : Int) := by rw [nadd, nwrapi (by omega)]
      show [Blk.cells 71 [.val (.string e.b), .val (.int .i64 e.pos), .val (.int .i64 e.fin), .val (.int .u32 e.rng), .val (.int .u32 e.val), .val (.int .i64 e.rem), .val (.int .i64 (IntKind.i64.wrap ((e.total : Int) + (n : Int)))), .val (.int .u64 (((e.win : Nat) : Int).fdiv (2 ^ min ((n : Nat) : Int).toNat IntKind.u64.bits))), .val (.int .i64 (IntKind.i64.wrap ((e.got : Int) - (n : Int)))), .val (.int .i64 (IntKind.i64.wrap ((e.raws : Int) + (n : Int)))), .val (.int .i64 e.taken), .val (.bool e.bad)]] = _
      rw [hW, hG, hT, hR]
      rfl
    · obtain ⟨c, hc1, hc2⟩ := he.cnt
      exact ⟨he.data, he.small, he.rng, he.val, by show e.total + n = d.nb + n; omega, by show e.raws + n = d.rb + n; omega, he.taken, he.pos, rfl, ⟨c, by show d.rb + n + (e.got - n) = 8 * c; omega, hc2⟩, by show e.got - n ≤ 32; omega⟩
end Go.Proofs.Ytkomikpfnogjcaa
end
section
namespace Go.Proofs.Ytkomikpfnogjcaa
open Go Go.Vc
set_option maxRecDepth 100000
set_option maxHeartbeats 4000000
set_option linter.unusedSimpArgs false

theorem RD.emb {r : RD} {H : List Blk} {e0 env : Env} (hd : H = [r.blk]) (he : embE [0] env e0) : EmbS 1 ⟨e0, [r.blk]⟩ ⟨env, H⟩ := by
  subst hd
  exact ⟨[0], ⟨rfl, ⟨rfl, rfl, trivial⟩, rfl⟩, he⟩
theorem rWholeW (w0 : World) {r : RD} {d : Dec} {N n : Nat} (h : r.sim d) (hi : d.inv N) (hN : N ≤ 1152921504606846900) (hn : 2 ≤ n) (hn2 : n < 4294967296) (hbad : r.bad = false) : CallsA Try.prog w0 33 [.c (.ptr 0 0), .c (.val (.int .u32 n))] [r.blk] fun v H => v = i64 ((d.whole n).1 : Nat) ∧ ∃ r' : RD, H = [r'.blk] ∧ r'.sim (d.whole n).2.2 ∧ r'.bad = !(d.whole n).2.1 := by
  have h32 := len_le (n := n - 1) (k := 32) (by omega)
  refine callsA_of_ev c33_ ?_
  conv => whnf
  simp (disch := omega) only [nsub, nwrap32]
  refine CallsA.lift (H0 := []) [] rfl trivial rfl (ilogW w0 (n := n - 1) (by omega)) ?_
  rintro _ _ ⟨rfl, rfl⟩
  conv => whnf
  refine Or.inl ?_
  conv => whnf
  refine ⟨fun h3 => ?_, fun h3 => ?_⟩
  · have h3 : len (n - 1) ≤ 8 := le_t h3
    have := small_of_len h3
    have hat := (d.at_spec hi (n := n) (by omega) (by omega)).1
    have e1 : IntKind.i64.wrap (IntKind.i64.wrap ((n - 1 : Nat) : Int) + ((1 : Nat) : Int)) = (n : Int) := by
      rw [nwrapi (by omega), nadd, nwrapi (by omega)]
      omega
    conv => whnf
    rw [e1]
    refine (rSymbolW w0 h hi (n := n) (by omega) (by omega)).mono ?_
    rintro _ _ ⟨rfl, rfl⟩
    conv => whnf
    rw [e1]
    simp (disch := omega) only [nadd, nwrapi]
    refine (rUpdateW w0 h hi (by omega) (n := n) (low := d.at n) (high := d.at n + 1) (by omega) (by omega) (Nat.le_refl _) (Nat.lt_succ_self _) hat).mono ?_
    rintro _ _ ⟨rfl, r', rfl, h8, h9⟩
    conv => whnf
    unfold Dec.whole
    rw [if_pos h3]
    exact Or.inl ⟨rfl, r', rfl, h8, by rw [h9, hbad]; rfl⟩
  · have h3 : 8 < len (n - 1) := le_f h3
    obtain ⟨t1, t2⟩ := top_small (n := n - 1) h3
    conv => whnf
    simp (disch := omega) only [nsub, nwrapi]
    refine ⟨by omega, ?_⟩
    conv => whnf
    simp (disch := omega) only [Int.toNat_natCast, nshr32, nadd, nwrapi]
    refine (rSymbolW w0 h hi (n := (n - 1) / 2 ^ (len (n - 1) - 8) + 1) (by omega) (by omega)).mono ?_
    rintro _ _ ⟨rfl, rfl⟩
    have hat := (d.at_spec hi (n := (n - 1) / 2 ^ (len (n - 1) - 8) + 1) (by omega) (by omega)).1
    obtain ⟨a, b, c⟩ := d.uni_inv (n := (n - 1) / 2 ^ (len (n - 1) - 8) + 1) hi (by omega) (by omega) (by omega)
    have hraw := (d.uni ((n - 1) / 2 ^ (len (n - 1) - 8) + 1)).raw_lt (len (n - 1) - 8)
    have hp24 : 2 ^ (len (n - 1) - 8) ≤ 2 ^ 24 := Nat.pow_le_pow_right (by omega) (by omega)
    have hval : (if d.at ((n - 1) / 2 ^ (len (n - 1) - 8) + 1) * 2 ^ (len (n - 1) - 8) + (d.uni ((n - 1) / 2 ^ (len (n - 1) - 8) + 1)).raw (len (n - 1) - 8) ≤ n - 1 then (d.at ((n - 1) / 2 ^ (len (n - 1) - 8) + 1) * 2 ^ (len (n - 1) - 8) + (d.uni ((n - 1) / 2 ^ (len (n - 1) - 8) + 1)).raw (len (n - 1) - 8)) else n - 1) = (d.whole n).1 ∧ decide (d.at ((n - 1) / 2 ^ (len (n - 1) - 8) + 1) * 2 ^ (len (n - 1) - 8) + (d.uni ((n - 1) / 2 ^ (len (n - 1) - 8) + 1)).raw (len (n - 1) - 8) ≤ n - 1) = (d.whole n).2.1 ∧ (d.uni ((n - 1) / 2 ^ (len (n - 1) - 8) + 1)).rawOn (len (n - 1) - 8) = (d.whole n).2.2 := by
      have hw : d.whole n = _ := if_neg (show ¬ len (n - 1) ≤ 8 by omega)
      rw [hw]
      exact ⟨rfl, rfl, rfl⟩
    have ht256 : (n - 1) / 2 ^ (len (n - 1) - 8) + 1 ≤ 256 := t1
    generalize hk : len (n - 1) - 8 = k at *
    generalize (n - 1) / 2 ^ k + 1 = t at *
    have hmul : d.at t * 2 ^ k ≤ 255 * 2 ^ k := Nat.mul_le_mul_right _ (by omega)
    have ht1 : 1 ≤ t := by omega
    conv => whnf
    simp (disch := omega) only [nadd, nwrapi]
    refine (rUpdateW w0 h hi (by omega) (n := t) (low := d.at t) (high := d.at t + 1) ht1 (by omega) (Nat.le_refl _) (Nat.lt_succ_self _) hat).mono ?_
    rintro _ _ ⟨rfl, r', rfl, h8, h9⟩
    conv => whnf
    refine ⟨by omega, ?_⟩
    conv => whnf
    simp (disch := omega) only [Int.toNat_natCast, nshl32, nwrap32]
    refine (rRawW w0 (d := d.uni t) h8 a (by omega) (n := k) (by omega)).mono ?_
    rintro _ _ ⟨rfl, r2, rfl, g8, g9⟩
    conv => whnf
    refine ⟨trivial, ?_⟩
    conv => whnf
    simp (disch := omega) only [nwrap32, nor32, nor_add]
    refine Or.inl ?_
    conv => whnf
    obtain ⟨v1, v2, v3⟩ := hval
    refine ⟨fun h4 => ?_, fun h4 => ?_⟩
    · have h4 : n - 1 < d.at t * 2 ^ k + (d.uni t).raw k := gt_t h4
      conv => whnf
      rw [if_neg (by omega)] at v1
      rw [decide_eq_false (by omega)] at v2
      rw [← v1, ← v2, ← v3, nwrapi (by omega)]
      exact Or.inl ⟨rfl, { r2 with bad := true }, rfl, ⟨g8.data, g8.small, g8.rng, g8.val, g8.total, g8.raws, g8.taken, g8.pos, g8.win, g8.cnt, g8.got⟩, rfl⟩
    · have h4 : d.at t * 2 ^ k + (d.uni t).raw k ≤ n - 1 := gt_f h4
      conv => whnf
      rw [if_pos h4] at v1
      rw [decide_eq_true h4] at v2
      rw [← v1, ← v2, ← v3, nwrapi (by omega)]
      exact Or.inl ⟨rfl, r2, rfl, g8, by rw [g9, h9, hbad]; rfl⟩
theorem sharesW (w0 : World) {fs decay : Nat} (h1 : fs ≤ 32736) (h2 : decay ≤ 16384) : CallsA Try.prog w0 80 [.c (.val (.int .u32 fs)), .c (.val (.int .u32 decay))] [] fun r H' => r = u32 (lapFirst fs decay) ∧ H' = [] := by
  have h3 : (32736 - fs) * (16384 - decay) ≤ 32736 * 16384 := Nat.mul_le_mul (by omega) (by omega)
  refine callsA_of_ev c80_ ?_
  conv => whnf
  simp (disch := omega) only [nsub, nwrap32, nmul, nshr32]
  exact Or.inl ⟨rfl, trivial⟩
theorem rLaplaceW (w0 : World) {r : RD} {d : Dec} {N fs decay : Nat} (h : r.sim d) (hi : d.inv N) (hN : N ≤ 1152921504606846976) (h1 : 1 ≤ fs) (h2 : fs ≤ 32000) (h3 : decay ≤ 16000) :
    CallsA Try.prog w0 35 [.c (.ptr 0 0), .c (.val (.int .u32 fs)), .c (.val (.int .u32 decay))] [r.blk] fun v H => v = i64 (d.lapl fs decay).1 ∧ ∃ r' : RD, H = [r'.blk] ∧ r'.sim (d.lapl fs decay).2 ∧ r'.bad = r.bad := by
  have hlo := hi.lo; have hhi := hi.hi; have hv := hi.val
  have hat := (d.at_spec hi (n := 32768) (by omega) (by omega)).1
  have hspec := lap_spec (fs := fs) (decay := decay) h1 hat
  have hlf := lapFirst_lt (fs := fs) (decay := decay)
  have hdef : d.lapl fs decay = ((lap fs decay (d.at 32768)).1, (d.cut (d.rng / 32768) (lap fs decay (d.at 32768)).2.1 (lap fs decay (d.at 32768)).2.2 32768).norm) := rfl
  have hupd : ∀ x l m, lap fs decay (d.at 32768) = (x, l, m) → CallsA Try.prog w0 30 [.c (.ptr 0 0), .c (.val (.int .i64 l)), .c (.val (.int .i64 m)), .c (.val (.int .i64 ((32768 : Nat) : Int))), .c (.val (.int .u32 (d.rng / 32768 : Nat)))] [r.blk] fun v H => v = .t [] ∧ i64 x = i64 (d.lapl fs decay).1 ∧ ∃ r' : RD, H = [r'.blk] ∧ r'.sim (d.lapl fs decay).2 ∧ r'.bad = r.bad := by
    intro x l m he
    rw [hdef, he]
    rw [he] at hspec
    exact (rUpdateW w0 h hi hN (n := 32768) (by omega) (by omega) hspec.1 hspec.2.1 hspec.2.2).mono fun r H hh => ⟨hh.1, rfl, hh.2⟩
  clear hdef
  refine callsA_of_ev c35_ ?_
  conv => whnf
  refine (rSymbolW w0 h hi (n := 32768) (by omega) (by omega)).mono ?_
  rintro _ _ ⟨rfl, rfl⟩
  generalize d.lapl fs decay = res at *
  generalize d.at 32768 = sym at *
  conv => whnf
  rw [nwrap32 (n := sym) (by omega)]
  refine Or.inr ⟨{p : Int × Nat × Nat // lap fs decay sym = (p.1, p.2.1, min (p.2.1 + p.2.2) 32768) ∧ p.2.1 + p.2.2 < 1048576}, fun ⟨(x, l, f), _⟩ => ⟨[(0, .o (.c (.ptr 0 0))), (8, .o (.c (.val (.int .u32 (d.rng / 32768 : Nat))))), (12, .o (.c (.val (.int .i64 x)))), (10, .o (.c (.val (.int .u32 l)))), (11, .o (.c (.val (.int .u32 f))))], [r.blk]⟩, ?_, ?_⟩
  · conv => whnf
    refine ⟨fun h4 => ?_, fun h4 => ?_⟩
    · have h4 : fs ≤ sym := ge_t h4
      conv => whnf
      refine CallsA.lift (H0 := []) [] rfl trivial rfl (sharesW w0 (fs := fs) (decay := decay) (by omega) (by omega)) ?_
      rintro _ _ ⟨rfl, rfl⟩
      conv => whnf
      simp (disch := omega) only [nadd, nwrap32, nwrapi]
      refine Or.inr ⟨{p : Nat × Nat × Nat // p.2.1 ≤ sym ∧ 1 ≤ p.2.2 ∧ p.2.2 ≤ 16385 ∧ p.1 ≤ p.2.1 ∧ lapGo decay sym sym (1, fs, lapFirst fs decay + 1) = p ∧ (p.2.2 ≤ 1 ∨ sym < p.2.1 + 2 * p.2.2)}, fun ⟨(v, l, f), _⟩ => ⟨[(0, .o (.c (.ptr 0 0))), (8, .o (.c (.val (.int .u32 (d.rng / 32768 : Nat))))), (12, .o (.c (.val (.int .i64 (v : Nat))))), (9, .o (.c (.val (.int .u32 sym)))), (10, .o (.c (.val (.int .u32 l)))), (11, .o (.c (.val (.int .u32 f))))], [r.blk]⟩, ?_, ?_⟩
      · conv => whnf
        refine ⟨{p : Nat × Nat × Nat // p.2.1 ≤ sym ∧ 1 ≤ p.2.2 ∧ p.2.2 ≤ 16385 ∧ p.1 ≤ p.2.1 ∧ lapGo decay sym (sym - p.2.1) p = lapGo decay sym sym (1, fs, lapFirst fs decay + 1)}, fun ⟨(v, l, f), _⟩ => ⟨[(0, .o (.c (.ptr 0 0))), (1, .o (.c (.val (.int .u32 fs)))), (2, .o (.c (.val (.int .u32 decay)))), (8, .o (.c (.val (.int .u32 (d.rng / 32768 : Nat))))), (12, .o (.c (.val (.int .i64 (v : Nat))))), (9, .o (.c (.val (.int .u32 sym)))), (10, .o (.c (.val (.int .u32 l)))), (11, .o (.c (.val (.int .u32 f))))], [r.blk]⟩, fun p => sym - p.1.2.1, ⟨⟨(1, fs, lapFirst fs decay + 1), h4, by simp only; omega, by simp only; omega, by simp only; omega, lapGo_stable _ _ _ _ _ _ _ (Nat.le_refl _) (by omega)⟩, RD.emb rfl ⟨rfl, rfl, rfl, rfl, rfl, rfl, rfl, rfl, trivial⟩⟩, fun ⟨(v, l, f), hl, hf, hf2, hvl, hgo⟩ => ?_⟩
        simp only at hl hf hf2 hvl hgo
        have hmul := lapMul hf2 (show decay ≤ 16384 by omega)
        conv => whnf
        refine ⟨fun h5 => ?_, fun h5 => ?_⟩
        · have h5 : 1 < f := gt_t h5
          conv => whnf
          simp (disch := omega) only [nmul, nadd, nwrap32]
          refine ⟨fun h6 => ?_, fun h6 => ?_⟩
          · have h6 : l + 2 * f ≤ sym := ge_t h6
            conv => whnf
            refine ⟨⟨(v + 1, l + 2 * f, (2 * f - 2) * decay / 32768 + 1), ?_, ?_, ?_, ?_, ?_⟩, RD.emb rfl ⟨rfl, rfl, rfl, rfl, ?_, rfl, ?_, ?_, trivial⟩, ?_⟩
            · exact h6
            · show 1 ≤ (2 * f - 2) * decay / 32768 + 1
              omega
            · show (2 * f - 2) * decay / 32768 + 1 ≤ 16385
              omega
            · show v + 1 ≤ l + 2 * f
              omega
            · rw [← hgo]
              have e : sym - l = (sym - l - 1) + 1 := by omega
              rw [e]
              show _ = (if 1 < f ∧ l + 2 * f ≤ sym then _ else _)
              rw [if_pos ⟨h5, h6⟩]
              exact lapGo_stable _ _ _ _ _ _ _ (Nat.le_refl _) (by omega)
            · refine eq_i64 ?_
              try dsimp only
              rw [nadd, nwrapi (by omega)]
            · refine eq_u32 ?_
              try dsimp only
              rw [nmul, nwrap32 (n := f * 2) (by omega), nadd, nwrap32 (by omega)]
              omega
            · refine eq_u32 ?_
              try dsimp only
              rw [nmul, nwrap32 (n := f * 2) (by omega), nsub (by omega), nwrap32 (n := f * 2 - 2) (by omega), nmul, Nat.mul_comm f 2, nwrap32 (n := (2 * f - 2) * decay) (by omega), nshr32 _ _ (by omega), nadd, nwrap32 (by omega)]
            · show sym - (l + 2 * f) < sym - l
              omega
          · have h6 : sym < l + 2 * f := ge_f h6
            conv => whnf
            refine ⟨⟨(v, l, f), hl, hf, hf2, hvl, ?_, .inr h6⟩, RD.emb rfl ⟨rfl, rfl, rfl, rfl, rfl, rfl, trivial⟩⟩
            rw [← hgo, lapGo_done (by omega)]
        · have h5 : f ≤ 1 := gt_f h5
          conv => whnf
          refine ⟨⟨(v, l, f), hl, hf, hf2, hvl, ?_, .inl h5⟩, RD.emb rfl ⟨rfl, rfl, rfl, rfl, rfl, rfl, trivial⟩⟩
          rw [← hgo, lapGo_done (by omega)]
      · rintro ⟨⟨v, l, f⟩, hl, hf, hf2, hvl, hgo, hex⟩
        simp only at hl hf hf2 hvl hgo hex
        conv => whnf
        refine Or.inl ?_
        conv => whnf
        refine ⟨fun h5 => ?_, fun h5 => ?_⟩
        · have h5 : f ≤ 1 := le_t h5
          have hf1 : f = 1 := by omega
          subst hf1
          have hlap := lap_of h4 hgo (x := (sym - l) / 2) (by simp)
          conv => whnf
          simp (disch := omega) only [nsub, nwrap32, nshr32, nadd, nmul, nwrapi]
          refine ⟨fun h6 => ?_, fun h6 => ?_⟩
          · have h6 := lt_t h6
            conv => whnf
            rw [if_pos (by omega)] at hlap
            refine ⟨⟨(_, _, 1), hlap, ?_⟩, RD.emb rfl ⟨rfl, rfl, ?_, ?_, rfl, trivial⟩⟩
            · simp only; omega
            · refine eq_i64 ?_
              try dsimp only
              simp only [IntKind.wrap_i64]
              omega
            · refine eq_u32 ?_
              try dsimp only
              try omega
          · have h6 := lt_f h6
            conv => whnf
            rw [if_neg (by omega)] at hlap
            refine ⟨⟨(_, _, 1), hlap, ?_⟩, RD.emb rfl ⟨rfl, rfl, ?_, ?_, rfl, trivial⟩⟩
            · simp only; omega
            · refine eq_i64 ?_
              try dsimp only
              skip
            · refine eq_u32 ?_
              try dsimp only
              simp (disch := omega) only [nadd, nwrap32] <;> omega
        · have h5 : 1 < f := le_f h5
          have hlap := lap_of h4 hgo (x := 0) (by rw [if_neg (by omega)])
          conv => whnf
          simp (disch := omega) only [nwrap32, nadd]
          refine ⟨fun h6 => ?_, fun h6 => ?_⟩
          · have h6 := lt_t h6
            conv => whnf
            rw [if_pos (by omega)] at hlap
            refine ⟨⟨(_, _, f), hlap, ?_⟩, RD.emb rfl ⟨rfl, rfl, ?_, ?_, rfl, trivial⟩⟩
            · simp only; omega
            · refine eq_i64 ?_
              try dsimp only
              simp only [IntKind.wrap_i64]
              omega
            · refine eq_u32 ?_
              try dsimp only
              omega
          · have h6 := lt_f h6
            conv => whnf
            rw [if_neg (by omega)] at hlap
            refine ⟨⟨(_, _, f), hlap, ?_⟩, RD.emb rfl ⟨rfl, rfl, ?_, ?_, rfl, trivial⟩⟩
            · simp only; omega
            · refine eq_i64 ?_
              try dsimp only
              simp only [Nat.add_zero]
            · refine eq_u32 ?_
              try dsimp only
              simp (disch := omega) only [nadd, nwrap32] <;> omega
    · have h4 : sym < fs := ge_f h4
      conv => whnf
      refine ⟨⟨(0, 0, fs), ?_, by simp only; omega⟩, RD.emb rfl ⟨rfl, rfl, rfl, rfl, rfl, trivial⟩⟩
      unfold lap
      rw [if_pos h4, Nat.zero_add]
  · rintro ⟨⟨x, l, f⟩, hlap, hlf2⟩
    simp only at hlap hlf2
    conv => whnf
    have e1 : IntKind.u32.wrap ((l : Int) + (f : Int)) = ((l + f : Nat) : Int) := by rw [nadd, nwrap32 (by omega)]
    have e2 : IntKind.i64.wrap (if ((32768 : Nat) : Int) < ((l + f : Nat) : Int) then ((32768 : Nat) : Int) else ((l + f : Nat) : Int)) = ((min (l + f) 32768 : Nat) : Int) := by
      rw [IntKind.wrap_i64]
      split <;> omega
    simp only [e1, cond_true]
    rw [e2, nwrapi (n := l) (by omega)]
    refine (hupd x l _ hlap).mono ?_
    rintro _ _ ⟨rfl, hx, r', rfl, h8, h9⟩
    conv => whnf
    exact Or.inl ⟨hx, r', rfl, h8, h9⟩
def tabI (total : Nat) (rest : List Nat) : Blk := .vec true 2 (encI .i64) [] 1 ((total :: rest).map fun (x : Nat) => (x : Int))
theorem tabI_get {total : Nat} {rest : List Nat} {k i x : Nat} (h : rest[k]? = some x) (hi : i = k + 1) : ((total :: rest).map fun (x : Nat) => (x : Int))[i]? = some (x : Int) := by
  subst hi
  rw [List.map_cons, List.getElem?_cons_succ, List.getElem?_map, h]
  rfl
theorem rSymW (w0 : World) {r : RD} {d : Dec} {N total : Nat} {rest : List Nat} (h : r.sim d) (hi : d.inv N) (hN : N ≤ 1152921504606846976) (ht : TabOk total rest) :
    CallsA Try.prog w0 32 [.c (.ptr 0 0), .c (.vec 1 (rest.length + 1))] [r.blk, tabI total rest] fun v H => v = i64 ((d.icdf total rest).1 : Nat) ∧ ∃ r' : RD, H = [r'.blk, tabI total rest] ∧ r'.sim (d.icdf total rest).2 ∧ r'.bad = r.bad := by
  have hlo := hi.lo; have hhi := hi.hi; have hv := hi.val
  obtain ⟨a1, a2, a3, a4⟩ := d.at_spec hi ht.lo ht.hi
  have htl := ht.lo; have hth := ht.hi; have hrl := ht.len
  obtain ⟨s1, s2, s3, s4, s5, s6⟩ := tabK_spec ht a1
  have hge : ∀ i, i ≤ tabK rest (d.at total) → rest[i]? = some (rest.getD i 0) ∧ rest.getD i 0 ≤ total := by
    intro i hi
    rcases Nat.lt_or_ge i (tabK rest (d.at total)) with h | h
    · exact ⟨(s6 i h).1, by have := (s6 i h).2; omega⟩
    · have : i = tabK rest (d.at total) := by omega
      subst this
      exact ⟨s2, s4⟩
  refine callsA_of_ev c32_ ?_
  conv => whnf
  refine ⟨by omega, ?_⟩
  conv => whnf
  refine ⟨_, rfl, ?_⟩
  conv => whnf
  refine CallsA.lift (H0 := [r.blk]) [0] rfl ⟨rfl, rfl, trivial⟩ rfl (rSymbolW w0 h hi (n := total) htl hth) ?_
  rintro _ _ ⟨rfl, rfl⟩
  conv => whnf
  refine Or.inl ?_
  conv => whnf
  refine ⟨{k : Nat // k ≤ tabK rest (d.at total)}, fun ⟨k, _⟩ => ⟨[(0, .o (.c (.ptr 0 0))), (1, .o (.c (.vec 1 (rest.length + 1)))), (5, .o (.c (.val (.int .i64 (d.at total : Nat))))), (6, .o (.c (.val (.int .u32 (d.rng / total : Nat))))), (7, .o (.c (.val (.int .i64 k)))), (8, .o (.c (.val (.int .i64 (tabLow rest k : Nat)))))], [r.blk, tabI total rest]⟩, fun k => tabK rest (d.at total) - k.1, ⟨⟨0, by omega⟩, [0, 1], ⟨rfl, ⟨rfl, rfl, rfl, rfl, trivial⟩, rfl⟩, rfl, rfl, rfl, rfl, rfl, rfl, trivial⟩, fun ⟨k, hk⟩ => ?_⟩
  have e1 : IntKind.i64.wrap ((k : Int) + ((1 : Nat) : Int)) = ((k + 1 : Nat) : Int) := by rw [nadd, nwrapi (by omega)]
  have hle2 := (hge k hk).2
  conv => whnf
  rw [e1]
  refine ⟨by omega, ?_⟩
  conv => whnf
  refine ⟨_, tabI_get (hge k hk).1 (by omega), ?_⟩
  conv => whnf
  refine ⟨fun h1 => ?_, fun h1 => ?_⟩
  · have h1 : rest.getD k 0 ≤ d.at total := le_t h1
    have hlt : k < tabK rest (d.at total) := by
      rcases Nat.lt_or_ge k (tabK rest (d.at total)) with h | h
      · exact h
      · have : k = tabK rest (d.at total) := by omega
        subst this
        omega
    conv => whnf
    rw [e1]
    refine ⟨by omega, ?_⟩
    conv => whnf
    refine ⟨_, tabI_get (hge k hk).1 (by omega), ?_⟩
    conv => whnf
    refine ⟨⟨k + 1, hlt⟩, ⟨[0, 1], ⟨rfl, ⟨rfl, rfl, rfl, rfl, trivial⟩, rfl⟩, rfl, rfl, rfl, rfl, rfl, eq_i64 ?_, trivial⟩, ?_⟩
    · show ((rest.getD k 0 : Nat) : Int) = (tabLow rest (k + 1) : Nat)
      unfold tabLow
      rw [if_neg (by omega), Nat.add_sub_cancel]
    · show _ - (k + 1) < _ - k
      omega
  · have h1 : d.at total < rest.getD k 0 := le_f h1
    have hkk : k = tabK rest (d.at total) := by
      rcases Nat.lt_or_ge k (tabK rest (d.at total)) with h | h
      · have := (s6 k h).2
        omega
      · omega
    conv => whnf
    rw [e1]
    refine ⟨by omega, ?_⟩
    conv => whnf
    refine ⟨_, tabI_get (hge k hk).1 (by omega), ?_⟩
    conv => whnf
    refine ⟨by omega, ?_⟩
    conv => whnf
    refine ⟨_, rfl, ?_⟩
    conv => whnf
    subst hkk
    refine CallsA.lift (H0 := [r.blk]) [0] rfl ⟨rfl, rfl, trivial⟩ rfl (rUpdateW w0 h hi hN (n := total) (low := tabLow rest (tabK rest (d.at total))) (high := rest.getD (tabK rest (d.at total)) 0) htl hth s5 s3 s4) ?_
    rintro _ _ ⟨rfl, r', rfl, h8, h9⟩
    conv => whnf
    refine ⟨by first | exact trivial | exact ⟨⟨rfl, rfl⟩, trivial⟩, ?_⟩
    conv => whnf
    exact Or.inl ⟨rfl, r', rfl, h8, h9⟩
end Go.Proofs.Ytkomikpfnogjcaa
end
section
namespace Go.Proofs.Ytkomikpfnogjcaa
open Go Go.Vc
set_option maxRecDepth 100000
set_option maxHeartbeats 4000000
set_option linter.unusedSimpArgs false

theorem rdecOfW (w0 : World) {b : ByteArray} (hb : b.size ≤ 65536) : CallsA Try.prog w0 27 [.c (.val (.string b))] [] fun v H => v = .o (.c (.ptr 0 0)) ∧ ∃ r' : RD, H = [r'.blk] ∧ r'.sim (Dec.init (bytesOf b)) ∧ r'.bad = false := by
  have hbl := bytesOf_len b
  have hbb := bytesOf_lt b
  have h7 := (Dec.raw0 (bytesOf b)).bits_lt 7
  have hok0 := Dec.raw0_ok (xs := bytesOf b) hbb (by omega)
  have hok := Dec.bitsOn_ok hok0 7
  have hpre : (Dec.init0 (bytesOf b)).pre := ⟨⟨hok.bytes, hok.len, hok.br, by show 0 ≤ _; omega, by show 9 ≤ _; omega⟩, by show 9 ≤ _; omega, by show 1 ≤ 128; omega, by show 128 ≤ _; omega, by show 127 - _ < _; omega⟩
  have hd0 : (Dec.init0 (bytesOf b)).data = bytesOf b := rfl
  have hx : IntKind.i64.wrap (((8 : Nat) : Int) * (b.size : Int)) = ((8 * b.size : Nat) : Int) := by rw [nmul, nwrapi (by omega)]
  have ht : (if ((8 * b.size : Nat) : Int) < ((7 : Nat) : Int) then ((8 * b.size : Nat) : Int) else ((7 : Nat) : Int)) = ((min 7 (8 * b.size) : Nat) : Int) := by split <;> omega
  have hb0 : (Dec.raw0 (bytesOf b)).byte 0 = (Dec.init0 (bytesOf b)).byte 0 := rfl
  have hby0 := (Dec.init0 (bytesOf b)).byte_lt hpre.ok 0
  have hby1 := (Dec.raw0 (bytesOf b)).byte_lt hok0 1
  have hb7 : (Dec.raw0 (bytesOf b)).bits 7 = (Dec.init0 (bytesOf b)).byte 0 / 2 := by
    have hbr : (Dec.raw0 (bytesOf b)).br = 0 := rfl
    unfold Dec.bits Dec.two
    rw [hbr, Nat.zero_div, Nat.zero_add, hb0]
    simp only [Nat.zero_mod, Nat.sub_zero]
    omega
  have hsim : ∀ v rem pos, (Dec.init0 (bytesOf b)).rng = 128 → v = (Dec.init0 (bytesOf b)).val → ((1 ≤ pos ∧ pos ≤ b.size ∧ (Dec.init0 (bytesOf b)).br = 8 * pos - 1 ∧ rem = (Dec.init0 (bytesOf b)).byte (pos - 1)) ∨ (pos = b.size ∧ (Dec.init0 (bytesOf b)).br = 8 * b.size ∧ rem = 0)) → RD.sim ⟨b, pos, 0, 128, v, rem, 9, 0, 0, 0, min 7 (8 * b.size), false⟩ (Dec.init0 (bytesOf b)) := by
    intro v rem pos _ hv hpos
    refine ⟨rfl, hb, rfl, hv, rfl, rfl, ?_, hpos, rfl, ⟨0, rfl, by show 0 = min 0 b.size; omega⟩, by show 0 ≤ 32; omega⟩
    show min 7 (8 * b.size) = (if 0 + 7 ≤ 8 * (bytesOf b).length then 0 + 7 else max 0 (8 * (bytesOf b).length))
    split <;> omega
  refine callsA_of_ev c27_ ?_
  conv => whnf
  simp only [hx, cond_true]
  rw [ht]
  refine (rNextW w0 (r := ⟨b, 0, 0, 128, 0, 0, 9, 0, 0, 0, min 7 (8 * b.size), false⟩) (d := Dec.init0 (bytesOf b)) hd0 hb).mono ?_
  rintro _ _ (⟨hps, rfl, rfl⟩ | ⟨hps, rfl, rfl⟩)
  · have hps : 0 < b.size := hps
    have hby := (Dec.init0 (bytesOf b)).byte_lt hpre.ok 0
    have hV : IntKind.u32.wrap (IntKind.i64.wrap (((127 : Nat) : Int) - (((Dec.init0 (bytesOf b)).byte 0 : Nat) : Int).fdiv (2 ^ min 1 IntKind.i64.bits))) = ((127 - ((Dec.init0 (bytesOf b)).byte 0) / 2 : Nat) : Int) := by
      rw [nshri _ _ (by omega), nsub (by omega), nwrapi (by omega), nwrap32 (by omega)]
    have hN := rNormalW w0 (r := ⟨b, 1, 0, 128, 127 - ((Dec.init0 (bytesOf b)).byte 0) / 2, (Dec.init0 (bytesOf b)).byte 0, 9, 0, 0, 0, min 7 (8 * b.size), false⟩) (d := Dec.init0 (bytesOf b)) (hsim _ _ _ rfl (by rw [← hb7]; rfl) (Or.inl ⟨by omega, hps, by show (if 0 + 7 ≤ 8 * (bytesOf b).length then 0 + 7 else max 0 (8 * (bytesOf b).length)) = 8 * 1 - 1; rw [if_pos (by omega)], rfl⟩)) hpre
    have hH : [RD.blk ⟨b, 1, 0, 128, 127 - ((Dec.init0 (bytesOf b)).byte 0) / 2, (Dec.init0 (bytesOf b)).byte 0, 9, 0, 0, 0, min 7 (8 * b.size), false⟩] = [Blk.cells 71 [.val (.string b), .val (.int .i64 ((1 : Nat) : Int)), .val (.int .i64 ((0 : Nat) : Int)), .val (.int .u32 ((128 : Nat) : Int)), .val (.int .u32 (IntKind.u32.wrap (IntKind.i64.wrap (((127 : Nat) : Int) - (((Dec.init0 (bytesOf b)).byte 0 : Nat) : Int).fdiv (2 ^ min 1 IntKind.i64.bits))))), .val (.int .i64 (((Dec.init0 (bytesOf b)).byte 0 : Nat) : Int)), .val (.int .i64 ((9 : Nat) : Int)), .val (.int .u64 ((0 : Nat) : Int)), .val (.int .i64 ((0 : Nat) : Int)), .val (.int .i64 ((0 : Nat) : Int)), .val (.int .i64 ((min 7 (8 * b.size) : Nat) : Int)), .val (.bool false)]] := by
      rw [hV]
      rfl
    rw [hH] at hN
    conv => whnf
    refine hN.mono ?_
    rintro _ _ ⟨rfl, r', rfl, h8, h9⟩
    conv => whnf
    exact Or.inl ⟨rfl, r', rfl, h8, h9⟩
  · have hps : b.size ≤ 0 := hps
    have hz : (Dec.init0 (bytesOf b)).byte 0 = 0 := Dec.byte_out (by rw [hd0]; omega)
    have hV : IntKind.u32.wrap (IntKind.i64.wrap (((127 : Nat) : Int) - ((0 : Nat) : Int).fdiv (2 ^ min 1 IntKind.i64.bits))) = ((127 - (0) / 2 : Nat) : Int) := by
      rw [nshri _ _ (by omega), nsub (by omega), nwrapi (by omega), nwrap32 (by omega)]
    have hN := rNormalW w0 (r := ⟨b, 0, 0, 128, 127 - (0) / 2, 0, 9, 0, 0, 0, min 7 (8 * b.size), false⟩) (d := Dec.init0 (bytesOf b)) (hsim _ _ _ rfl (by rw [← hz, ← hb7]; rfl) (Or.inr ⟨by show 0 = b.size; omega, by show (if 0 + 7 ≤ 8 * (bytesOf b).length then 0 + 7 else max 0 (8 * (bytesOf b).length)) = 8 * b.size; rw [if_neg (by omega)]; omega, rfl⟩)) hpre
    have hH : [RD.blk ⟨b, 0, 0, 128, 127 - (0) / 2, 0, 9, 0, 0, 0, min 7 (8 * b.size), false⟩] = [Blk.cells 71 [.val (.string b), .val (.int .i64 ((0 : Nat) : Int)), .val (.int .i64 ((0 : Nat) : Int)), .val (.int .u32 ((128 : Nat) : Int)), .val (.int .u32 (IntKind.u32.wrap (IntKind.i64.wrap (((127 : Nat) : Int) - ((0 : Nat) : Int).fdiv (2 ^ min 1 IntKind.i64.bits))))), .val (.int .i64 ((0 : Nat) : Int)), .val (.int .i64 ((9 : Nat) : Int)), .val (.int .u64 ((0 : Nat) : Int)), .val (.int .i64 ((0 : Nat) : Int)), .val (.int .i64 ((0 : Nat) : Int)), .val (.int .i64 ((min 7 (8 * b.size) : Nat) : Int)), .val (.bool false)]] := by
      rw [hV]
      rfl
    rw [hH] at hN
    conv => whnf
    refine hN.mono ?_
    rintro _ _ ⟨rfl, r', rfl, h8, h9⟩
    conv => whnf
    exact Or.inl ⟨rfl, r', rfl, h8, h9⟩
theorem poweredW (w0 : World) {o : OpV} (h : o.fits w0) : CallsA Try.prog w0 79 [.c (.val o.tab)] [] fun r H' => ∃ n : Int, r = i64 n ∧ H' = [] := by
  obtain ⟨act, oa, ob, oc, ov, otab, rows⟩ := o
  have ht := h.tab
  simp only at ht
  refine callsA_of_ev c79_ ?_
  rcases ht with ⟨rfl, rfl⟩ | ⟨ta, c, rfl, hc1, hc2, hcell⟩
  · conv => whnf
    refine Or.inl ?_
    conv => whnf
    refine ⟨fun _ => ?_, fun h => absurd (lt_f h) (by omega)⟩
    conv => whnf
    exact Or.inl ⟨_, rfl, rfl⟩
  · have hget : ∀ i, i < rows.length → ∃ x : Nat, w0.cell? ((ta.add (i * 1)).add 0) = some (.int .u32 x) := by
      intro i hi
      obtain ⟨_, hx⟩ := hcell i rows[i] (List.getElem?_eq_getElem hi)
      refine ⟨rows[i], ?_⟩
      rw [Deep.add_add, show i * 1 + 0 = i by omega]
      exact hx
    conv => whnf
    refine Or.inl ?_
    conv => whnf
    refine ⟨fun h1 => ?_, fun h1 => ?_⟩
    · conv => whnf
      exact Or.inl ⟨_, rfl, rfl⟩
    have h1 : 2 ≤ rows.length := lt_f h1
    conv => whnf
    refine ⟨fun h2 => ?_, fun h2 => ?_⟩
    · conv => whnf
      exact Or.inl ⟨_, rfl, rfl⟩
    have h2 : rows.length ≤ 257 := gt_f h2
    conv => whnf
    simp (disch := omega) only [nsub, nwrapi]
    refine ⟨by omega, ?_⟩
    conv => whnf
    obtain ⟨x1, hx1⟩ := hget (rows.length - 1) (by omega)
    refine ⟨_, hx1, rfl, ?_⟩
    conv => whnf
    refine ⟨by omega, ?_⟩
    conv => whnf
    obtain ⟨x0, hx0⟩ := hget 0 (by omega)
    refine ⟨_, hx0, rfl, ?_⟩
    conv => whnf
    refine ⟨fun _ => ?_, fun _ => ?_⟩
    · conv => whnf
      exact Or.inl ⟨_, rfl, rfl⟩
    conv => whnf
    refine Or.inl ?_
    conv => whnf
    refine ⟨{i : Nat // 2 ≤ i ∧ i ≤ rows.length}, fun ⟨i, _⟩ => ⟨[(0, .o (.c (.val (.slice (some ta) rows.length c)))), (3, .o (.c (.val (.int .i64 i))))], []⟩, fun i => rows.length - i.1, ⟨⟨2, by omega, by omega⟩, [], ⟨rfl, trivial, rfl⟩, rfl, rfl, trivial⟩, fun ⟨i, hi1, hi⟩ => ?_⟩
    conv => whnf
    refine ⟨fun h3 => ?_, fun h3 => ?_⟩
    · have h3 : i < rows.length := lt_t h3
      obtain ⟨y1, hy1⟩ := hget i h3
      obtain ⟨y2, hy2⟩ := hget (i - 1) (by omega)
      have e1 : IntKind.i64.wrap ((i : Int) - ((1 : Nat) : Int)) = ((i - 1 : Nat) : Int) := by rw [nsub (by omega), nwrapi (by omega)]
      conv => whnf
      refine Or.inl ?_
      conv => whnf
      refine ⟨by omega, ?_⟩
      conv => whnf
      refine ⟨_, hy1, rfl, ?_⟩
      conv => whnf
      rw [e1]
      refine ⟨by omega, ?_⟩
      conv => whnf
      refine ⟨_, hy2, rfl, ?_⟩
      conv => whnf
      refine ⟨fun _ => ?_, fun _ => ?_⟩
      · conv => whnf
        exact Or.inl ⟨_, rfl, rfl⟩
      · conv => whnf
        refine ⟨⟨i + 1, by omega, by omega⟩, ⟨[], ⟨rfl, trivial, rfl⟩, rfl, eq_i64 ?_, trivial⟩, ?_⟩
        · rw [nadd, nwrapi (by omega)]
        · show rows.length - (i + 1) < rows.length - i
          omega
    · conv => whnf
      refine Or.inl ?_
      conv => whnf
      refine ⟨{i : Nat // 1 ≤ i ∧ i ≤ 9}, fun ⟨i, _⟩ => ⟨[(0, .o (.c (.val (.slice (some ta) rows.length c)))), (4, .o (.c (.val (.int .i64 i))))], []⟩, fun i => 9 - i.1, ⟨⟨1, by omega, by omega⟩, [], ⟨rfl, trivial, rfl⟩, rfl, rfl, trivial⟩, fun ⟨i, hi1, hi⟩ => ?_⟩
      conv => whnf
      refine ⟨fun h3 => ?_, fun h3 => ?_⟩
      · have h3 : i ≤ 8 := le_t h3
        conv => whnf
        refine Or.inl ?_
        conv => whnf
        refine ⟨by omega, ?_⟩
        conv => whnf
        refine ⟨_, hx0, rfl, ?_⟩
        conv => whnf
        refine ⟨by omega, ?_⟩
        conv => whnf
        refine ⟨fun _ => ?_, fun _ => ?_⟩
        · conv => whnf
          exact Or.inl ⟨_, rfl, rfl⟩
        · conv => whnf
          refine ⟨⟨i + 1, by omega, by omega⟩, ⟨[], ⟨rfl, trivial, rfl⟩, rfl, eq_i64 ?_, trivial⟩, ?_⟩
          · rw [nadd, nwrapi (by omega)]
          · show 9 - (i + 1) < 9 - i
            omega
      · conv => whnf
        exact Or.inl ⟨_, rfl, rfl⟩
end Go.Proofs.Ytkomikpfnogjcaa
end
section
namespace Go.Proofs.Ytkomikpfnogjcaa
open Go Go.Vc
set_option maxRecDepth 100000
set_option maxHeartbeats 8000000
set_option linter.unusedSimpArgs false

theorem opFineW (w0 : World) {o : OpV} (h : o.fits w0) : CallsA Try.prog w0 28 [.a o.cells, .c (.val (.bool false))] [] fun r H' => ∃ b : Bool, r = .o (.c (.val (.bool b))) ∧ H' = [] := by
  obtain ⟨act, oa, ob, oc, ov, otab, rows⟩ := o
  refine callsA_of_ev c28_ ?_
  conv => whnf
  refine Or.inl ?_
  conv => whnf
  repeat' (first
    | (refine CallsA.lift (H0 := []) [] rfl trivial rfl (poweredW w0 h) ?_; rintro _ _ ⟨n, rfl, rfl⟩; (conv => whnf); refine ⟨trivial, ?_⟩; (conv => whnf))
    | (refine ⟨⟨trivial, trivial, trivial, trivial⟩, ?_⟩; (conv => whnf))
    | (refine ⟨trivial, ?_⟩; (conv => whnf))
    | (refine ⟨fun h => absurd h (by decide), fun _ => ?_⟩; (conv => whnf))
    | (refine ⟨fun _ => ?_, fun h => absurd h (by decide)⟩; (conv => whnf))
    | exact Or.inr ⟨[], .o (.c (.val (.bool _))), [], ⟨rfl, trivial, rfl⟩, rfl, _, rfl, rfl⟩
    | (refine ⟨fun _ => ?_, fun _ => ?_⟩ <;> (conv => whnf)))
theorem used_after {w0 : World} {b : ByteArray} {l : List OpV} (hb : b.size ≤ 65536) (hl : l.length ≤ 400) (hg : ∀ o ∈ l, o.good w0) (k : Nat) (hk : k ≤ l.length) : ((Dec.init (bytesOf b)).after (l.take k)).inv (33 + 64 * k) ∧ ((Dec.init (bytesOf b)).after (l.take k)).used := by
  have hbl := bytesOf_len b
  obtain ⟨i1, i2, i3⟩ := Dec.init_inv (bytesOf_lt b) (by omega)
  have i4 := Dec.init_lf (bytesOf b)
  have hlt : (l.take k).length = k := by rw [List.length_take]; omega
  have h1 := Dec.after_inv (w0 := w0) (l := l.take k) i1 (by omega) fun o ho => hg o (List.mem_of_mem_take ho)
  rw [hlt] at h1
  refine ⟨h1, ?_, by have := h1.nb; omega, by have := h1.rb; omega⟩
  have pay : ∀ (m : List OpV) (d : Dec) (N : Nat), d.inv N → N + 64 * m.length ≤ 100000 → (∀ o ∈ m, o.good w0) → lf d.rng + 8 ≤ 8 * d.nb → lf (d.after m).rng + 8 ≤ 8 * (d.after m).nb := by
    intro m
    induction m with
    | nil => intro d N _ _ _ h; exact h
    | cons o r ih =>
      intro d N hd hN hgo h
      simp only [List.length_cons] at hN
      refine ih _ (N + 64) (Dec.act_inv hd (by omega) (hgo o (by simp))) (by omega) (fun x hx => hgo x (by simp [hx])) ?_
      have := Dec.grows_act hd (hgo o (by simp))
      unfold Dec.grows at this
      omega
  exact pay (l.take k) _ 33 i1 (by omega) (fun o ho => hg o (List.mem_of_mem_take ho)) i4
theorem RD.sim_size {r : RD} {d : Dec} (h : r.sim d) {n : Nat} (h1 : n ≤ r.b.size) (h2 : r.pos ≤ n) (h3 : r.fin = 0) : RD.sim { r with b := r.b.extract 0 n } (d.size n) := by
  have hsz : (r.b.extract 0 n).size = n := by
    rw [ByteArray.size_extract]
    omega
  have hl := Dec.data_len h
  have hdata : (d.size n).data = bytesOf (r.b.extract 0 n) := by
    show d.data.take n = _
    rw [h.data]
    unfold bytesOf
    rw [← List.map_take]
    congr 1
    rw [ByteArray.data_extract, Array.toList_extract, List.extract_eq_take_drop]
    simp
  have hbyte : ∀ i, i < n → (d.size n).byte i = d.byte i := by
    intro i hi
    show ((d.data.take n).getD i 0).toNat = (d.data.getD i 0).toNat
    rw [List.getD_eq_getElem?_getD, List.getD_eq_getElem?_getD, List.getElem?_take, if_pos hi]
  obtain ⟨c, hc1, hc2⟩ := h.cnt
  have hz : (c = 0 ∧ r.got = 0 ∧ d.rb = 0) ∨ r.b.size = 0 := by omega
  refine ⟨hdata, by show (r.b.extract 0 n).size ≤ _; rw [hsz]; have := h.small; omega, h.rng, h.val, h.total, h.raws, h.taken, ?_, ?_, ?_, h.got⟩
  · show (1 ≤ r.pos ∧ r.pos ≤ (r.b.extract 0 n).size ∧ d.br = 8 * r.pos - 1 ∧ r.rem = (d.size n).byte (r.pos - 1)) ∨ (r.pos = (r.b.extract 0 n).size ∧ d.br = 8 * (r.b.extract 0 n).size ∧ r.rem = 0)
    rw [hsz]
    rcases h.pos with ⟨p1, p2, p3, p4⟩ | ⟨p1, p2, p3⟩
    · exact Or.inl ⟨p1, h2, p3, by rw [hbyte _ (by omega)]; exact p4⟩
    · exact Or.inr ⟨by omega, by omega, p3⟩
  · show r.win = (d.size n).raw r.got
    rcases hz with ⟨_, g0, _⟩ | h0
    · rw [h.win, g0]
      rfl
    · rw [h.win]
      have : d.data = [] := List.length_eq_zero_iff.1 (by omega)
      refine (Dec.raw_congr (d := d) (e := d.size n) ?_ rfl _).symm
      show d.data.take n = d.data
      rw [this, List.take_nil]
  · refine ⟨c, hc1, ?_⟩
    show r.fin = min c (r.b.extract 0 n).size
    rw [hsz]
    omega
theorem tabl_rows (rows : List Nat) : tabl rows.length (fun j => rows.getD j 0) = rows.map fun (x : Nat) => (x : Int) := by
  apply List.ext_getElem?
  intro i
  rcases Nat.lt_or_ge i rows.length with h | h
  · rw [tabl_get h, List.getElem?_map, List.getD_eq_getElem?_getD, List.getElem?_eq_getElem h]
    rfl
  · rw [List.getElem?_eq_none (by rw [tabl_len]; exact h), List.getElem?_eq_none (by rw [List.length_map]; exact h)]
theorem tabl_zero' (m : Nat) : List.replicate m (0 : Int) = tabl m fun _ => 0 := by
  apply List.ext_getElem?
  intro j
  rcases Nat.lt_or_ge j m with h | h
  · rw [tabl_get h, List.getElem?_replicate, if_pos h]
    rfl
  · rw [List.getElem?_eq_none (by rw [List.length_replicate]; exact h), List.getElem?_eq_none (by rw [tabl_len]; exact h)]
def seenB (ss : List SeenV) : Blk := .vec true 37 encSeen [] 6 ss
def sdSt (v : Value) (l : List OpV) (d0 : Dec) (r : RD) : Nat → S
  | 0 => ⟨[(6, .o (.c (.ptr 0 0))), (7, .o (.c (.val (.slice none 0 0)))), (30, .o (.c (.val v))), (31, .o (.c (.val (.int .i64 l.length)))), (32, .o (.c (.val (.int .i64 ((0 : Nat) : Int)))))], [r.blk]⟩
  | k + 1 => ⟨[(6, .o (.c (.ptr 0 0))), (7, .o (.c (.vec 1 (k + 1)))), (30, .o (.c (.val v))), (31, .o (.c (.val (.int .i64 l.length)))), (32, .o (.c (.val (.int .i64 ((k + 1 : Nat) : Int)))))], [r.blk, seenB (d0.seen (l.take (k + 1)))]⟩
theorem sDecodeW (w0 : World) {b : ByteArray} {v : Value} {l : List OpV} (hv : opsAt w0 v l) (hb : b.size ≤ 2000) (hl : l.length ≤ 400) (hr : ∀ o ∈ l, o.reads) : CallsA Try.prog w0 13 [.c (.val (.string b)), .c (.val v)] [] fun r H =>
    (r = .t [.c (.val (.slice none 0 0)), .c (.val (.int .i64 ((2 : Nat) : Int)))] ∧ H = []) ∨ (l = [] ∧ r = .t [.c (.val (.slice none 0 0)), .c (.val (.int .i64 ((1 : Nat) : Int)))] ∧ H = []) ∨ (l ≠ [] ∧ r = .t [.c (.vec 0 l.length), .c (.val (.int .i64 ((1 : Nat) : Int)))] ∧ H = [seenB ((Dec.init (bytesOf b)).seen l)]) := by
  have hg : ∀ o ∈ l, o.good w0 := fun o ho => (hr o ho).good (hv.fits o ho)
  have hus := used_after (w0 := w0) (b := b) (l := l) (by omega) hl hg
  refine callsA_of_ev c13_ ?_
  conv => whnf
  refine Or.inl ?_
  conv => whnf
  refine ⟨fun h => absurd (gt_t h) (by omega), fun _ => ?_⟩
  rcases hv with ⟨rfl, rfl⟩ | ⟨a, c, rfl, hc1, hc2, hbb⟩
  · conv => whnf
    refine ⟨fun h => absurd (gt_t h) (by omega), fun _ => ?_⟩
    conv => whnf
    refine (rdecOfW w0 (b := b) (by omega)).mono ?_
    rintro _ _ ⟨rfl, r, rfl, hsim, hbad⟩
    conv => whnf
    refine Or.inl ?_
    conv => whnf
    refine ⟨Unit, fun _ => ⟨[(7, .o (.c (.val (.slice none 0 0)))), (31, .o (.c (.val (.int .i64 ((0 : Nat) : Int))))), (32, .o (.c (.val (.int .i64 ((0 : Nat) : Int)))))], []⟩, fun _ => 0, ⟨(), [], ⟨rfl, trivial, rfl⟩, rfl, rfl, rfl, trivial⟩, fun _ => ?_⟩
    conv => whnf
    refine ⟨fun h => absurd (lt_t h) (by omega), fun _ => ?_⟩
    conv => whnf
    exact Or.inl (Or.inr (Or.inl ⟨rfl, rfl, rfl⟩))
  conv => whnf
  refine ⟨fun h => absurd (gt_t h) (by omega), fun _ => ?_⟩
  conv => whnf
  refine (rdecOfW w0 (b := b) (by omega)).mono ?_
  rintro _ _ ⟨rfl, r0, rfl, hsim0, hbad0⟩
  conv => whnf
  refine Or.inl ?_
  conv => whnf
  generalize hd0 : Dec.init (bytesOf b) = d0 at *
  refine ⟨{p : Nat × RD × Dec // p.1 ≤ l.length ∧ p.2.2 = d0.after (l.take p.1) ∧ p.2.1.sim p.2.2}, fun ⟨(k, r, _), _⟩ => sdSt (.slice (some a) l.length c) l d0 r k, fun p => l.length - p.1.1, ⟨⟨(0, r0, d0), Nat.zero_le _, rfl, hsim0⟩, [0], ⟨rfl, ⟨rfl, rfl, trivial⟩, rfl⟩, rfl, rfl, rfl, rfl, rfl, trivial⟩, fun ⟨(k, r, d), hk, hd, hsim⟩ => ?_⟩
  simp only at hk hd hsim
  obtain ⟨hinv, hused⟩ := hus k hk
  rw [← hd] at hinv hused
  have hwant : k < l.length → ∀ o, l[k]? = some o → d0.after (l.take (k + 1)) = (d.act o).2.2 ∧ d0.seen (l.take (k + 1)) = d0.seen (l.take k) ++ [d.tells o] := by
    intro h o ho
    have ht := take_snoc' ho
    rw [← ht, hd]
    exact ⟨Dec.after_snoc _ _ _, Dec.seen_snoc _ _ _⟩
  have hslen := d0.seen_len (l.take k)
  rw [List.length_take, Nat.min_eq_left hk] at hslen
  have hnext : k < l.length → (d0.after (l.take (k + 1))).inv (33 + 64 * (k + 1)) ∧ (d0.after (l.take (k + 1))).used := fun h => hus (k + 1) h
  rcases k with _ | k
  · conv => whnf
    refine ⟨fun h3 => ?_, fun h3 => ?_⟩
    · have h3 : 0 < l.length := lt_t h3
      obtain ⟨o, ho⟩ : ∃ o, l[0]? = some o := ⟨_, List.getElem?_eq_getElem h3⟩
      obtain ⟨⟨x0, x1, x2, x3, x4, x5, x6⟩, hfit⟩ := hbb 0 o ho
      obtain ⟨hw1, hw2⟩ := hwant h3 o ho
      obtain ⟨hi2, hu2⟩ := hnext h3
      rw [hw1] at hi2 hu2
      have hrd := hr o (List.mem_of_getElem? ho)
      have a32 := hfit.a32; have b32 := hfit.b32; have c32 := hfit.c32
      have htab := hfit.tab
      conv => whnf
      refine Or.inl ?_
      conv => whnf
      refine ⟨by omega, ?_⟩
      conv => whnf
      refine ⟨_, x0, rfl, ?_⟩
      conv => whnf
      refine ⟨_, x1, rfl, ?_⟩
      conv => whnf
      refine ⟨_, x2, rfl, ?_⟩
      conv => whnf
      refine ⟨_, x3, rfl, ?_⟩
      conv => whnf
      refine ⟨_, x4, rfl, ?_⟩
      conv => whnf
      refine ⟨_, x5, x6, ?_⟩
      conv => whnf
      refine Or.inl ?_
      conv => whnf
      refine CallsA.lift (H0 := []) [] rfl trivial rfl (opFineW w0 hfit) ?_
      rintro _ _ ⟨b1, rfl, rfl⟩
      conv => whnf
      refine ⟨fun _ => ?_, fun _ => ?_⟩
      · conv => whnf
        exact Or.inr ⟨[], .t [.c (.val (.slice none 0 0)), .c (.val (.int .i64 ((2 : Nat) : Int)))], [], ⟨rfl, trivial, rfl⟩, rfl, Or.inl ⟨rfl, rfl⟩⟩
      conv => whnf
      refine Or.inr ⟨{p : RD × Bool // p.1.sim (d.act o).2.2}, fun ⟨(p, fl), _⟩ => ⟨[(6, .o (.c (.ptr 0 0))), (7, .o (.c (.val (.slice none 0 0)))), (10, .o (.c (.val (.int .i64 (d.act o).1)))), (11, .o (.c (bif fl then .kb (d.act o).2.1 else .val (.bool (d.act o).2.1)))), (30, .o (.c (.val (.slice (some a) l.length c)))), (31, .o (.c (.val (.int .i64 l.length)))), (32, .o (.c (.val (.int .i64 ((0 : Nat) : Int)))))], [p.blk]⟩, ?_, fun ⟨(p, fl), hp⟩ => ?_⟩
      · clear x0 x1 x2 x3 x4 x5 x6 hw1 hw2 hi2 hu2 hbb hr hg hus hwant hnext hslen
        obtain ⟨act, oa, ob, oc, ov, otab, rows⟩ := o
        simp only at a32 b32 c32 htab
        rcases hrd with ⟨e, h1, h2, h4, h5⟩ | ⟨e, h1, h2⟩ | ⟨e, total, rest, h1⟩ | ⟨e, h1⟩ | ⟨e, h1⟩ | ⟨e, h1, h2, h4, _⟩ | ⟨e, h1⟩
        · simp only at e h1 h2 h4 h5
          subst e
          have hat := (d.at_spec hinv (n := oc) (by omega) (by omega)).1
          have hact : d.act ⟨0, oa, ob, oc, ov, otab, rows⟩ = (((d.at oc : Nat) : Int), true, if oa ≤ d.at oc ∧ d.at oc < ob then (d.cut (d.rng / oc) oa ob oc).norm else d.uni oc) := rfl
          have hno : ¬ (oa ≤ d.at oc ∧ d.at oc < ob) → (d.act ⟨0, oa, ob, oc, ov, otab, rows⟩).2.2 = (d.cut (d.rng / oc) (d.at oc) (d.at oc + 1) oc).norm := by
            intro hc
            rw [hact, if_neg hc]
            rfl
          have hyes : (oa ≤ d.at oc ∧ d.at oc < ob) → (d.act ⟨0, oa, ob, oc, ov, otab, rows⟩).2.2 = (d.cut (d.rng / oc) oa ob oc).norm := by
            intro hc
            rw [hact, if_pos hc]
          clear hact
          have q1 := rUpdateW w0 hsim hinv (by omega) (n := oc) (low := d.at oc) (high := d.at oc + 1) (by omega) (by omega) (Nat.le_refl _) (Nat.lt_succ_self _) hat
          have q2 : oa ≤ d.at oc → d.at oc < ob → _ := fun g1 g2 => rUpdateW w0 hsim hinv (by omega) (n := oc) (low := oa) (high := ob) (by omega) (by omega) g1 g2 h2
          have q3 := rSymbolW w0 hsim hinv (n := oc) (by omega) (by omega)
          conv => whnf
          refine ⟨fun _ => ?_, (fun h => by cases h)⟩
          conv => whnf
          rw [nwrapi (n := oc) (by omega)]
          refine CallsA.lift (H0 := [RD.blk r]) [0] rfl ⟨rfl, rfl, trivial⟩ rfl q3 ?_
          rintro _ _ ⟨rfl, rfl⟩
          conv => whnf
          simp (disch := omega) only [nadd, nwrapi]
          refine Or.inl ?_
          conv => whnf
          rw [nwrapi (n := oa) (by omega)]
          refine ⟨fun h6 => ?_, fun h6 => ?_⟩
          · have h6 : oa ≤ d.at oc := le_t h6
            conv => whnf
            rw [nwrapi (n := ob) (by omega)]
            refine ⟨fun h7 => ?_, fun h7 => ?_⟩
            · have h7 : d.at oc < ob := lt_t h7
              conv => whnf
              refine ⟨fun h8 => ?_, fun h8 => absurd h2 (by have := le_f h8; omega)⟩
              conv => whnf
              simp (disch := omega) only [nwrapi]
              refine CallsA.lift (H0 := [RD.blk r]) [0] rfl ⟨rfl, rfl, trivial⟩ rfl (q2 h6 h7) ?_
              rintro _ _ ⟨rfl, r', rfl, g8, g9⟩
              conv => whnf
              exact ⟨⟨(r', true), by rw [hyes ⟨h6, h7⟩]; exact g8⟩, [0], ⟨rfl, ⟨rfl, rfl, trivial⟩, rfl⟩, rfl, rfl, rfl, rfl, rfl, rfl, rfl, trivial⟩
            · have h7 : ob ≤ d.at oc := lt_f h7
              conv => whnf
              rw [nwrapi (n := oc) (by omega)]
              refine CallsA.lift (H0 := [RD.blk r]) [0] rfl ⟨rfl, rfl, trivial⟩ rfl q1 ?_
              rintro _ _ ⟨rfl, r', rfl, g8, g9⟩
              conv => whnf
              exact ⟨⟨(r', true), by rw [hno (by omega)]; exact g8⟩, [0], ⟨rfl, ⟨rfl, rfl, trivial⟩, rfl⟩, rfl, rfl, rfl, rfl, rfl, rfl, rfl, trivial⟩
          · have h6 : d.at oc < oa := le_f h6
            conv => whnf
            rw [nwrapi (n := oc) (by omega)]
            refine CallsA.lift (H0 := [RD.blk r]) [0] rfl ⟨rfl, rfl, trivial⟩ rfl q1 ?_
            rintro _ _ ⟨rfl, r', rfl, g8, g9⟩
            conv => whnf
            exact ⟨⟨(r', true), by rw [hno (by omega)]; exact g8⟩, [0], ⟨rfl, ⟨rfl, rfl, trivial⟩, rfl⟩, rfl, rfl, rfl, rfl, rfl, rfl, rfl, trivial⟩
        · simp only at e h1 h2
          subst e
          conv => whnf
          refine ⟨(fun h => by cases h), fun _ => ?_⟩
          conv => whnf
          refine ⟨fun _ => ?_, (fun h => by cases h)⟩
          conv => whnf
          rw [nwrapi (n := oa) (by omega)]
          refine CallsA.lift (H0 := [RD.blk r]) [0] rfl ⟨rfl, rfl, trivial⟩ rfl (rBitW w0 hsim hinv (by omega) (k := oa) h1 h2) ?_
          rintro _ _ ⟨rfl, r', rfl, g8, g9⟩
          conv => whnf
          exact ⟨⟨(r', true), g8⟩, [0], ⟨rfl, ⟨rfl, rfl, trivial⟩, rfl⟩, rfl, rfl, rfl, rfl, rfl, rfl, rfl, trivial⟩
        · simp only at e h1
          subst e
          rcases htab with ⟨_, hrn⟩ | ⟨ta, ct, rfl, t1, t2, t3⟩
          · have := h1.cons
            rw [hrn] at this
            cases this
          have h63 := h1.len
          obtain rfl := h1.cons
          have hok := h1.ok
          conv => whnf
          refine ⟨(fun h => by cases h), fun _ => ?_⟩
          conv => whnf
          refine ⟨(fun h => by cases h), fun _ => ?_⟩
          conv => whnf
          refine ⟨fun _ => ?_, (fun h => by cases h)⟩
          conv => whnf
          refine ⟨⟨by omega, by omega, by simp only [List.length_cons]; omega, by simp only [List.length_cons]; omega, by omega⟩, ?_⟩
          conv => whnf
          refine ⟨Int, encI .i64, 0, fun _ => rfl, rfl, ?_⟩
          conv => whnf
          refine Or.inl ?_
          conv => whnf
          refine ⟨_root_.Fin (rest.length + 2), fun ⟨i, _⟩ => ⟨[(6, .o (.c (.ptr 0 0))), (7, .o (.c (.val (.slice none 0 0)))), (11, .o (.c (.kb true))), (16, .o (.c (.vec 1 (rest.length + 1)))), (102, .o (.c (.val (.slice (some ta) (rest.length + 1) ct)))), (103, .o (.c (.val (.int .i64 ((rest.length + 1 : Nat) : Int))))), (104, .o (.c (.val (.int .i64 i)))), (30, .o (.c (.val (.slice (some a) l.length c)))), (31, .o (.c (.val (.int .i64 l.length)))), (32, .o (.c (.val (.int .i64 ((0 : Nat) : Int)))))], [RD.blk r, .vec true 2 (encI .i64) [] 1 (tabl (rest.length + 1) fun j => if j < i then (total :: rest).getD j 0 else 0)]⟩, fun i => rest.length + 1 - i.1, ⟨⟨0, by omega⟩, [0, 2], ⟨rfl, ⟨rfl, rfl, ?_, rfl, trivial⟩, rfl⟩, rfl, rfl, rfl, rfl, rfl, rfl, rfl, rfl, rfl, rfl, trivial⟩, fun ⟨i, hi⟩ => ?_⟩
          · show some (Blk.vec true 2 (encI .i64) [] 1 (List.replicate (rest.length + 1) 0)) = some (Blk.vec true 2 (encI .i64) [] 1 (tabl (rest.length + 1) fun j => if j < 0 then (total :: rest).getD j 0 else 0))
            rw [tabl_zero', tabl_ext]
            intro j hj
            rw [if_neg (by omega)]
          conv => whnf
          refine ⟨fun h6 => ?_, fun h6 => ?_⟩
          · have h6 : i < rest.length + 1 := lt_t h6
            obtain ⟨tx1, tx2⟩ := t3 i ((total :: rest).getD i 0) (by rw [List.getD_eq_getElem?_getD, List.getElem?_eq_getElem (by simp only [List.length_cons]; omega)]; rfl)
            have tx3 : w0.cell? ((ta.add (i * 1)).add 0) = some (.int .u32 ((total :: rest).getD i 0 : Nat)) := by
              rw [Deep.add_add, show i * 1 + 0 = i by omega]
              exact tx2
            have tx4 : (tabl (rest.length + 1) fun j => if j < i then (total :: rest).getD j 0 else 0)[i]? = some (((0 : Nat)) : Int) := by
              rw [tabl_get h6, if_neg (by omega)]
            generalize hgx : (total :: rest).getD i 0 = gx at *
            conv => whnf
            refine ⟨by omega, ?_⟩
            conv => whnf
            refine ⟨_, tx3, rfl, ?_⟩
            conv => whnf
            refine ⟨by omega, ?_⟩
            conv => whnf
            rw [nwrapi (n := gx) (by omega)]
            refine ⟨_, (gx : Int), tx4, rfl, ?_⟩
            conv => whnf
            refine ⟨⟨i + 1, by omega⟩, ⟨[0, 1], ⟨rfl, ⟨rfl, rfl, ?_, rfl, trivial⟩, rfl⟩, rfl, rfl, rfl, rfl, rfl, rfl, eq_i64 ?_, rfl, rfl, rfl, trivial⟩, ?_⟩
            · show some (Blk.vec true 2 (encI .i64) [] 1 ((tabl (rest.length + 1) fun j => if j < i then (total :: rest).getD j 0 else 0).set i (gx : Int))) = some (Blk.vec true 2 (encI .i64) [] 1 (tabl (rest.length + 1) fun j => if j < i + 1 then (total :: rest).getD j 0 else 0))
              rw [tabl_set, tabl_ext]
              intro j hj
              by_cases hji : j = i
              · rw [if_pos hji, if_pos (by omega), hji, hgx]
              · rw [if_neg hji]
                by_cases hjl : j < i
                · rw [if_pos hjl, if_pos (by omega)]
                · rw [if_neg hjl, if_neg (by omega)]
            · rw [nadd, nwrapi (by omega)]
            · show rest.length + 1 - (i + 1) < rest.length + 1 - i
              omega
          · have h6 : rest.length + 1 ≤ i := lt_f h6
            have hfull : (tabl (rest.length + 1) fun j => if j < i then (total :: rest).getD j 0 else 0) = (total :: rest).map fun (x : Nat) => (x : Int) := by
              rw [← tabl_rows]
              refine tabl_ext fun j hj => ?_
              rw [if_pos (by omega)]
            rw [hfull]
            conv => whnf
            refine CallsA.lift (H0 := [RD.blk r, tabI total rest]) [0, 1] rfl ⟨rfl, rfl, rfl, rfl, trivial⟩ rfl (rSymW w0 hsim hinv (by omega) hok) ?_
            rintro _ _ ⟨rfl, r', rfl, g8, g9⟩
            conv => whnf
            exact ⟨⟨(r', true), g8⟩, [0], ⟨rfl, ⟨rfl, rfl, trivial⟩, rfl⟩, rfl, rfl, rfl, rfl, rfl, rfl, rfl, trivial⟩
        · simp only at e h1
          subst e
          have hs2 : RD.sim { r with bad := false } d := ⟨hsim.data, hsim.small, hsim.rng, hsim.val, hsim.total, hsim.raws, hsim.taken, hsim.pos, hsim.win, hsim.cnt, hsim.got⟩
          conv => whnf
          refine ⟨(fun h => by cases h), fun _ => ?_⟩
          conv => whnf
          refine ⟨(fun h => by cases h), fun _ => ?_⟩
          conv => whnf
          refine ⟨(fun h => by cases h), fun _ => ?_⟩
          conv => whnf
          refine ⟨fun _ => ?_, (fun h => by cases h)⟩
          conv => whnf
          refine CallsA.lift (H0 := [RD.blk { r with bad := false }]) [0] rfl ⟨rfl, rfl, trivial⟩ rfl (rWholeW w0 hs2 hinv (by omega) (n := oa) h1 a32 rfl) ?_
          rintro _ _ ⟨rfl, r', rfl, g8, g9⟩
          conv => whnf
          rw [g9, Bool.not_not]
          exact ⟨⟨(r', false), g8⟩, [0], ⟨rfl, ⟨rfl, rfl, trivial⟩, rfl⟩, rfl, rfl, rfl, rfl, rfl, rfl, rfl, trivial⟩
        · simp only at e h1
          subst e
          conv => whnf
          refine ⟨(fun h => by cases h), fun _ => ?_⟩
          conv => whnf
          refine ⟨(fun h => by cases h), fun _ => ?_⟩
          conv => whnf
          refine ⟨(fun h => by cases h), fun _ => ?_⟩
          conv => whnf
          refine ⟨(fun h => by cases h), fun _ => ?_⟩
          conv => whnf
          refine ⟨fun _ => ?_, (fun h => by cases h)⟩
          conv => whnf
          rw [nwrapi (n := oa) (by omega)]
          refine CallsA.lift (H0 := [RD.blk r]) [0] rfl ⟨rfl, rfl, trivial⟩ rfl (rRawW w0 hsim hinv (by omega) (n := oa) h1) ?_
          rintro _ _ ⟨rfl, r', rfl, g8, g9⟩
          conv => whnf
          exact ⟨⟨(r', true), g8⟩, [0], ⟨rfl, ⟨rfl, rfl, trivial⟩, rfl⟩, rfl, rfl, rfl, rfl, rfl, rfl, rfl, trivial⟩
        · simp only at e h1 h2 h4
          subst e
          conv => whnf
          refine ⟨(fun h => by cases h), fun _ => ?_⟩
          conv => whnf
          refine ⟨(fun h => by cases h), fun _ => ?_⟩
          conv => whnf
          refine ⟨(fun h => by cases h), fun _ => ?_⟩
          conv => whnf
          refine ⟨(fun h => by cases h), fun _ => ?_⟩
          conv => whnf
          refine ⟨(fun h => by cases h), fun _ => ?_⟩
          conv => whnf
          refine ⟨fun _ => ?_, (fun h => by cases h)⟩
          conv => whnf
          refine CallsA.lift (H0 := [RD.blk r]) [0] rfl ⟨rfl, rfl, trivial⟩ rfl (rLaplaceW w0 hsim hinv (by omega) (fs := oa) (decay := ob) h1 (by omega) (by omega)) ?_
          rintro _ _ ⟨rfl, r', rfl, g8, g9⟩
          conv => whnf
          exact ⟨⟨(r', true), g8⟩, [0], ⟨rfl, ⟨rfl, rfl, trivial⟩, rfl⟩, rfl, rfl, rfl, rfl, rfl, rfl, rfl, trivial⟩
        · simp only at e h1
          subst e
          have hsm := hsim.small
          conv => whnf
          refine ⟨(fun h => by cases h), fun _ => ?_⟩
          conv => whnf
          refine ⟨(fun h => by cases h), fun _ => ?_⟩
          conv => whnf
          refine ⟨(fun h => by cases h), fun _ => ?_⟩
          conv => whnf
          refine ⟨(fun h => by cases h), fun _ => ?_⟩
          conv => whnf
          refine ⟨(fun h => by cases h), fun _ => ?_⟩
          conv => whnf
          refine ⟨(fun h => by cases h), fun _ => ?_⟩
          conv => whnf
          refine ⟨fun _ => ?_, (fun h => by cases h)⟩
          conv => whnf
          rw [nwrapi (n := oa) (by omega)]
          refine Or.inl ?_
          conv => whnf
          refine ⟨fun _ => ?_, fun h6 => ?_⟩
          · conv => whnf
            exact Or.inr ⟨[], .t [.c (.val (.slice none 0 0)), .c (.val (.int .i64 ((2 : Nat) : Int)))], [], ⟨rfl, trivial, rfl⟩, rfl, Or.inl ⟨rfl, rfl⟩⟩
          have h6 : oa ≤ r.b.size := gt_f h6
          conv => whnf
          refine ⟨fun _ => ?_, fun h7 => ?_⟩
          · conv => whnf
            exact Or.inr ⟨[], .t [.c (.val (.slice none 0 0)), .c (.val (.int .i64 ((2 : Nat) : Int)))], [], ⟨rfl, trivial, rfl⟩, rfl, Or.inl ⟨rfl, rfl⟩⟩
          have h7 : r.pos ≤ oa := lt_f h7
          conv => whnf
          refine ⟨fun _ => ?_, fun h8 => ?_⟩
          · conv => whnf
            exact Or.inr ⟨[], .t [.c (.val (.slice none 0 0)), .c (.val (.int .i64 ((2 : Nat) : Int)))], [], ⟨rfl, trivial, rfl⟩, rfl, Or.inl ⟨rfl, rfl⟩⟩
          have h8 : r.fin = 0 := by have := gt_f h8; omega
          conv => whnf
          refine ⟨⟨by omega, by omega, by omega⟩, ?_⟩
          conv => whnf
          exact ⟨⟨({ r with b := r.b.extract 0 oa }, true), RD.sim_size hsim h6 h7 h8⟩, [0], ⟨rfl, ⟨rfl, rfl, trivial⟩, rfl⟩, rfl, rfl, rfl, rfl, rfl, rfl, rfl, trivial⟩
      · simp only at hp
        cases fl with
        | false =>
          conv => whnf
          refine CallsA.lift (H0 := [RD.blk p]) [0] rfl ⟨rfl, rfl, trivial⟩ rfl (rSeenW w0 hp hi2 hu2 (d.act o).1 (d.act o).2.1) ?_
          rintro _ _ ⟨rfl, rfl⟩
          conv => whnf
          refine ⟨by omega, SeenV, encSeen, [], [d.tells o], fun _ => rfl, ⟨rfl, rfl, rfl⟩, by simp only [List.length_cons, List.length_nil]; omega, by simp only [List.length_cons, List.length_nil]; omega, ?_⟩
          conv => whnf
          refine ⟨⟨(1, p, (d.act o).2.2), h3, hw1.symm, hp⟩, ⟨[0, 2], ⟨rfl, ⟨rfl, rfl, ?_, rfl, trivial⟩, rfl⟩, rfl, rfl, rfl, rfl, eq_i64 ?_, trivial⟩, ?_⟩
          · show some (seenB [d.tells o]) = some (seenB (d0.seen (l.take (0 + 1))))
            rw [hw2]
            rfl
          · rw [nadd, nwrapi (by omega)]
          · show l.length - 1 < l.length - 0
            omega
        | true =>
          conv => whnf
          refine CallsA.lift (H0 := [RD.blk p]) [0] rfl ⟨rfl, rfl, trivial⟩ rfl (rSeenW w0 hp hi2 hu2 (d.act o).1 (d.act o).2.1) ?_
          rintro _ _ ⟨rfl, rfl⟩
          conv => whnf
          refine ⟨by omega, SeenV, encSeen, [], [d.tells o], fun _ => rfl, ⟨rfl, rfl, rfl⟩, by simp only [List.length_cons, List.length_nil]; omega, by simp only [List.length_cons, List.length_nil]; omega, ?_⟩
          conv => whnf
          refine ⟨⟨(1, p, (d.act o).2.2), h3, hw1.symm, hp⟩, ⟨[0, 2], ⟨rfl, ⟨rfl, rfl, ?_, rfl, trivial⟩, rfl⟩, rfl, rfl, rfl, rfl, eq_i64 ?_, trivial⟩, ?_⟩
          · show some (seenB [d.tells o]) = some (seenB (d0.seen (l.take (0 + 1))))
            rw [hw2]
            rfl
          · rw [nadd, nwrapi (by omega)]
          · show l.length - 1 < l.length - 0
            omega
    · have h3 : l.length ≤ 0 := lt_f h3
      conv => whnf
      exact Or.inr ⟨[], .t [.c (.val (.slice none 0 0)), .c (.val (.int .i64 ((1 : Nat) : Int)))], [], ⟨rfl, trivial, rfl⟩, rfl, Or.inr (Or.inl ⟨List.length_eq_zero_iff.1 (by omega), rfl, rfl⟩)⟩
  · conv => whnf
    refine ⟨fun h3 => ?_, fun h3 => ?_⟩
    · have h3 : (k + 1) < l.length := lt_t h3
      obtain ⟨o, ho⟩ : ∃ o, l[(k + 1)]? = some o := ⟨_, List.getElem?_eq_getElem h3⟩
      obtain ⟨⟨x0, x1, x2, x3, x4, x5, x6⟩, hfit⟩ := hbb (k + 1) o ho
      obtain ⟨hw1, hw2⟩ := hwant h3 o ho
      obtain ⟨hi2, hu2⟩ := hnext h3
      rw [hw1] at hi2 hu2
      have hrd := hr o (List.mem_of_getElem? ho)
      have a32 := hfit.a32; have b32 := hfit.b32; have c32 := hfit.c32
      have htab := hfit.tab
      conv => whnf
      refine Or.inl ?_
      conv => whnf
      refine ⟨by omega, ?_⟩
      conv => whnf
      refine ⟨_, x0, rfl, ?_⟩
      conv => whnf
      refine ⟨_, x1, rfl, ?_⟩
      conv => whnf
      refine ⟨_, x2, rfl, ?_⟩
      conv => whnf
      refine ⟨_, x3, rfl, ?_⟩
      conv => whnf
      refine ⟨_, x4, rfl, ?_⟩
      conv => whnf
      refine ⟨_, x5, x6, ?_⟩
      conv => whnf
      refine Or.inl ?_
      conv => whnf
      refine CallsA.lift (H0 := []) [] rfl trivial rfl (opFineW w0 hfit) ?_
      rintro _ _ ⟨b1, rfl, rfl⟩
      conv => whnf
      refine ⟨fun _ => ?_, fun _ => ?_⟩
      · conv => whnf
        exact Or.inr ⟨[], .t [.c (.val (.slice none 0 0)), .c (.val (.int .i64 ((2 : Nat) : Int)))], [], ⟨rfl, trivial, rfl⟩, rfl, Or.inl ⟨rfl, rfl⟩⟩
      conv => whnf
      refine Or.inr ⟨{p : RD × Bool // p.1.sim (d.act o).2.2}, fun ⟨(p, fl), _⟩ => ⟨[(6, .o (.c (.ptr 0 0))), (7, .o (.c (.vec 1 (k + 1)))), (10, .o (.c (.val (.int .i64 (d.act o).1)))), (11, .o (.c (bif fl then .kb (d.act o).2.1 else .val (.bool (d.act o).2.1)))), (30, .o (.c (.val (.slice (some a) l.length c)))), (31, .o (.c (.val (.int .i64 l.length)))), (32, .o (.c (.val (.int .i64 ((k + 1 : Nat) : Int)))))], [p.blk, seenB (d0.seen (l.take (k + 1)))]⟩, ?_, fun ⟨(p, fl), hp⟩ => ?_⟩
      · clear x0 x1 x2 x3 x4 x5 x6 hw1 hw2 hi2 hu2 hbb hr hg hus hwant hnext hslen
        obtain ⟨act, oa, ob, oc, ov, otab, rows⟩ := o
        simp only at a32 b32 c32 htab
        rcases hrd with ⟨e, h1, h2, h4, h5⟩ | ⟨e, h1, h2⟩ | ⟨e, total, rest, h1⟩ | ⟨e, h1⟩ | ⟨e, h1⟩ | ⟨e, h1, h2, h4, _⟩ | ⟨e, h1⟩
        · simp only at e h1 h2 h4 h5
          subst e
          have hat := (d.at_spec hinv (n := oc) (by omega) (by omega)).1
          have hact : d.act ⟨0, oa, ob, oc, ov, otab, rows⟩ = (((d.at oc : Nat) : Int), true, if oa ≤ d.at oc ∧ d.at oc < ob then (d.cut (d.rng / oc) oa ob oc).norm else d.uni oc) := rfl
          have hno : ¬ (oa ≤ d.at oc ∧ d.at oc < ob) → (d.act ⟨0, oa, ob, oc, ov, otab, rows⟩).2.2 = (d.cut (d.rng / oc) (d.at oc) (d.at oc + 1) oc).norm := by
            intro hc
            rw [hact, if_neg hc]
            rfl
          have hyes : (oa ≤ d.at oc ∧ d.at oc < ob) → (d.act ⟨0, oa, ob, oc, ov, otab, rows⟩).2.2 = (d.cut (d.rng / oc) oa ob oc).norm := by
            intro hc
            rw [hact, if_pos hc]
          clear hact
          have q1 := rUpdateW w0 hsim hinv (by omega) (n := oc) (low := d.at oc) (high := d.at oc + 1) (by omega) (by omega) (Nat.le_refl _) (Nat.lt_succ_self _) hat
          have q2 : oa ≤ d.at oc → d.at oc < ob → _ := fun g1 g2 => rUpdateW w0 hsim hinv (by omega) (n := oc) (low := oa) (high := ob) (by omega) (by omega) g1 g2 h2
          have q3 := rSymbolW w0 hsim hinv (n := oc) (by omega) (by omega)
          conv => whnf
          refine ⟨fun _ => ?_, (fun h => by cases h)⟩
          conv => whnf
          rw [nwrapi (n := oc) (by omega)]
          refine CallsA.lift (H0 := [RD.blk r]) [0] rfl ⟨rfl, rfl, trivial⟩ rfl q3 ?_
          rintro _ _ ⟨rfl, rfl⟩
          conv => whnf
          simp (disch := omega) only [nadd, nwrapi]
          refine Or.inl ?_
          conv => whnf
          rw [nwrapi (n := oa) (by omega)]
          refine ⟨fun h6 => ?_, fun h6 => ?_⟩
          · have h6 : oa ≤ d.at oc := le_t h6
            conv => whnf
            rw [nwrapi (n := ob) (by omega)]
            refine ⟨fun h7 => ?_, fun h7 => ?_⟩
            · have h7 : d.at oc < ob := lt_t h7
              conv => whnf
              refine ⟨fun h8 => ?_, fun h8 => absurd h2 (by have := le_f h8; omega)⟩
              conv => whnf
              simp (disch := omega) only [nwrapi]
              refine CallsA.lift (H0 := [RD.blk r]) [0] rfl ⟨rfl, rfl, trivial⟩ rfl (q2 h6 h7) ?_
              rintro _ _ ⟨rfl, r', rfl, g8, g9⟩
              conv => whnf
              exact ⟨⟨(r', true), by rw [hyes ⟨h6, h7⟩]; exact g8⟩, [0, 1], ⟨rfl, ⟨rfl, rfl, rfl, rfl, trivial⟩, rfl⟩, rfl, rfl, rfl, rfl, rfl, rfl, rfl, trivial⟩
            · have h7 : ob ≤ d.at oc := lt_f h7
              conv => whnf
              rw [nwrapi (n := oc) (by omega)]
              refine CallsA.lift (H0 := [RD.blk r]) [0] rfl ⟨rfl, rfl, trivial⟩ rfl q1 ?_
              rintro _ _ ⟨rfl, r', rfl, g8, g9⟩
              conv => whnf
              exact ⟨⟨(r', true), by rw [hno (by omega)]; exact g8⟩, [0, 1], ⟨rfl, ⟨rfl, rfl, rfl, rfl, trivial⟩, rfl⟩, rfl, rfl, rfl, rfl, rfl, rfl, rfl, trivial⟩
          · have h6 : d.at oc < oa := le_f h6
            conv => whnf
            rw [nwrapi (n := oc) (by omega)]
            refine CallsA.lift (H0 := [RD.blk r]) [0] rfl ⟨rfl, rfl, trivial⟩ rfl q1 ?_
            rintro _ _ ⟨rfl, r', rfl, g8, g9⟩
            conv => whnf
            exact ⟨⟨(r', true), by rw [hno (by omega)]; exact g8⟩, [0, 1], ⟨rfl, ⟨rfl, rfl, rfl, rfl, trivial⟩, rfl⟩, rfl, rfl, rfl, rfl, rfl, rfl, rfl, trivial⟩
        · simp only at e h1 h2
          subst e
          conv => whnf
          refine ⟨(fun h => by cases h), fun _ => ?_⟩
          conv => whnf
          refine ⟨fun _ => ?_, (fun h => by cases h)⟩
          conv => whnf
          rw [nwrapi (n := oa) (by omega)]
          refine CallsA.lift (H0 := [RD.blk r]) [0] rfl ⟨rfl, rfl, trivial⟩ rfl (rBitW w0 hsim hinv (by omega) (k := oa) h1 h2) ?_
          rintro _ _ ⟨rfl, r', rfl, g8, g9⟩
          conv => whnf
          exact ⟨⟨(r', true), g8⟩, [0, 1], ⟨rfl, ⟨rfl, rfl, rfl, rfl, trivial⟩, rfl⟩, rfl, rfl, rfl, rfl, rfl, rfl, rfl, trivial⟩
        · simp only at e h1
          subst e
          rcases htab with ⟨_, hrn⟩ | ⟨ta, ct, rfl, t1, t2, t3⟩
          · have := h1.cons
            rw [hrn] at this
            cases this
          have h63 := h1.len
          obtain rfl := h1.cons
          have hok := h1.ok
          conv => whnf
          refine ⟨(fun h => by cases h), fun _ => ?_⟩
          conv => whnf
          refine ⟨(fun h => by cases h), fun _ => ?_⟩
          conv => whnf
          refine ⟨fun _ => ?_, (fun h => by cases h)⟩
          conv => whnf
          refine ⟨⟨by omega, by omega, by simp only [List.length_cons]; omega, by simp only [List.length_cons]; omega, by omega⟩, ?_⟩
          conv => whnf
          refine ⟨Int, encI .i64, 0, fun _ => rfl, rfl, ?_⟩
          conv => whnf
          refine Or.inl ?_
          conv => whnf
          refine ⟨_root_.Fin (rest.length + 2), fun ⟨i, _⟩ => ⟨[(6, .o (.c (.ptr 0 0))), (7, .o (.c (.vec 1 (k + 1)))), (11, .o (.c (.kb true))), (16, .o (.c (.vec 2 (rest.length + 1)))), (102, .o (.c (.val (.slice (some ta) (rest.length + 1) ct)))), (103, .o (.c (.val (.int .i64 ((rest.length + 1 : Nat) : Int))))), (104, .o (.c (.val (.int .i64 i)))), (30, .o (.c (.val (.slice (some a) l.length c)))), (31, .o (.c (.val (.int .i64 l.length)))), (32, .o (.c (.val (.int .i64 ((k + 1 : Nat) : Int)))))], [RD.blk r, seenB (d0.seen (l.take (k + 1))), .vec true 2 (encI .i64) [] 1 (tabl (rest.length + 1) fun j => if j < i then (total :: rest).getD j 0 else 0)]⟩, fun i => rest.length + 1 - i.1, ⟨⟨0, by omega⟩, [0, 1, 3], ⟨rfl, ⟨rfl, rfl, rfl, rfl, ?_, rfl, trivial⟩, rfl⟩, rfl, rfl, rfl, rfl, rfl, rfl, rfl, rfl, rfl, rfl, trivial⟩, fun ⟨i, hi⟩ => ?_⟩
          · show some (Blk.vec true 2 (encI .i64) [] 1 (List.replicate (rest.length + 1) 0)) = some (Blk.vec true 2 (encI .i64) [] 1 (tabl (rest.length + 1) fun j => if j < 0 then (total :: rest).getD j 0 else 0))
            rw [tabl_zero', tabl_ext]
            intro j hj
            rw [if_neg (by omega)]
          conv => whnf
          refine ⟨fun h6 => ?_, fun h6 => ?_⟩
          · have h6 : i < rest.length + 1 := lt_t h6
            obtain ⟨tx1, tx2⟩ := t3 i ((total :: rest).getD i 0) (by rw [List.getD_eq_getElem?_getD, List.getElem?_eq_getElem (by simp only [List.length_cons]; omega)]; rfl)
            have tx3 : w0.cell? ((ta.add (i * 1)).add 0) = some (.int .u32 ((total :: rest).getD i 0 : Nat)) := by
              rw [Deep.add_add, show i * 1 + 0 = i by omega]
              exact tx2
            have tx4 : (tabl (rest.length + 1) fun j => if j < i then (total :: rest).getD j 0 else 0)[i]? = some (((0 : Nat)) : Int) := by
              rw [tabl_get h6, if_neg (by omega)]
            generalize hgx : (total :: rest).getD i 0 = gx at *
            conv => whnf
            refine ⟨by omega, ?_⟩
            conv => whnf
            refine ⟨_, tx3, rfl, ?_⟩
            conv => whnf
            refine ⟨by omega, ?_⟩
            conv => whnf
            rw [nwrapi (n := gx) (by omega)]
            refine ⟨_, (gx : Int), tx4, rfl, ?_⟩
            conv => whnf
            refine ⟨⟨i + 1, by omega⟩, ⟨[0, 1, 2], ⟨rfl, ⟨rfl, rfl, rfl, rfl, ?_, rfl, trivial⟩, rfl⟩, rfl, rfl, rfl, rfl, rfl, rfl, eq_i64 ?_, rfl, rfl, rfl, trivial⟩, ?_⟩
            · show some (Blk.vec true 2 (encI .i64) [] 1 ((tabl (rest.length + 1) fun j => if j < i then (total :: rest).getD j 0 else 0).set i (gx : Int))) = some (Blk.vec true 2 (encI .i64) [] 1 (tabl (rest.length + 1) fun j => if j < i + 1 then (total :: rest).getD j 0 else 0))
              rw [tabl_set, tabl_ext]
              intro j hj
              by_cases hji : j = i
              · rw [if_pos hji, if_pos (by omega), hji, hgx]
              · rw [if_neg hji]
                by_cases hjl : j < i
                · rw [if_pos hjl, if_pos (by omega)]
                · rw [if_neg hjl, if_neg (by omega)]
            · rw [nadd, nwrapi (by omega)]
            · show rest.length + 1 - (i + 1) < rest.length + 1 - i
              omega
          · have h6 : rest.length + 1 ≤ i := lt_f h6
            have hfull : (tabl (rest.length + 1) fun j => if j < i then (total :: rest).getD j 0 else 0) = (total :: rest).map fun (x : Nat) => (x : Int) := by
              rw [← tabl_rows]
              refine tabl_ext fun j hj => ?_
              rw [if_pos (by omega)]
            rw [hfull]
            conv => whnf
            refine CallsA.lift (H0 := [RD.blk r, tabI total rest]) [0, 2] rfl ⟨rfl, rfl, rfl, rfl, trivial⟩ rfl (rSymW w0 hsim hinv (by omega) hok) ?_
            rintro _ _ ⟨rfl, r', rfl, g8, g9⟩
            conv => whnf
            exact ⟨⟨(r', true), g8⟩, [0, 1], ⟨rfl, ⟨rfl, rfl, rfl, rfl, trivial⟩, rfl⟩, rfl, rfl, rfl, rfl, rfl, rfl, rfl, trivial⟩
        · simp only at e h1
          subst e
          have hs2 : RD.sim { r with bad := false } d := ⟨hsim.data, hsim.small, hsim.rng, hsim.val, hsim.total, hsim.raws, hsim.taken, hsim.pos, hsim.win, hsim.cnt, hsim.got⟩
          conv => whnf
          refine ⟨(fun h => by cases h), fun _ => ?_⟩
          conv => whnf
          refine ⟨(fun h => by cases h), fun _ => ?_⟩
          conv => whnf
          refine ⟨(fun h => by cases h), fun _ => ?_⟩
          conv => whnf
          refine ⟨fun _ => ?_, (fun h => by cases h)⟩
          conv => whnf
          refine CallsA.lift (H0 := [RD.blk { r with bad := false }]) [0] rfl ⟨rfl, rfl, trivial⟩ rfl (rWholeW w0 hs2 hinv (by omega) (n := oa) h1 a32 rfl) ?_
          rintro _ _ ⟨rfl, r', rfl, g8, g9⟩
          conv => whnf
          rw [g9, Bool.not_not]
          exact ⟨⟨(r', false), g8⟩, [0, 1], ⟨rfl, ⟨rfl, rfl, rfl, rfl, trivial⟩, rfl⟩, rfl, rfl, rfl, rfl, rfl, rfl, rfl, trivial⟩
        · simp only at e h1
          subst e
          conv => whnf
          refine ⟨(fun h => by cases h), fun _ => ?_⟩
          conv => whnf
          refine ⟨(fun h => by cases h), fun _ => ?_⟩
          conv => whnf
          refine ⟨(fun h => by cases h), fun _ => ?_⟩
          conv => whnf
          refine ⟨(fun h => by cases h), fun _ => ?_⟩
          conv => whnf
          refine ⟨fun _ => ?_, (fun h => by cases h)⟩
          conv => whnf
          rw [nwrapi (n := oa) (by omega)]
          refine CallsA.lift (H0 := [RD.blk r]) [0] rfl ⟨rfl, rfl, trivial⟩ rfl (rRawW w0 hsim hinv (by omega) (n := oa) h1) ?_
          rintro _ _ ⟨rfl, r', rfl, g8, g9⟩
          conv => whnf
          exact ⟨⟨(r', true), g8⟩, [0, 1], ⟨rfl, ⟨rfl, rfl, rfl, rfl, trivial⟩, rfl⟩, rfl, rfl, rfl, rfl, rfl, rfl, rfl, trivial⟩
        · simp only at e h1 h2 h4
          subst e
          conv => whnf
          refine ⟨(fun h => by cases h), fun _ => ?_⟩
          conv => whnf
          refine ⟨(fun h => by cases h), fun _ => ?_⟩
          conv => whnf
          refine ⟨(fun h => by cases h), fun _ => ?_⟩
          conv => whnf
          refine ⟨(fun h => by cases h), fun _ => ?_⟩
          conv => whnf
          refine ⟨(fun h => by cases h), fun _ => ?_⟩
          conv => whnf
          refine ⟨fun _ => ?_, (fun h => by cases h)⟩
          conv => whnf
          refine CallsA.lift (H0 := [RD.blk r]) [0] rfl ⟨rfl, rfl, trivial⟩ rfl (rLaplaceW w0 hsim hinv (by omega) (fs := oa) (decay := ob) h1 (by omega) (by omega)) ?_
          rintro _ _ ⟨rfl, r', rfl, g8, g9⟩
          conv => whnf
          exact ⟨⟨(r', true), g8⟩, [0, 1], ⟨rfl, ⟨rfl, rfl, rfl, rfl, trivial⟩, rfl⟩, rfl, rfl, rfl, rfl, rfl, rfl, rfl, trivial⟩
        · simp only at e h1
          subst e
          have hsm := hsim.small
          conv => whnf
          refine ⟨(fun h => by cases h), fun _ => ?_⟩
          conv => whnf
          refine ⟨(fun h => by cases h), fun _ => ?_⟩
          conv => whnf
          refine ⟨(fun h => by cases h), fun _ => ?_⟩
          conv => whnf
          refine ⟨(fun h => by cases h), fun _ => ?_⟩
          conv => whnf
          refine ⟨(fun h => by cases h), fun _ => ?_⟩
          conv => whnf
          refine ⟨(fun h => by cases h), fun _ => ?_⟩
          conv => whnf
          refine ⟨fun _ => ?_, (fun h => by cases h)⟩
          conv => whnf
          rw [nwrapi (n := oa) (by omega)]
          refine Or.inl ?_
          conv => whnf
          refine ⟨fun _ => ?_, fun h6 => ?_⟩
          · conv => whnf
            exact Or.inr ⟨[], .t [.c (.val (.slice none 0 0)), .c (.val (.int .i64 ((2 : Nat) : Int)))], [], ⟨rfl, trivial, rfl⟩, rfl, Or.inl ⟨rfl, rfl⟩⟩
          have h6 : oa ≤ r.b.size := gt_f h6
          conv => whnf
          refine ⟨fun _ => ?_, fun h7 => ?_⟩
          · conv => whnf
            exact Or.inr ⟨[], .t [.c (.val (.slice none 0 0)), .c (.val (.int .i64 ((2 : Nat) : Int)))], [], ⟨rfl, trivial, rfl⟩, rfl, Or.inl ⟨rfl, rfl⟩⟩
          have h7 : r.pos ≤ oa := lt_f h7
          conv => whnf
          refine ⟨fun _ => ?_, fun h8 => ?_⟩
          · conv => whnf
            exact Or.inr ⟨[], .t [.c (.val (.slice none 0 0)), .c (.val (.int .i64 ((2 : Nat) : Int)))], [], ⟨rfl, trivial, rfl⟩, rfl, Or.inl ⟨rfl, rfl⟩⟩
          have h8 : r.fin = 0 := by have := gt_f h8; omega
          conv => whnf
          refine ⟨⟨by omega, by omega, by omega⟩, ?_⟩
          conv => whnf
          exact ⟨⟨({ r with b := r.b.extract 0 oa }, true), RD.sim_size hsim h6 h7 h8⟩, [0, 1], ⟨rfl, ⟨rfl, rfl, rfl, rfl, trivial⟩, rfl⟩, rfl, rfl, rfl, rfl, rfl, rfl, rfl, trivial⟩
      · simp only at hp
        cases fl with
        | false =>
          conv => whnf
          refine CallsA.lift (H0 := [RD.blk p]) [0] rfl ⟨rfl, rfl, trivial⟩ rfl (rSeenW w0 hp hi2 hu2 (d.act o).1 (d.act o).2.1) ?_
          rintro _ _ ⟨rfl, rfl⟩
          conv => whnf
          refine ⟨hslen.symm, [d.tells o], ⟨rfl, rfl, rfl⟩, by rw [List.length_append, hslen]; simp only [List.length_cons, List.length_nil]; omega, by rw [List.length_append, hslen]; simp only [List.length_cons, List.length_nil]; omega, ?_⟩
          conv => whnf
          refine ⟨⟨(k + 2, p, (d.act o).2.2), h3, hw1.symm, hp⟩, ⟨[0, 3], ⟨rfl, ⟨rfl, rfl, ?_, rfl, trivial⟩, rfl⟩, rfl, ?_, rfl, rfl, eq_i64 ?_, trivial⟩, ?_⟩
          · show some (seenB (d0.seen (l.take (k + 1)) ++ [d.tells o])) = some (seenB (d0.seen (l.take (k + 1 + 1))))
            rw [hw2]
          · show some (AV.o (.c (.vec 3 (d0.seen (l.take (k + 1)) ++ [d.tells o]).length))) = some (AV.o (.c (.vec 3 (k + 1 + 1))))
            rw [List.length_append, hslen]
            rfl
          · rw [nadd, nwrapi (by omega)]
          · show l.length - (k + 2) < l.length - (k + 1)
            omega
        | true =>
          conv => whnf
          refine CallsA.lift (H0 := [RD.blk p]) [0] rfl ⟨rfl, rfl, trivial⟩ rfl (rSeenW w0 hp hi2 hu2 (d.act o).1 (d.act o).2.1) ?_
          rintro _ _ ⟨rfl, rfl⟩
          conv => whnf
          refine ⟨hslen.symm, [d.tells o], ⟨rfl, rfl, rfl⟩, by rw [List.length_append, hslen]; simp only [List.length_cons, List.length_nil]; omega, by rw [List.length_append, hslen]; simp only [List.length_cons, List.length_nil]; omega, ?_⟩
          conv => whnf
          refine ⟨⟨(k + 2, p, (d.act o).2.2), h3, hw1.symm, hp⟩, ⟨[0, 3], ⟨rfl, ⟨rfl, rfl, ?_, rfl, trivial⟩, rfl⟩, rfl, ?_, rfl, rfl, eq_i64 ?_, trivial⟩, ?_⟩
          · show some (seenB (d0.seen (l.take (k + 1)) ++ [d.tells o])) = some (seenB (d0.seen (l.take (k + 1 + 1))))
            rw [hw2]
          · show some (AV.o (.c (.vec 3 (d0.seen (l.take (k + 1)) ++ [d.tells o]).length))) = some (AV.o (.c (.vec 3 (k + 1 + 1))))
            rw [List.length_append, hslen]
            rfl
          · rw [nadd, nwrapi (by omega)]
          · show l.length - (k + 2) < l.length - (k + 1)
            omega
    · have h3 : l.length ≤ (k + 1) := lt_f h3
      conv => whnf
      obtain hkl : l.length = k + 1 := by omega
      refine Or.inr ⟨[1], .t [.c (.vec 0 l.length), .c (.val (.int .i64 ((1 : Nat) : Int)))], [seenB (d0.seen l)], ⟨rfl, ⟨?_, rfl, trivial⟩, rfl⟩, ?_, Or.inr (Or.inr ⟨(fun h => by rw [h] at hkl; cases hkl), rfl, rfl⟩)⟩
      · show some (seenB (d0.seen (l.take (k + 1)))) = some (seenB (d0.seen l))
        rw [← hkl, List.take_length]
      · rw [hkl]
        rfl
end Go.Proofs.Ytkomikpfnogjcaa
end
section
namespace Go.Proofs.Ytkomikpfnogjcaa
open Go Go.Vc
set_option maxRecDepth 100000
set_option maxHeartbeats 4000000

theorem anyW (w0 : World) {b : ByteArray} {v : Value} {l : List OpV} (hv : opsAt w0 v l) (hl : l.length ≤ 9223372036854775807) : CallsA Try.prog w0 3 [.c (.val (.string b)), .c (.val v)] [] fun r _ => r = .o (.c (.val (.bool true))) := by
  refine callsA_of_ev c3_ ?_
  conv => whnf
  refine Or.inl ?_
  conv => whnf
  refine ⟨fun _ => ?_, fun hb => ?_⟩
  · conv => whnf
    exact Or.inl rfl
  have hb : b.size ≤ 2147483647 := gt_f hb
  conv => whnf
  refine (zzFits2W w0 hv hl).mono ?_
  rintro _ _ ⟨b1, rfl, rfl, hl2⟩
  conv => whnf
  refine ⟨fun _ => ?_, fun h1 => ?_⟩
  · conv => whnf
    exact Or.inl rfl
  have hl2 : l.length ≤ 2147483647 := hl2 (by cases b1 <;> first | rfl | cases h1)
  conv => whnf
  refine Or.inl ?_
  conv => whnf
  refine ⟨fun _ => ?_, fun hb2 => ?_⟩
  · conv => whnf
    exact Or.inl rfl
  conv => whnf
  refine (readW w0 hv b.size 400 hl).mono ?_
  rintro _ _ ⟨b2, rfl, rfl, hr⟩
  conv => whnf
  refine ⟨fun _ => ?_, fun h2 => ?_⟩
  · conv => whnf
    exact Or.inl rfl
  obtain ⟨hl4, hr⟩ := hr (by cases b2 <;> first | rfl | cases h2)
  have hg : ∀ o ∈ l, o.good w0 ∧ o.tab.oneCell' = true := fun o ho => ⟨(hr o ho).good (hv.fits o ho), (hv.fits o ho).one⟩
  have hbb : b.size ≤ 2000 := gt_f hb2
  conv => whnf
  refine (sDecodeW w0 hv hbb hl4 hr).mono ?_
  rintro _ _ (⟨rfl, rfl⟩ | ⟨rfl, rfl, rfl⟩ | ⟨hne, rfl, rfl⟩)
  · conv => whnf
    refine Or.inl ?_
    conv => whnf
    refine ⟨fun _ => ?_, fun h => absurd h (by decide)⟩
    conv => whnf
    exact Or.inl rfl
  · conv => whnf
    refine Or.inl ?_
    conv => whnf
    refine ⟨fun h => absurd h (by decide), fun _ => ?_⟩
    conv => whnf
    refine (opsV w0 hv (by omega)).mono ?_
    rintro _ _ (⟨_, rfl, rfl⟩ | ⟨h, _⟩)
    · conv => whnf
      refine (decodeW0 w0 (b := b) (by omega)).mono ?_
      rintro _ _ ⟨rfl, rfl⟩
      conv => whnf
      refine Or.inl ?_
      conv => whnf
      refine ⟨fun h => absurd h (by decide), fun _ => ?_⟩
      conv => whnf
      refine ⟨fun h => absurd h (by decide), fun _ => ?_⟩
      conv => whnf
      refine Or.inl ?_
      conv => whnf
      refine ⟨Unit, fun _ => ⟨[(53, .o (.c (.val (.slice none 0 0)))), (54, .o (.c (.val (.int .i64 ((0 : Nat) : Int))))), (55, .o (.c (.val (.int .i64 ((0 : Nat) : Int)))))], []⟩, fun _ => 0, ⟨(), [], ⟨rfl, trivial, rfl⟩, rfl, rfl, rfl, trivial⟩, fun _ => ?_⟩
      conv => whnf
      refine ⟨fun h => absurd (lt_t h) (by omega), fun _ => ?_⟩
      conv => whnf
      refine (aliveW w0).mono ?_
      rintro _ _ ⟨rfl, rfl⟩
      conv => whnf
      exact Or.inl rfl
    · exact absurd rfl h
  · conv => whnf
    refine Or.inl ?_
    conv => whnf
    refine ⟨fun h => absurd h (by decide), fun _ => ?_⟩
    conv => whnf
    refine CallsA.lift (H0 := []) [] rfl trivial rfl (opsV w0 hv (by omega)) ?_
    rintro _ _ (⟨h, _⟩ | ⟨_, rfl, rfl⟩)
    · exact absurd h hne
    conv => whnf
    refine CallsA.lift (H0 := [.vec true 80 encOp [] 6 l]) [1] rfl ⟨rfl, rfl, trivial⟩ rfl (decodeW w0 (b := b) (l := l) (by omega) hne (by omega) hg) ?_
    rintro _ _ ⟨rfl, rfl⟩
    have hwl := (Dec.init (bytesOf b)).seen_len l
    generalize (Dec.init (bytesOf b)).seen l = whole at *
    conv => whnf
    refine Or.inl ?_
    conv => whnf
    refine ⟨fun h => absurd h (by decide), fun _ => ?_⟩
    conv => whnf
    refine ⟨fun h => absurd rfl (bne_t h), fun _ => ?_⟩
    conv => whnf
    refine Or.inl ?_
    conv => whnf
    refine ⟨_root_.Fin (l.length + 1), fun ⟨i, _⟩ => ⟨[(5, .o (.c (.vec 0 l.length))), (53, .o (.c (.vec 1 l.length))), (54, .o (.c (.val (.int .i64 l.length)))), (55, .o (.c (.val (.int .i64 i))))], [seenB whole, .vec true 35 encSeen [] 6 whole]⟩, fun i => l.length - i.1, ⟨⟨0, by omega⟩, [0, 2], ⟨rfl, ⟨rfl, rfl, rfl, rfl, trivial⟩, rfl⟩, rfl, rfl, rfl, rfl, trivial⟩, fun ⟨i, hi⟩ => ?_⟩
    conv => whnf
    refine ⟨fun h3 => ?_, fun h3 => ?_⟩
    · have h3 : i < l.length := lt_t h3
      obtain ⟨x, hx⟩ : ∃ x, whole[i]? = some x := ⟨_, List.getElem?_eq_getElem (by omega)⟩
      conv => whnf
      refine Or.inl ?_
      conv => whnf
      refine ⟨by omega, ?_⟩
      conv => whnf
      refine ⟨x, hx, ?_⟩
      conv => whnf
      refine ⟨by omega, ?_⟩
      conv => whnf
      refine ⟨x, hx, ?_⟩
      conv => whnf
      refine CallsA.lift (H0 := []) [] rfl trivial rfl (alikeW w0 x) ?_
      rintro _ _ ⟨rfl, rfl⟩
      conv => whnf
      refine ⟨trivial, ?_⟩
      conv => whnf
      refine ⟨(fun h => by cases h), fun _ => ?_⟩
      conv => whnf
      refine ⟨⟨i + 1, by omega⟩, ⟨[0, 1], ⟨rfl, ⟨rfl, rfl, rfl, rfl, trivial⟩, rfl⟩, rfl, rfl, rfl, eq_i64 ?_, trivial⟩, ?_⟩
      · rw [nadd, nwrapi (by omega)]
      · show l.length - (i + 1) < l.length - i
        omega
    · conv => whnf
      refine CallsA.lift (H0 := []) [] rfl trivial rfl (aliveW w0) ?_
      rintro _ _ ⟨rfl, rfl⟩
      conv => whnf
      exact Or.inl rfl
end Go.Proofs.Ytkomikpfnogjcaa
end
