/- The digits of a number, by strconv. -/
import Derived.Test.YtkomikpfnogjcaaDoorPuM
namespace Go.Proofs.YtkomikpfnogjcaaDoor
open Go Go.Vc
set_option maxRecDepth 100000
set_option maxHeartbeats 8000000

def arrB (T : TypeId) (xs : List Int) : Blk := .vec true T (encI .u8) [] 1 xs
theorem digs_at {n u m p : Nat} (hp : p < m) (hm : m ≤ n) : (digs n u)[m - 1 - p]? = some ((48 + u / 10 ^ (n - m) / 10 ^ p % 10 : Nat) : Int) := by
  rw [digs_get (by omega), Nat.div_div_eq_div_mul, ← Nat.pow_add, show n - 1 - (m - 1 - p) = n - m + p by omega]
theorem part_step {xs : List Int} {n u o m p : Nat} {y : Int} (h : o + n ≤ xs.length) (hm : m + p + 1 ≤ n) (hy : y = ((48 + u / 10 ^ (n - (m + p + 1)) / 10 ^ p % 10 : Nat) : Int)) : (part xs (digs n u) o (m + 1)).set (o + m) y = part xs (digs n u) o m := by
  have hl := digs_len n u
  refine part_set (by omega) (by omega) ?_
  have := digs_at (n := n) (u := u) (m := m + p + 1) (p := p) (by omega) hm
  rw [show m + p + 1 - 1 - p = m by omega] at this
  rw [this, hy]
theorem pow_next {u n m j : Nat} (hj : j ≤ m) (hm : m ≤ n) : u / 10 ^ (n - m) / 10 ^ j = u / 10 ^ (n - (m - j)) := by
  rw [Nat.div_div_eq_div_mul, ← Nat.pow_add, show n - m + j = n - (m - j) by omega]
theorem last_small {u n m : Nat} (h : u < 10 ^ n) (hm : m ≤ n) : u / 10 ^ (n - m) < 10 ^ m := by
  refine (Nat.div_lt_iff_lt_mul (Nat.pow_pos (by omega))).2 ?_
  rw [← Nat.pow_add, show m + (n - m) = n by omega]
  exact h

theorem base10W (w0 : World) {T : TypeId} {xs : List Int} {o n c u : Nat} (hlen : o + n ≤ xs.length) (hn : n ≤ 20) (hu : u < 18446744073709551616) (hun : u < 10 ^ n) :
    CallsA Tryd.prog w0 86 [.c (.sli 0 1 o n c), .c (.val (.int .u64 u))] [arrB T xs] fun r H => r = .t [] ∧ H = [arrB T (part xs (digs n u) o 0)] := by
  have hdl := digs_len n u
  refine callsA_of_ev c86_ ?_
  conv => whnf
  refine Or.inl ?_
  conv => whnf
  refine ⟨{m : Nat // m ≤ n}, fun ⟨m, _⟩ => ⟨[(0, .o (.c (.sli 0 1 o n c))), (1, .o (.c (.val (.int .u64 (u / 10 ^ (n - m) : Nat))))), (4, .o (.c (.val (.int .i64 m))))], [arrB T (part xs (digs n u) o m)]⟩, fun m => m.1,
    ⟨⟨n, Nat.le_refl _⟩, [0], ⟨rfl, ⟨?_, rfl, trivial⟩, rfl⟩, rfl, eq_u64 (by rw [Nat.sub_self, Nat.pow_zero, Nat.div_one]), rfl, trivial⟩, fun ⟨m, hm⟩ => ?_⟩
  · have := part_all xs (digs n u) o
    rw [hdl] at this
    rw [this]
    rfl
  obtain ⟨v, hv⟩ : ∃ v, v = u / 10 ^ (n - m) := ⟨_, rfl⟩
  have hvu : v ≤ u := by rw [hv]; exact Nat.div_le_self _ _
  have hvm : v < 10 ^ m := by rw [hv]; exact last_small hun hm
  conv => whnf
  rw [← hv]
  refine ⟨fun g => ?_, fun g => ?_⟩
  · have g : 8 ≤ m := ge_t g
    conv => whnf
    rw [ntmod v 100000000, nwrap32 (n := v % 100000000) (by omega)]
    obtain ⟨x, hx⟩ : ∃ x, x = v % 100000000 := ⟨_, rfl⟩
    rw [← hx]
    rw [ntdiv v 100000000, nwrap64 (n := v / 100000000) (by omega), ntdiv x 10000, nwrap32 (n := x / 10000) (by omega), ntmod x 10000]
    obtain ⟨y1, hy1⟩ : ∃ y, y = x / 10000 := ⟨_, rfl⟩
    obtain ⟨y0, hy0⟩ : ∃ y, y = x % 10000 := ⟨_, rfl⟩
    rw [← hy1, ← hy0]
    rw [ntdiv y0 100, nwrap32 (n := y0 / 100) (by omega), nmul (y0 / 100) 2, nwrap32 (n := y0 / 100 * 2) (by omega), ntmod y0 100, nmul (y0 % 100) 2, nwrap32 (n := y0 % 100 * 2) (by omega), ntdiv y1 100, nwrap32 (n := y1 / 100) (by omega), nmul (y1 / 100) 2, nwrap32 (n := y1 / 100 * 2) (by omega), ntmod y1 100, nmul (y1 % 100) 2, nwrap32 (n := y1 % 100 * 2) (by omega)]
    obtain ⟨k0, hk0⟩ : ∃ y, y = y0 % 100 := ⟨_, rfl⟩
    obtain ⟨k1, hk1⟩ : ∃ y, y = y0 / 100 := ⟨_, rfl⟩
    obtain ⟨k2, hk2⟩ : ∃ y, y = y1 % 100 := ⟨_, rfl⟩
    obtain ⟨k3, hk3⟩ : ∃ y, y = y1 / 100 := ⟨_, rfl⟩
    rw [← hk0, ← hk1, ← hk2, ← hk3]
    conv => whnf
    rw [nadd (k0 * 2) 1, nwrap32 (n := k0 * 2 + 1) (by omega)]
    refine ⟨_, si_lo (k := k0) (by omega), ?_⟩
    conv => whnf
    refine ⟨_, si_hi (k := k0) (by omega), ?_⟩
    conv => whnf
    rw [nsub (a := m) (b := 1) (by omega), nwrapi (n := m - 1) (by omega)]
    refine ⟨by omega, ?_⟩
    conv => whnf
    obtain ⟨z1, hz1⟩ := part_get (xs := xs) (D := digs n u) (o := o) (m := m - 0) (j := m - 1) (by omega) (by omega) (by omega)
    refine ⟨z1, ((48 + k0 % 10 : Nat) : Int), hz1, ?_, ?_⟩
    · show [CV.val (.int .u8 ((48 + k0 % 10 : Nat) : Int))] = [CV.val (.int .u8 (((UInt8.ofNat (48 + k0 % 10)).toNat : Nat) : Int))]
      rw [u8_nat (by omega)]
    conv => whnf
    refine ⟨trivial, ?_⟩
    have e1 : (part xs (digs n u) o m).set (o + ((m - 1 : Nat) : Int).toNat) ((48 + k0 % 10 : Nat) : Int) = part xs (digs n u) o (m - 1) := by
      rw [Int.toNat_natCast]
      have := part_step (xs := xs) (n := n) (u := u) (o := o) (m := m - 1) (p := 0) (y := ((48 + k0 % 10 : Nat) : Int)) hlen (by omega) ?_
      · rw [show m - 1 + 1 = m by omega] at this
        exact this
      · rw [show m - 1 + 0 + 1 = m by omega, ← hv]
        omega
    rw [e1]
    conv => whnf
    rw [nsub (a := m) (b := 2) (by omega), nwrapi (n := m - 2) (by omega)]
    refine ⟨by omega, ?_⟩
    conv => whnf
    obtain ⟨z2, hz2⟩ := part_get (xs := xs) (D := digs n u) (o := o) (m := m - 1) (j := m - 2) (by omega) (by omega) (by omega)
    refine ⟨z2, ((48 + k0 / 10 : Nat) : Int), hz2, ?_, ?_⟩
    · show [CV.val (.int .u8 ((48 + k0 / 10 : Nat) : Int))] = [CV.val (.int .u8 (((UInt8.ofNat (48 + k0 / 10)).toNat : Nat) : Int))]
      rw [u8_nat (by omega)]
    conv => whnf
    refine ⟨trivial, ?_⟩
    have e2 : (part xs (digs n u) o (m - 1)).set (o + ((m - 2 : Nat) : Int).toNat) ((48 + k0 / 10 : Nat) : Int) = part xs (digs n u) o (m - 2) := by
      rw [Int.toNat_natCast]
      have := part_step (xs := xs) (n := n) (u := u) (o := o) (m := m - 2) (p := 1) (y := ((48 + k0 / 10 : Nat) : Int)) hlen (by omega) ?_
      · rw [show m - 2 + 1 = m - 1 by omega] at this
        exact this
      · rw [show m - 2 + 1 + 1 = m by omega, ← hv]
        omega
    rw [e2]
    conv => whnf
    rw [nadd (k1 * 2) 1, nwrap32 (n := k1 * 2 + 1) (by omega)]
    refine ⟨_, si_lo (k := k1) (by omega), ?_⟩
    conv => whnf
    refine ⟨_, si_hi (k := k1) (by omega), ?_⟩
    conv => whnf
    rw [nsub (a := m) (b := 3) (by omega), nwrapi (n := m - 3) (by omega)]
    refine ⟨by omega, ?_⟩
    conv => whnf
    obtain ⟨z3, hz3⟩ := part_get (xs := xs) (D := digs n u) (o := o) (m := m - 2) (j := m - 3) (by omega) (by omega) (by omega)
    refine ⟨z3, ((48 + k1 % 10 : Nat) : Int), hz3, ?_, ?_⟩
    · show [CV.val (.int .u8 ((48 + k1 % 10 : Nat) : Int))] = [CV.val (.int .u8 (((UInt8.ofNat (48 + k1 % 10)).toNat : Nat) : Int))]
      rw [u8_nat (by omega)]
    conv => whnf
    refine ⟨trivial, ?_⟩
    have e3 : (part xs (digs n u) o (m - 2)).set (o + ((m - 3 : Nat) : Int).toNat) ((48 + k1 % 10 : Nat) : Int) = part xs (digs n u) o (m - 3) := by
      rw [Int.toNat_natCast]
      have := part_step (xs := xs) (n := n) (u := u) (o := o) (m := m - 3) (p := 2) (y := ((48 + k1 % 10 : Nat) : Int)) hlen (by omega) ?_
      · rw [show m - 3 + 1 = m - 2 by omega] at this
        exact this
      · rw [show m - 3 + 2 + 1 = m by omega, ← hv]
        omega
    rw [e3]
    conv => whnf
    rw [nsub (a := m) (b := 4) (by omega), nwrapi (n := m - 4) (by omega)]
    refine ⟨by omega, ?_⟩
    conv => whnf
    obtain ⟨z4, hz4⟩ := part_get (xs := xs) (D := digs n u) (o := o) (m := m - 3) (j := m - 4) (by omega) (by omega) (by omega)
    refine ⟨z4, ((48 + k1 / 10 : Nat) : Int), hz4, ?_, ?_⟩
    · show [CV.val (.int .u8 ((48 + k1 / 10 : Nat) : Int))] = [CV.val (.int .u8 (((UInt8.ofNat (48 + k1 / 10)).toNat : Nat) : Int))]
      rw [u8_nat (by omega)]
    conv => whnf
    refine ⟨trivial, ?_⟩
    have e4 : (part xs (digs n u) o (m - 3)).set (o + ((m - 4 : Nat) : Int).toNat) ((48 + k1 / 10 : Nat) : Int) = part xs (digs n u) o (m - 4) := by
      rw [Int.toNat_natCast]
      have := part_step (xs := xs) (n := n) (u := u) (o := o) (m := m - 4) (p := 3) (y := ((48 + k1 / 10 : Nat) : Int)) hlen (by omega) ?_
      · rw [show m - 4 + 1 = m - 3 by omega] at this
        exact this
      · rw [show m - 4 + 3 + 1 = m by omega, ← hv]
        omega
    rw [e4]
    conv => whnf
    rw [nadd (k2 * 2) 1, nwrap32 (n := k2 * 2 + 1) (by omega)]
    refine ⟨_, si_lo (k := k2) (by omega), ?_⟩
    conv => whnf
    refine ⟨_, si_hi (k := k2) (by omega), ?_⟩
    conv => whnf
    rw [nsub (a := m) (b := 5) (by omega), nwrapi (n := m - 5) (by omega)]
    refine ⟨by omega, ?_⟩
    conv => whnf
    obtain ⟨z5, hz5⟩ := part_get (xs := xs) (D := digs n u) (o := o) (m := m - 4) (j := m - 5) (by omega) (by omega) (by omega)
    refine ⟨z5, ((48 + k2 % 10 : Nat) : Int), hz5, ?_, ?_⟩
    · show [CV.val (.int .u8 ((48 + k2 % 10 : Nat) : Int))] = [CV.val (.int .u8 (((UInt8.ofNat (48 + k2 % 10)).toNat : Nat) : Int))]
      rw [u8_nat (by omega)]
    conv => whnf
    refine ⟨trivial, ?_⟩
    have e5 : (part xs (digs n u) o (m - 4)).set (o + ((m - 5 : Nat) : Int).toNat) ((48 + k2 % 10 : Nat) : Int) = part xs (digs n u) o (m - 5) := by
      rw [Int.toNat_natCast]
      have := part_step (xs := xs) (n := n) (u := u) (o := o) (m := m - 5) (p := 4) (y := ((48 + k2 % 10 : Nat) : Int)) hlen (by omega) ?_
      · rw [show m - 5 + 1 = m - 4 by omega] at this
        exact this
      · rw [show m - 5 + 4 + 1 = m by omega, ← hv]
        omega
    rw [e5]
    conv => whnf
    rw [nsub (a := m) (b := 6) (by omega), nwrapi (n := m - 6) (by omega)]
    refine ⟨by omega, ?_⟩
    conv => whnf
    obtain ⟨z6, hz6⟩ := part_get (xs := xs) (D := digs n u) (o := o) (m := m - 5) (j := m - 6) (by omega) (by omega) (by omega)
    refine ⟨z6, ((48 + k2 / 10 : Nat) : Int), hz6, ?_, ?_⟩
    · show [CV.val (.int .u8 ((48 + k2 / 10 : Nat) : Int))] = [CV.val (.int .u8 (((UInt8.ofNat (48 + k2 / 10)).toNat : Nat) : Int))]
      rw [u8_nat (by omega)]
    conv => whnf
    refine ⟨trivial, ?_⟩
    have e6 : (part xs (digs n u) o (m - 5)).set (o + ((m - 6 : Nat) : Int).toNat) ((48 + k2 / 10 : Nat) : Int) = part xs (digs n u) o (m - 6) := by
      rw [Int.toNat_natCast]
      have := part_step (xs := xs) (n := n) (u := u) (o := o) (m := m - 6) (p := 5) (y := ((48 + k2 / 10 : Nat) : Int)) hlen (by omega) ?_
      · rw [show m - 6 + 1 = m - 5 by omega] at this
        exact this
      · rw [show m - 6 + 5 + 1 = m by omega, ← hv]
        omega
    rw [e6]
    conv => whnf
    rw [nadd (k3 * 2) 1, nwrap32 (n := k3 * 2 + 1) (by omega)]
    refine ⟨_, si_lo (k := k3) (by omega), ?_⟩
    conv => whnf
    refine ⟨_, si_hi (k := k3) (by omega), ?_⟩
    conv => whnf
    rw [nsub (a := m) (b := 7) (by omega), nwrapi (n := m - 7) (by omega)]
    refine ⟨by omega, ?_⟩
    conv => whnf
    obtain ⟨z7, hz7⟩ := part_get (xs := xs) (D := digs n u) (o := o) (m := m - 6) (j := m - 7) (by omega) (by omega) (by omega)
    refine ⟨z7, ((48 + k3 % 10 : Nat) : Int), hz7, ?_, ?_⟩
    · show [CV.val (.int .u8 ((48 + k3 % 10 : Nat) : Int))] = [CV.val (.int .u8 (((UInt8.ofNat (48 + k3 % 10)).toNat : Nat) : Int))]
      rw [u8_nat (by omega)]
    conv => whnf
    refine ⟨trivial, ?_⟩
    have e7 : (part xs (digs n u) o (m - 6)).set (o + ((m - 7 : Nat) : Int).toNat) ((48 + k3 % 10 : Nat) : Int) = part xs (digs n u) o (m - 7) := by
      rw [Int.toNat_natCast]
      have := part_step (xs := xs) (n := n) (u := u) (o := o) (m := m - 7) (p := 6) (y := ((48 + k3 % 10 : Nat) : Int)) hlen (by omega) ?_
      · rw [show m - 7 + 1 = m - 6 by omega] at this
        exact this
      · rw [show m - 7 + 6 + 1 = m by omega, ← hv]
        omega
    rw [e7]
    conv => whnf
    rw [nsub (a := m) (b := 8) (by omega), nwrapi (n := m - 8) (by omega)]
    refine ⟨by omega, ?_⟩
    conv => whnf
    obtain ⟨z8, hz8⟩ := part_get (xs := xs) (D := digs n u) (o := o) (m := m - 7) (j := m - 8) (by omega) (by omega) (by omega)
    refine ⟨z8, ((48 + k3 / 10 : Nat) : Int), hz8, ?_, ?_⟩
    · show [CV.val (.int .u8 ((48 + k3 / 10 : Nat) : Int))] = [CV.val (.int .u8 (((UInt8.ofNat (48 + k3 / 10)).toNat : Nat) : Int))]
      rw [u8_nat (by omega)]
    conv => whnf
    refine ⟨trivial, ?_⟩
    have e8 : (part xs (digs n u) o (m - 7)).set (o + ((m - 8 : Nat) : Int).toNat) ((48 + k3 / 10 : Nat) : Int) = part xs (digs n u) o (m - 8) := by
      rw [Int.toNat_natCast]
      have := part_step (xs := xs) (n := n) (u := u) (o := o) (m := m - 8) (p := 7) (y := ((48 + k3 / 10 : Nat) : Int)) hlen (by omega) ?_
      · rw [show m - 8 + 1 = m - 7 by omega] at this
        exact this
      · rw [show m - 8 + 7 + 1 = m by omega, ← hv]
        omega
    rw [e8]
    conv => whnf
    refine ⟨⟨m - 8, by omega⟩, ⟨[0], ⟨rfl, ⟨rfl, rfl, trivial⟩, rfl⟩, rfl, eq_u64 ?_, eq_i64 ?_, trivial⟩, ?_⟩
    · rw [← pow_next (by omega) hm, ← hv]
    · rw [nsub (by omega), nwrapi (by omega)]
    · show m - 8 < m
      omega
  · have g : m < 8 := ge_f g
    conv => whnf
    have hv8 : v < 100000000 := Nat.lt_of_lt_of_le hvm (Nat.pow_le_pow_right (by omega) (show m ≤ 8 by omega))
    rw [nwrap32 (n := v) (by omega)]
    refine Or.inr ⟨{q : Nat // q ≤ n ∧ q < 4}, fun ⟨q, _⟩ => ⟨[(0, .o (.c (.sli 0 1 o n c))), (4, .o (.c (.val (.int .i64 q)))), (12, .o (.c (.val (.int .u32 (u / 10 ^ (n - q) : Nat)))))], [arrB T (part xs (digs n u) o q)]⟩, ?_, ?_⟩
    · conv => whnf
      refine ⟨fun g4 => ?_, fun g4 => ?_⟩
      · have g4 : 4 ≤ m := ge_t g4
        conv => whnf
        rw [ntmod v 10000, ntdiv v 10000, nwrap32 (n := v / 10000) (by omega)]
        obtain ⟨y0, hy0⟩ : ∃ y, y = v % 10000 := ⟨_, rfl⟩
        rw [← hy0]
        rw [ntdiv y0 100, nwrap32 (n := y0 / 100) (by omega), nmul (y0 / 100) 2, nwrap32 (n := y0 / 100 * 2) (by omega), ntmod y0 100, nmul (y0 % 100) 2, nwrap32 (n := y0 % 100 * 2) (by omega)]
        obtain ⟨k0, hk0⟩ : ∃ y, y = y0 % 100 := ⟨_, rfl⟩
        obtain ⟨k1, hk1⟩ : ∃ y, y = y0 / 100 := ⟨_, rfl⟩
        rw [← hk0, ← hk1]
        conv => whnf
        rw [nadd (k0 * 2) 1, nwrap32 (n := k0 * 2 + 1) (by omega)]
        refine ⟨_, si_lo (k := k0) (by omega), ?_⟩
        conv => whnf
        refine ⟨_, si_hi (k := k0) (by omega), ?_⟩
        conv => whnf
        rw [nsub (a := m) (b := 1) (by omega), nwrapi (n := m - 1) (by omega)]
        refine ⟨by omega, ?_⟩
        conv => whnf
        obtain ⟨z1, hz1⟩ := part_get (xs := xs) (D := digs n u) (o := o) (m := m - 0) (j := m - 1) (by omega) (by omega) (by omega)
        refine ⟨z1, ((48 + k0 % 10 : Nat) : Int), hz1, ?_, ?_⟩
        · show [CV.val (.int .u8 ((48 + k0 % 10 : Nat) : Int))] = [CV.val (.int .u8 (((UInt8.ofNat (48 + k0 % 10)).toNat : Nat) : Int))]
          rw [u8_nat (by omega)]
        conv => whnf
        refine ⟨trivial, ?_⟩
        have e1 : (part xs (digs n u) o m).set (o + ((m - 1 : Nat) : Int).toNat) ((48 + k0 % 10 : Nat) : Int) = part xs (digs n u) o (m - 1) := by
          rw [Int.toNat_natCast]
          have := part_step (xs := xs) (n := n) (u := u) (o := o) (m := m - 1) (p := 0) (y := ((48 + k0 % 10 : Nat) : Int)) hlen (by omega) ?_
          · rw [show m - 1 + 1 = m by omega] at this
            exact this
          · rw [show m - 1 + 0 + 1 = m by omega, ← hv]
            omega
        rw [e1]
        conv => whnf
        rw [nsub (a := m) (b := 2) (by omega), nwrapi (n := m - 2) (by omega)]
        refine ⟨by omega, ?_⟩
        conv => whnf
        obtain ⟨z2, hz2⟩ := part_get (xs := xs) (D := digs n u) (o := o) (m := m - 1) (j := m - 2) (by omega) (by omega) (by omega)
        refine ⟨z2, ((48 + k0 / 10 : Nat) : Int), hz2, ?_, ?_⟩
        · show [CV.val (.int .u8 ((48 + k0 / 10 : Nat) : Int))] = [CV.val (.int .u8 (((UInt8.ofNat (48 + k0 / 10)).toNat : Nat) : Int))]
          rw [u8_nat (by omega)]
        conv => whnf
        refine ⟨trivial, ?_⟩
        have e2 : (part xs (digs n u) o (m - 1)).set (o + ((m - 2 : Nat) : Int).toNat) ((48 + k0 / 10 : Nat) : Int) = part xs (digs n u) o (m - 2) := by
          rw [Int.toNat_natCast]
          have := part_step (xs := xs) (n := n) (u := u) (o := o) (m := m - 2) (p := 1) (y := ((48 + k0 / 10 : Nat) : Int)) hlen (by omega) ?_
          · rw [show m - 2 + 1 = m - 1 by omega] at this
            exact this
          · rw [show m - 2 + 1 + 1 = m by omega, ← hv]
            omega
        rw [e2]
        conv => whnf
        rw [nadd (k1 * 2) 1, nwrap32 (n := k1 * 2 + 1) (by omega)]
        refine ⟨_, si_lo (k := k1) (by omega), ?_⟩
        conv => whnf
        refine ⟨_, si_hi (k := k1) (by omega), ?_⟩
        conv => whnf
        rw [nsub (a := m) (b := 3) (by omega), nwrapi (n := m - 3) (by omega)]
        refine ⟨by omega, ?_⟩
        conv => whnf
        obtain ⟨z3, hz3⟩ := part_get (xs := xs) (D := digs n u) (o := o) (m := m - 2) (j := m - 3) (by omega) (by omega) (by omega)
        refine ⟨z3, ((48 + k1 % 10 : Nat) : Int), hz3, ?_, ?_⟩
        · show [CV.val (.int .u8 ((48 + k1 % 10 : Nat) : Int))] = [CV.val (.int .u8 (((UInt8.ofNat (48 + k1 % 10)).toNat : Nat) : Int))]
          rw [u8_nat (by omega)]
        conv => whnf
        refine ⟨trivial, ?_⟩
        have e3 : (part xs (digs n u) o (m - 2)).set (o + ((m - 3 : Nat) : Int).toNat) ((48 + k1 % 10 : Nat) : Int) = part xs (digs n u) o (m - 3) := by
          rw [Int.toNat_natCast]
          have := part_step (xs := xs) (n := n) (u := u) (o := o) (m := m - 3) (p := 2) (y := ((48 + k1 % 10 : Nat) : Int)) hlen (by omega) ?_
          · rw [show m - 3 + 1 = m - 2 by omega] at this
            exact this
          · rw [show m - 3 + 2 + 1 = m by omega, ← hv]
            omega
        rw [e3]
        conv => whnf
        rw [nsub (a := m) (b := 4) (by omega), nwrapi (n := m - 4) (by omega)]
        refine ⟨by omega, ?_⟩
        conv => whnf
        obtain ⟨z4, hz4⟩ := part_get (xs := xs) (D := digs n u) (o := o) (m := m - 3) (j := m - 4) (by omega) (by omega) (by omega)
        refine ⟨z4, ((48 + k1 / 10 : Nat) : Int), hz4, ?_, ?_⟩
        · show [CV.val (.int .u8 ((48 + k1 / 10 : Nat) : Int))] = [CV.val (.int .u8 (((UInt8.ofNat (48 + k1 / 10)).toNat : Nat) : Int))]
          rw [u8_nat (by omega)]
        conv => whnf
        refine ⟨trivial, ?_⟩
        have e4 : (part xs (digs n u) o (m - 3)).set (o + ((m - 4 : Nat) : Int).toNat) ((48 + k1 / 10 : Nat) : Int) = part xs (digs n u) o (m - 4) := by
          rw [Int.toNat_natCast]
          have := part_step (xs := xs) (n := n) (u := u) (o := o) (m := m - 4) (p := 3) (y := ((48 + k1 / 10 : Nat) : Int)) hlen (by omega) ?_
          · rw [show m - 4 + 1 = m - 3 by omega] at this
            exact this
          · rw [show m - 4 + 3 + 1 = m by omega, ← hv]
            omega
        rw [e4]
        conv => whnf
        refine ⟨⟨m - 4, by omega, by omega⟩, ⟨[0], ⟨rfl, ⟨rfl, rfl, trivial⟩, rfl⟩, rfl, eq_i64 ?_, eq_u32 ?_, trivial⟩⟩
        · rw [nsub (by omega), nwrapi (by omega)]
        · rw [← pow_next (by omega) hm, ← hv]
      · have g4 : m < 4 := ge_f g4
        conv => whnf
        exact ⟨⟨m, hm, g4⟩, ⟨[0], ⟨rfl, ⟨rfl, rfl, trivial⟩, rfl⟩, rfl, rfl, eq_u32 (by rw [hv]), trivial⟩⟩
    clear hv8 hvm hvu hv v
    rintro ⟨m, hm, hm4⟩
    obtain ⟨v, hv⟩ : ∃ v, v = u / 10 ^ (n - m) := ⟨_, rfl⟩
    have hvm : v < 10 ^ m := by rw [hv]; exact last_small hun hm
    have hv8 : v < 10000 := Nat.lt_of_lt_of_le hvm (Nat.pow_le_pow_right (by omega) (show m ≤ 4 by omega))
    conv => whnf
    refine Or.inr ⟨{q : Nat // q ≤ n ∧ q < 2}, fun ⟨q, _⟩ => ⟨[(0, .o (.c (.sli 0 1 o n c))), (4, .o (.c (.val (.int .i64 q)))), (12, .o (.c (.val (.int .u32 (u / 10 ^ (n - q) : Nat)))))], [arrB T (part xs (digs n u) o q)]⟩, ?_, ?_⟩
    · conv => whnf
      rw [← hv]
      refine ⟨fun g4 => ?_, fun g4 => ?_⟩
      · have g4 : 2 ≤ m := ge_t g4
        conv => whnf
        rw [ntmod v 100, ntdiv v 100, nwrap32 (n := v / 100) (by omega), nmul (v % 100) 2, nwrap32 (n := v % 100 * 2) (by omega)]
        obtain ⟨k0, hk0⟩ : ∃ y, y = v % 100 := ⟨_, rfl⟩
        rw [← hk0]
        conv => whnf
        rw [nadd (k0 * 2) 1, nwrap32 (n := k0 * 2 + 1) (by omega)]
        refine ⟨_, si_lo (k := k0) (by omega), ?_⟩
        conv => whnf
        refine ⟨_, si_hi (k := k0) (by omega), ?_⟩
        conv => whnf
        rw [nsub (a := m) (b := 1) (by omega), nwrapi (n := m - 1) (by omega)]
        refine ⟨by omega, ?_⟩
        conv => whnf
        obtain ⟨z1, hz1⟩ := part_get (xs := xs) (D := digs n u) (o := o) (m := m - 0) (j := m - 1) (by omega) (by omega) (by omega)
        refine ⟨z1, ((48 + k0 % 10 : Nat) : Int), hz1, ?_, ?_⟩
        · show [CV.val (.int .u8 ((48 + k0 % 10 : Nat) : Int))] = [CV.val (.int .u8 (((UInt8.ofNat (48 + k0 % 10)).toNat : Nat) : Int))]
          rw [u8_nat (by omega)]
        conv => whnf
        refine ⟨trivial, ?_⟩
        have e1 : (part xs (digs n u) o m).set (o + ((m - 1 : Nat) : Int).toNat) ((48 + k0 % 10 : Nat) : Int) = part xs (digs n u) o (m - 1) := by
          rw [Int.toNat_natCast]
          have := part_step (xs := xs) (n := n) (u := u) (o := o) (m := m - 1) (p := 0) (y := ((48 + k0 % 10 : Nat) : Int)) hlen (by omega) ?_
          · rw [show m - 1 + 1 = m by omega] at this
            exact this
          · rw [show m - 1 + 0 + 1 = m by omega, ← hv]
            omega
        rw [e1]
        conv => whnf
        rw [nsub (a := m) (b := 2) (by omega), nwrapi (n := m - 2) (by omega)]
        refine ⟨by omega, ?_⟩
        conv => whnf
        obtain ⟨z2, hz2⟩ := part_get (xs := xs) (D := digs n u) (o := o) (m := m - 1) (j := m - 2) (by omega) (by omega) (by omega)
        refine ⟨z2, ((48 + k0 / 10 : Nat) : Int), hz2, ?_, ?_⟩
        · show [CV.val (.int .u8 ((48 + k0 / 10 : Nat) : Int))] = [CV.val (.int .u8 (((UInt8.ofNat (48 + k0 / 10)).toNat : Nat) : Int))]
          rw [u8_nat (by omega)]
        conv => whnf
        refine ⟨trivial, ?_⟩
        have e2 : (part xs (digs n u) o (m - 1)).set (o + ((m - 2 : Nat) : Int).toNat) ((48 + k0 / 10 : Nat) : Int) = part xs (digs n u) o (m - 2) := by
          rw [Int.toNat_natCast]
          have := part_step (xs := xs) (n := n) (u := u) (o := o) (m := m - 2) (p := 1) (y := ((48 + k0 / 10 : Nat) : Int)) hlen (by omega) ?_
          · rw [show m - 2 + 1 = m - 1 by omega] at this
            exact this
          · rw [show m - 2 + 1 + 1 = m by omega, ← hv]
            omega
        rw [e2]
        conv => whnf
        refine ⟨⟨m - 2, by omega, by omega⟩, ⟨[0], ⟨rfl, ⟨rfl, rfl, trivial⟩, rfl⟩, rfl, eq_i64 ?_, eq_u32 ?_, trivial⟩⟩
        · rw [nsub (by omega), nwrapi (by omega)]
        · rw [← pow_next (by omega) hm, ← hv]
      · have g4 : m < 2 := ge_f g4
        conv => whnf
        exact ⟨⟨m, hm, g4⟩, ⟨[0], ⟨rfl, ⟨rfl, rfl, trivial⟩, rfl⟩, rfl, rfl, eq_u32 (by rw [hv]), trivial⟩⟩
    clear hv8 hvm hv v
    rintro ⟨m, hm, hm4⟩
    obtain ⟨v, hv⟩ : ∃ v, v = u / 10 ^ (n - m) := ⟨_, rfl⟩
    have hvm : v < 10 ^ m := by rw [hv]; exact last_small hun hm
    have hv8 : v < 10 := Nat.lt_of_lt_of_le hvm (Nat.pow_le_pow_right (by omega) (show m ≤ 1 by omega))
    conv => whnf
    rw [← hv]
    refine ⟨fun g4 => ?_, fun g4 => ?_⟩
    · have g4 : 0 < m := gt_t g4
      obtain rfl : m = 1 := by omega
      conv => whnf
      refine ⟨by omega, ?_⟩
      conv => whnf
      obtain ⟨z, hz⟩ := part_get (xs := xs) (D := digs n u) (o := o) (m := 1) (j := 0) (by omega) (by omega) (by omega)
      refine ⟨z, ((48 + v : Nat) : Int), hz, ?_, ?_⟩
      · show [CV.val (.int .u8 ((48 + v : Nat) : Int))] = [CV.val (.int .u8 (IntKind.u8.wrap (IntKind.u32.wrap (((48 : Nat) : Int) + (v : Int)))))]
        rw [nadd, nwrap32 (by omega), nwrap8 (by omega)]
      conv => whnf
      refine Or.inl ⟨rfl, ?_⟩
      have := part_step (xs := xs) (n := n) (u := u) (o := o) (m := 0) (p := 0) (y := ((48 + v : Nat) : Int)) hlen (by omega) (by rw [show n - (0 + 0 + 1) = n - 1 by omega, ← hv, Nat.pow_zero, Nat.div_one]; omega)
      rw [← this]
      rfl
    · have g4 : m ≤ 0 := gt_f g4
      obtain rfl : m = 0 := by omega
      conv => whnf
      exact Or.inl ⟨rfl, rfl⟩
end Go.Proofs.YtkomikpfnogjcaaDoor
