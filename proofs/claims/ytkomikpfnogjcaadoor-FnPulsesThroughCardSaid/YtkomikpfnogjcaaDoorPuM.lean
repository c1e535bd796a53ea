/- Whole numbers as texts: how many digits, the digits. -/
import Derived.Test.YtkomikpfnogjcaaDoorPuL
namespace Go.Proofs.YtkomikpfnogjcaaDoor
open Go Go.Vc
set_option maxRecDepth 100000
set_option maxHeartbeats 8000000

/-- The digits of a number, 'n' of them. -/
def digs (n u : Nat) : List Int := (List.range n).map fun i => ((48 + u / 10 ^ (n - 1 - i) % 10 : Nat) : Int)
theorem digs_len (n u : Nat) : (digs n u).length = n := by unfold digs; rw [List.length_map, List.length_range]
theorem digs_get {n u i : Nat} (h : i < n) : (digs n u)[i]? = some ((48 + u / 10 ^ (n - 1 - i) % 10 : Nat) : Int) := by
  unfold digs
  rw [List.getElem?_map, List.getElem?_range h]
  rfl
/-- The first places still as they were, the digits from 'm' on. -/
def part (xs D : List Int) (o m : Nat) : List Int := xs.take (o + m) ++ (D.drop m ++ xs.drop (o + D.length))
theorem part_all (xs D : List Int) (o : Nat) : part xs D o D.length = xs := by
  unfold part
  rw [List.drop_length, List.nil_append, List.take_append_drop]
theorem part_len (xs D : List Int) (o m : Nat) (h : o + D.length ≤ xs.length) (hm : m ≤ D.length) : (part xs D o m).length = xs.length := by
  unfold part
  rw [List.length_append, List.length_append, List.length_take, List.length_drop, List.length_drop]
  omega
theorem part_set {xs D : List Int} {o m : Nat} {y : Int} (h : o + D.length ≤ xs.length) (hm : m < D.length) (hy : D[m]? = some y) : (part xs D o (m + 1)).set (o + m) y = part xs D o m := by
  unfold part
  apply List.ext_getElem?
  intro i
  have hl : (xs.take (o + (m + 1))).length = o + (m + 1) := by rw [List.length_take]; omega
  have hl2 : (xs.take (o + m)).length = o + m := by rw [List.length_take]; omega
  rw [List.getElem?_set]
  split
  · rename_i c
    subst c
    rw [if_pos (by rw [List.length_append, hl]; omega), List.getElem?_append_right (by omega), hl2, Nat.sub_self, List.getElem?_append_left (by rw [List.length_drop]; omega), List.getElem?_drop, Nat.add_zero, hy]
  · rcases Nat.lt_or_ge i (o + m) with c | c
    · rw [List.getElem?_append_left (by omega), List.getElem?_append_left (by omega), List.getElem?_take, List.getElem?_take, if_pos (by omega), if_pos c]
    · rw [List.getElem?_append_right (l₁ := xs.take (o + (m + 1))) (by omega), List.getElem?_append_right (l₁ := xs.take (o + m)) (by omega), hl, hl2]
      rw [show D.drop m = y :: D.drop (m + 1) by rw [List.drop_eq_getElem_cons hm]; congr 1; rw [List.getElem?_eq_getElem hm] at hy; exact Option.some.inj hy]
      rw [show i - (o + m) = (i - (o + (m + 1))) + 1 by omega, List.cons_append, List.getElem?_cons_succ]
theorem part_get {xs D : List Int} {o m j : Nat} (h : o + D.length ≤ xs.length) (hj : o + j < xs.length) (hm : m ≤ D.length) : ∃ x, (part xs D o m)[o + j]? = some x :=
  ⟨_, List.getElem?_eq_getElem (by rw [part_len xs D o m h hm]; exact hj)⟩
def smalls : ByteArray := ByteArray.mk #[48, 48, 48, 49, 48, 50, 48, 51, 48, 52, 48, 53, 48, 54, 48, 55, 48, 56, 48, 57, 49, 48, 49, 49, 49, 50, 49, 51, 49, 52, 49, 53, 49, 54, 49, 55, 49, 56, 49, 57, 50, 48, 50, 49, 50, 50, 50, 51, 50, 52, 50, 53, 50, 54, 50, 55, 50, 56, 50, 57, 51, 48, 51, 49, 51, 50, 51, 51, 51, 52, 51, 53, 51, 54, 51, 55, 51, 56, 51, 57, 52, 48, 52, 49, 52, 50, 52, 51, 52, 52, 52, 53, 52, 54, 52, 55, 52, 56, 52, 57, 53, 48, 53, 49, 53, 50, 53, 51, 53, 52, 53, 53, 53, 54, 53, 55, 53, 56, 53, 57, 54, 48, 54, 49, 54, 50, 54, 51, 54, 52, 54, 53, 54, 54, 54, 55, 54, 56, 54, 57, 55, 48, 55, 49, 55, 50, 55, 51, 55, 52, 55, 53, 55, 54, 55, 55, 55, 56, 55, 57, 56, 48, 56, 49, 56, 50, 56, 51, 56, 52, 56, 53, 56, 54, 56, 55, 56, 56, 56, 57, 57, 48, 57, 49, 57, 50, 57, 51, 57, 52, 57, 53, 57, 54, 57, 55, 57, 56, 57, 57]
theorem smalls_hi : ∀ k, k < 100 → smalls[k * 2]? = some (UInt8.ofNat (48 + k / 10)) := by decide +kernel
theorem smalls_lo : ∀ k, k < 100 → smalls[k * 2 + 1]? = some (UInt8.ofNat (48 + k % 10)) := by decide +kernel
theorem si_hi {k : Nat} (h : k < 100) : (if (0 : Int) ≤ ((k * 2 : Nat) : Int) then smalls[((k * 2 : Nat) : Int).toNat]? else none) = some (UInt8.ofNat (48 + k / 10)) := by
  rw [if_pos (by omega), Int.toNat_natCast]
  exact smalls_hi k h
theorem si_lo {k : Nat} (h : k < 100) : (if (0 : Int) ≤ ((k * 2 + 1 : Nat) : Int) then smalls[((k * 2 + 1 : Nat) : Int).toNat]? else none) = some (UInt8.ofNat (48 + k % 10)) := by
  rw [if_pos (by omega), Int.toNat_natCast]
  exact smalls_lo k h
theorem u8_nat {n : Nat} (h : n < 256) : (((UInt8.ofNat n).toNat : Nat) : Int) = (n : Int) := by
  rw [UInt8.toNat_ofNat', Nat.mod_eq_of_lt h]
theorem len64W (w0 : World) (H : List Blk) {n : Nat} (hn : n < 18446744073709551616) : CallsA Tryd.prog w0 103 [.c (.val (.int .u64 n))] H fun r H' => r = i64 (len n) ∧ H' = H := by
  refine CallsA_frame rfl rfl ?_ H
  refine callsA_of_ev c103_ ?_
  conv => whnf
  refine Or.inr ⟨{p : Nat × Nat // p.1 < 4294967296 ∧ len n = p.2 + len p.1 ∧ p.2 ≤ 32}, fun p => ⟨[(0, .o (.c (.val (.int .u64 (p.1.1 : Nat))))), (2, .o (.c (.val (.int .i64 (p.1.2 : Nat)))))], []⟩, ?_, ?_⟩
  · conv => whnf
    refine ⟨fun h1 => ?_, fun h1 => ?_⟩
    · have h1 : 4294967296 ≤ n := ge_t h1
      conv => whnf
      simp (disch := omega) only [nshr64]
      refine ⟨⟨(n / 2 ^ 32, 32), by simp only; omega, ?_, by simp⟩, embNil ⟨rfl, rfl, trivial⟩⟩
      rw [len_div (j := 32) h1]
      simp only
      omega
    · have h1 : n < 4294967296 := ge_f h1
      conv => whnf
      exact ⟨⟨(n, 0), h1, by simp, by simp⟩, embNil ⟨rfl, rfl, trivial⟩⟩
  rintro ⟨⟨x, b⟩, hx, hl, hb⟩
  simp only at hx hl hb
  conv => whnf
  refine Or.inr ⟨{p : Nat × Nat // p.1 < 65536 ∧ len n = p.2 + len p.1 ∧ p.2 ≤ 48}, fun p => ⟨[(0, .o (.c (.val (.int .u64 (p.1.1 : Nat))))), (2, .o (.c (.val (.int .i64 (p.1.2 : Nat)))))], []⟩, ?_, ?_⟩
  · conv => whnf
    refine ⟨fun h1 => ?_, fun h1 => ?_⟩
    · have h1 : 65536 ≤ x := ge_t h1
      conv => whnf
      refine ⟨⟨(x / 2 ^ 16, b + 16), by simp only; omega, ?_, by simp only; omega⟩, embNil ⟨?_, ?_, trivial⟩⟩
      · rw [hl, len_div (j := 16) h1]
        simp only
        omega
      · refine eq_u64 ?_
        rw [nshr64 _ _ (by omega)]
      · refine eq_i64 ?_
        show IntKind.i64.wrap ((b : Int) + ((16 : Nat) : Int)) = _
        rw [nadd, nwrapi (by omega)]
    · have h1 : x < 65536 := ge_f h1
      conv => whnf
      exact ⟨⟨(x, b), h1, hl, by simp only; omega⟩, embNil ⟨rfl, rfl, trivial⟩⟩
  clear hb hl hx x b
  rintro ⟨⟨x, b⟩, hx, hl, hb⟩
  simp only at hx hl hb
  conv => whnf
  refine Or.inr ⟨{p : Nat × Nat // p.1 < 256 ∧ len n = p.2 + len p.1 ∧ p.2 ≤ 56}, fun p => ⟨[(0, .o (.c (.val (.int .u64 (p.1.1 : Nat))))), (2, .o (.c (.val (.int .i64 (p.1.2 : Nat)))))], []⟩, ?_, ?_⟩
  · conv => whnf
    refine ⟨fun h1 => ?_, fun h1 => ?_⟩
    · have h1 : 256 ≤ x := ge_t h1
      conv => whnf
      refine ⟨⟨(x / 2 ^ 8, b + 8), by simp only; omega, ?_, by simp only; omega⟩, embNil ⟨?_, ?_, trivial⟩⟩
      · rw [hl, len_div (j := 8) h1]
        simp only
        omega
      · refine eq_u64 ?_
        rw [nshr64 _ _ (by omega)]
      · refine eq_i64 ?_
        show IntKind.i64.wrap ((b : Int) + ((8 : Nat) : Int)) = _
        rw [nadd, nwrapi (by omega)]
    · have h1 : x < 256 := ge_f h1
      conv => whnf
      exact ⟨⟨(x, b), h1, hl, by simp only; omega⟩, embNil ⟨rfl, rfl, trivial⟩⟩
  clear hb hl hx x b
  rintro ⟨⟨x, b⟩, hx, hl, hb⟩
  simp only at hx hl hb
  have hl8 := len_le (n := x) (k := 8) hx
  conv => whnf
  refine ⟨UInt8.ofNat (len x), ?_, ?_⟩
  · show (if 0 ≤ IntKind.u8.wrap (x : Int) then lens[(IntKind.u8.wrap (x : Int)).toNat]? else none) = _
    rw [nwrap8 hx, if_pos (by omega), Int.toNat_natCast]
    exact lens_get x hx
  · conv => whnf
    refine Or.inl ⟨i64_of ?_, rfl⟩
    have e1 : (UInt8.ofNat (len x)).toNat = len x := by
      rw [UInt8.toNat_ofNat']
      omega
    show IntKind.i64.wrap ((b : Int) + IntKind.i64.wrap (((UInt8.ofNat (len x)).toNat : Nat) : Int)) = _
    rw [e1, nwrapi (by omega), nadd, nwrapi (by omega), hl]
theorem log10W (w0 : World) (H : List Blk) {n : Nat} (hn : n ≤ 64) : CallsA Tryd.prog w0 102 [.c (.val (.int .i64 n))] H fun r H' => r = i64 ((n * 78913 / 2 ^ 18 : Nat) : Int) ∧ H' = H := by
  refine CallsA_frame rfl rfl ?_ H
  refine callsA_of_ev c102_ ?_
  conv => whnf
  refine Or.inl ⟨i64_of ?_, rfl⟩
  show ((IntKind.i64.wrap ((n : Int) * ((78913 : Nat) : Int))).fdiv ((2 : Int) ^ min 18 IntKind.i64.bits)) = _
  rw [nmul, nwrapi (by omega), nshri _ _ (by omega)]
theorem bool2W (w0 : World) (H : List Blk) (b : Bool) : CallsA Tryd.prog w0 104 [.c (.val (.bool b))] H fun r H' => r = i64 ((if b = true then 1 else 0 : Nat) : Int) ∧ H' = H := by
  refine CallsA_frame rfl rfl ?_ H
  refine callsA_of_ev c104_ ?_
  conv => whnf
  refine Or.inl ?_
  conv => whnf
  refine ⟨fun g => ?_, fun g => ?_⟩
  · subst g
    conv => whnf
    exact Or.inl ⟨rfl, rfl⟩
  · subst g
    conv => whnf
    exact Or.inl ⟨rfl, rfl⟩
/-- How many digits strconv takes a number to have. -/
def ndig (u : Nat) : Nat := len u * 78913 / 2 ^ 18 + if 10 ^ (len u * 78913 / 2 ^ 18) ≤ u then 1 else 0
theorem log_fact : ∀ l, l ≤ 64 → 2 ^ l ≤ 10 ^ (l * 78913 / 2 ^ 18 + 1) ∧ l * 78913 / 2 ^ 18 < 20 := by decide +kernel
theorem ndig_le {u : Nat} (h : u < 18446744073709551616) : ndig u ≤ 20 := by
  have := (log_fact (len u) (len_le (k := 64) h)).2
  unfold ndig
  split <;> omega
theorem lt_ndig {u : Nat} (h : u < 18446744073709551616) : u < 10 ^ ndig u := by
  have h1 := (log_fact (len u) (len_le (k := 64) h)).1
  unfold ndig
  split
  · refine Nat.lt_of_lt_of_le ?_ h1
    by_cases h0 : u = 0
    · rw [h0]
      exact Nat.two_pow_pos _
    · obtain ⟨k, e1, _, e3⟩ := len_spec h0
      rw [e1]
      exact e3
  · rw [Nat.add_zero]
    omega
theorem ndig_pos {u : Nat} (h : 1 ≤ u) (h2 : u < 18446744073709551616) : 1 ≤ ndig u := by
  have := lt_ndig h2
  rcases Nat.eq_zero_or_pos (ndig u) with c | c
  · rw [c] at this
    omega
  · exact c
/-- What the table of the powers of ten holds. -/
def pows (w0 : World) : Prop := ∀ i, i < 20 → w0.cell? ((Addr.mk 0 0 none).add (i * 1)) = some (.int .u64 ((10 ^ i : Nat) : Int))
theorem numDigitsW (w0 : World) (H : List Blk) (hp : pows w0) {u : Nat} (hu : u < 18446744073709551616) : CallsA Tryd.prog w0 85 [.c (.val (.int .u64 u))] H fun r H' => r = i64 (ndig u) ∧ H' = H := by
  refine CallsA_frame rfl rfl ?_ H
  have hl := len_le (n := u) (k := 64) hu
  have hf := (log_fact (len u) hl).2
  refine callsA_of_ev c85_ ?_
  conv => whnf
  refine (len64W w0 [] hu).mono ?_
  rintro _ _ ⟨rfl, rfl⟩
  conv => whnf
  refine (log10W w0 [] hl).mono ?_
  rintro _ _ ⟨rfl, rfl⟩
  obtain ⟨t, ht⟩ : ∃ t, t = len u * 78913 / 2 ^ 18 := ⟨_, rfl⟩
  rw [← ht] at hf ⊢
  conv => whnf
  refine ⟨by omega, ?_⟩
  conv => whnf
  refine ⟨_, hp t hf, rfl, ?_⟩
  conv => whnf
  refine (bool2W w0 [] _).mono ?_
  rintro _ _ ⟨rfl, rfl⟩
  conv => whnf
  refine Or.inl ⟨i64_of ?_, rfl⟩
  show IntKind.i64.wrap ((t : Int) + (((if decide (((u : Nat) : Int) ≥ ((10 ^ t : Nat) : Int)) = true then 1 else 0) : Nat) : Int)) = _
  have e : (if decide (((u : Nat) : Int) ≥ ((10 ^ t : Nat) : Int)) = true then 1 else 0) = (if 10 ^ t ≤ u then 1 else 0 : Nat) := by
    by_cases g : 10 ^ t ≤ u
    · rw [if_pos g, if_pos (decide_eq_true (by exact_mod_cast g))]
    · rw [if_neg g, if_neg (by rw [decide_eq_false (by intro g2; exact g (by exact_mod_cast g2))]; decide)]
  rw [e]
  unfold ndig
  rw [← ht, nadd, nwrapi (by split <;> omega)]
theorem smallW (w0 : World) (H : List Blk) {n : Nat} (hn : n < 100) : CallsA Tryd.prog w0 84 [.c (.val (.int .i64 n))] H fun r H' => r = .o (.c (.val (.string (strOf (if n < 10 then digs 1 n else digs 2 n))))) ∧ H' = H := by
  refine CallsA_frame rfl rfl ?_ H
  have hf : ∀ n, n < 10 → (ByteArray.mk #[48, 49, 50, 51, 52, 53, 54, 55, 56, 57, 97, 98, 99, 100, 101, 102, 103, 104, 105, 106, 107, 108, 109, 110, 111, 112, 113, 114, 115, 116, 117, 118, 119, 120, 121, 122]).extract n (n + 1) = strOf (digs 1 n) := by decide +kernel
  have hf2 : ∀ n, n < 100 → 10 ≤ n → smalls.extract (n * 2) (n * 2 + 2) = strOf (digs 2 n) := by decide +kernel
  refine callsA_of_ev c84_ ?_
  conv => whnf
  refine Or.inl ?_
  conv => whnf
  refine ⟨fun g => ?_, fun g => ?_⟩
  · have g : n < 10 := lt_t g
    conv => whnf
    rw [nadd, nwrapi (n := n + 1) (by omega)]
    refine ⟨⟨by omega, by omega, ?_⟩, ?_⟩
    · show ((n + 1 : Nat) : Int) ≤ ((36 : Nat) : Int)
      omega
    conv => whnf
    refine Or.inl ⟨?_, rfl⟩
    rw [if_pos g, ← hf n g]
    rfl
  · have g : 10 ≤ n := lt_f g
    conv => whnf
    rw [nmul, nwrapi (n := n * 2) (by omega), nadd, nwrapi (n := n * 2 + 2) (by omega)]
    refine ⟨⟨by omega, by omega, ?_⟩, ?_⟩
    · show ((n * 2 + 2 : Nat) : Int) ≤ ((200 : Nat) : Int)
      omega
    conv => whnf
    refine Or.inl ⟨?_, rfl⟩
    rw [if_neg (by omega), ← hf2 n hn g]
    rfl
end Go.Proofs.YtkomikpfnogjcaaDoor
