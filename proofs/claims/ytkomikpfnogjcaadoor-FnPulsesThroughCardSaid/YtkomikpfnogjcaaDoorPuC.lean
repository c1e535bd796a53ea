/- A row, one place back; small counts. -/
import Derived.Test.YtkomikpfnogjcaaDoorPuB
namespace Go.Proofs.YtkomikpfnogjcaaDoor
open Go Go.Vc
set_option maxRecDepth 100000

theorem nsubm {a b : Nat} (hb : b < 4294967296) : IntKind.u32.wrap ((a : Int) - (b : Int)) = (((a + 4294967296 - b) % 4294967296 : Nat) : Int) := by rw [IntKind.wrap_u32]; omega
def prevF (f : Nat → Nat) : Nat → Nat
  | 0 => 0
  | j + 1 => ((f (j + 1) + 4294967296 - f j) % 4294967296 + 4294967296 - prevF f j) % 4294967296
theorem prevF_lt (f : Nat → Nat) (j : Nat) : prevF f j < 4294967296 := by
  cases j with
  | zero => exact Nat.lt_of_sub_eq_succ rfl
  | succ j => exact Nat.mod_lt _ (by omega)
theorem prev_um (m j : Nat) : prevF (um (m + 1)) j = um m j := by
  induction j with
  | zero => rw [um_zero]; rfl
  | succ j ih =>
    show ((um (m + 1) (j + 1) + 4294967296 - um (m + 1) j) % 4294967296 + 4294967296 - prevF (um (m + 1)) j) % 4294967296 = _
    rw [ih]
    have h1 := um_step m j
    have h2 := um_lt m (j + 1)
    have h3 := um_lt m j
    have h4 := um_lt (m + 1) j
    have h5 := um_lt (m + 1) (j + 1)
    omega
def mixP (f : Nat → Nat) (j x : Nat) : Nat := if x + 1 < j then prevF f x else f x
theorem prevRowW (w0 : World) {T : TypeId} {n m : Nat} {f : Nat → Nat} (hf : ∀ x, f x < 4294967296) (hn : 2 ≤ n) (hm : n ≤ m) (hm2 : m ≤ 1000) :
    CallsA Tryd.prog w0 72 [.c (.vec 0 m), .c (.val (.int .i64 n)), .c (.val (.int .u32 ((0 : Nat) : Int)))] [rowT T m f] fun r H => r = .t [] ∧ H = [rowT T m (fun x => if x < n then prevF f x else f x)] := by
  refine callsA_of_ev c72_ ?_
  conv => whnf
  refine ⟨by omega, Or.inl ⟨fun c hc1 hc2 => ?_, fun h => absurd h (by omega), fun h => absurd h (by omega)⟩⟩
  conv => whnf
  refine Or.inl ?_
  conv => whnf
  refine ⟨{j : Nat // 1 ≤ j ∧ j ≤ n}, fun ⟨j, _⟩ => ⟨[(0, .o (.c (.sli 0 1 0 n c))), (6, .o (.c (.val (.int .u32 (prevF f (j - 1) : Nat))))), (7, .o (.c (.val (.int .i64 j))))], [rowT T m (mixP f j)]⟩, fun j => n - j.1, ⟨⟨1, by omega, by omega⟩, [0], ⟨rfl, ⟨?_, rfl, trivial⟩, rfl⟩, rfl, rfl, rfl, trivial⟩, fun ⟨j, hj1, hj⟩ => ?_⟩
  · show some (rowT T m f) = some (rowT T m (mixP f 1))
    unfold rowT
    rw [tabl_ext]
    intro x hx
    unfold mixP
    rw [if_neg (by omega)]
  · obtain ⟨x, rfl⟩ : ∃ x, j = x + 1 := ⟨j - 1, by omega⟩
    have e3 : IntKind.i64.wrap (((x + 1 : Nat) : Int) - ((1 : Nat) : Int)) = x := by rw [nsub (by omega), nwrapi (by omega), Nat.add_sub_cancel]
    have hp := prevF_lt f x
    have hfx := hf x
    conv => whnf
    refine ⟨fun h1 => ?_, fun h1 => ?_⟩
    · have h1 : x + 1 < n := lt_t h1
      have g1 : (tabl m (mixP f (x + 1)))[0 + (x + 1)]? = some ((f (x + 1) : Nat) : Int) := by
        rw [tabl_get (by omega)]
        unfold mixP
        rw [if_neg (by omega), Nat.zero_add]
      have g2 : (tabl m (mixP f (x + 1)))[0 + x]? = some ((f x : Nat) : Int) := by
        rw [tabl_get (by omega)]
        unfold mixP
        rw [if_neg (by omega), Nat.zero_add]
      conv => whnf
      refine ⟨by omega, ?_⟩
      conv => whnf
      refine ⟨_, g1, ?_⟩
      conv => whnf
      rw [e3]
      refine ⟨by omega, ?_⟩
      conv => whnf
      refine ⟨_, g2, ?_⟩
      conv => whnf
      rw [e3]
      refine ⟨by omega, ?_⟩
      conv => whnf
      refine ⟨_, ((prevF f x : Nat) : Int), g2, rfl, ?_⟩
      conv => whnf
      refine ⟨⟨x + 2, by omega, by omega⟩, ⟨[0], ⟨rfl, ⟨?_, rfl, trivial⟩, rfl⟩, rfl, eq_u32 ?_, eq_i64 ?_, trivial⟩, ?_⟩
      · show some (Blk.vec true T (encI .u32) [] 1 ((tabl m (mixP f (x + 1))).set (0 + x) ((prevF f x : Nat) : Int))) = some (rowT T m (mixP f (x + 2)))
        unfold rowT
        rw [tabl_set, tabl_ext]
        intro y hy
        unfold mixP
        by_cases hyx : y = 0 + x
        · subst hyx
          rw [if_pos rfl, if_pos (by omega), Nat.zero_add]
        · rw [if_neg hyx]
          by_cases hyl : y + 1 < x + 1
          · rw [if_pos hyl, if_pos (by omega)]
          · rw [if_neg hyl, if_neg (by omega)]
      · rw [nsubm hfx, show x + 1 - 1 = x from rfl, nsubm hp]
        rfl
      · rw [nadd, nwrapi (by omega)]
      · show n - (x + 2) < n - (x + 1)
        omega
    · have h1 : n ≤ x + 1 := lt_f h1
      obtain rfl : n = x + 1 := by omega
      have g2 : (tabl m (mixP f (x + 1)))[0 + x]? = some ((f x : Nat) : Int) := by
        rw [tabl_get (by omega)]
        unfold mixP
        rw [if_neg (by omega), Nat.zero_add]
      conv => whnf
      rw [e3]
      refine ⟨by omega, ?_⟩
      conv => whnf
      refine ⟨_, ((prevF f x : Nat) : Int), g2, rfl, ?_⟩
      conv => whnf
      refine Or.inl ⟨rfl, ?_⟩
      show [Blk.vec true T (encI .u32) [] 1 ((tabl m (mixP f (x + 1))).set (0 + x) ((prevF f x : Nat) : Int))] = [rowT T m (fun z => if z < x + 1 then prevF f z else f z)]
      unfold rowT
      rw [tabl_set, tabl_ext]
      intro y hy
      unfold mixP
      by_cases hyx : y = 0 + x
      · subst hyx
        rw [if_pos rfl, if_pos (by omega), Nat.zero_add]
      · rw [if_neg hyx]
        by_cases hyl : y + 1 < x + 1
        · rw [if_pos hyl, if_pos (by omega)]
        · rw [if_neg hyl, if_neg (by omega)]

/-! Small counts -/
theorem cbU32W (w0 : World) (k : Nat) : CallsA Tryd.prog w0 96 [.c (.val (.int .i64 k))] [] fun r H => r = .o (.c (.val (.int .u32 (IntKind.u32.wrap (k : Int))))) ∧ H = [] := by
  refine callsA_of_ev c96_ ?_
  conv => whnf
  exact Or.inl ⟨rfl, rfl⟩
theorem cU2W (w0 : World) : ∀ k : Nat, k < 22 → 1 ≤ k → CallsA Tryd.prog w0 97 [.c (.val (.int .i64 k))] [] fun r H => r = u32 (uu 1 k) ∧ H = [] := by
  intro k h h1
  refine callsA_of_ev c97_ ?_
  conv => whnf
  have e : IntKind.i64.wrap (IntKind.i64.wrap ((k : Int) * 2 ^ (min 1 IntKind.i64.bits)) - ((1 : Nat) : Int)) = ((2 * k - 1 : Nat) : Int) := by
    rw [show (2 : Int) ^ (min 1 IntKind.i64.bits) = ((2 : Nat) : Int) from rfl, nmul, nwrapi (by omega), nsub (by omega), nwrapi (by omega), Nat.mul_comm]
  rw [e]
  refine (cbU32W w0 (2 * k - 1)).mono ?_
  rintro _ _ ⟨rfl, rfl⟩
  conv => whnf
  refine Or.inl ⟨u32_of ?_, rfl⟩
  obtain ⟨q, rfl⟩ : ∃ q, k = q + 1 := ⟨k - 1, by omega⟩
  rw [uu_two, nwrap32 (by omega)]
  omega
theorem u3_fact : ∀ k : Nat, k < 22 → 1 ≤ k → IntKind.u32.wrap (IntKind.u32.wrap (IntKind.u32.wrap (IntKind.u32.wrap (((2 : Nat) : Int) * IntKind.u32.wrap (k : Int)) - ((2 : Nat) : Int)) * IntKind.u32.wrap (k : Int)) + ((1 : Nat) : Int)) = ((uu 2 k : Nat) : Int) := by decide +kernel
theorem cU3W (w0 : World) : ∀ k : Nat, k < 22 → 1 ≤ k → CallsA Tryd.prog w0 99 [.c (.val (.int .i64 k))] [] fun r H => r = u32 (uu 2 k) ∧ H = [] := by
  intro k h h1
  refine callsA_of_ev c99_ ?_
  conv => whnf
  refine (cbU32W w0 k).mono ?_
  rintro _ _ ⟨rfl, rfl⟩
  conv => whnf
  exact Or.inl ⟨u32_of (u3_fact k h h1), rfl⟩
theorem u4_fact : ∀ k : Nat, k < 22 → 1 ≤ k → IntKind.u32.wrap ((IntKind.u32.wrap (IntKind.u32.wrap (IntKind.u32.wrap (((2 : Nat) : Int) * IntKind.u32.wrap (k : Int)) * IntKind.u32.wrap (IntKind.u32.wrap (IntKind.u32.wrap (IntKind.u32.wrap (((2 : Nat) : Int) * IntKind.u32.wrap (k : Int)) - ((3 : Nat) : Int)) * IntKind.u32.wrap (k : Int)) + ((4 : Nat) : Int))) - ((3 : Nat) : Int))).tdiv ((3 : Nat) : Int)) = ((uu 3 k : Nat) : Int) := by decide +kernel
theorem cU4W (w0 : World) : ∀ k : Nat, k < 22 → 1 ≤ k → CallsA Tryd.prog w0 101 [.c (.val (.int .i64 k))] [] fun r H => r = u32 (uu 3 k) ∧ H = [] := by
  intro k h h1
  refine callsA_of_ev c101_ ?_
  conv => whnf
  refine (cbU32W w0 k).mono ?_
  rintro _ _ ⟨rfl, rfl⟩
  conv => whnf
  exact Or.inl ⟨u32_of (u4_fact k h h1), rfl⟩
theorem c2_fact : ∀ k : Nat, k < 21 → 1 ≤ k → IntKind.u32.wrap (((4 : Nat) : Int) * IntKind.u32.wrap (k : Int)) = ((vv 2 k : Nat) : Int) := by decide +kernel
theorem count2W (w0 : World) : ∀ k : Nat, k < 21 → 1 ≤ k → CallsA Tryd.prog w0 76 [.c (.val (.int .i64 k))] [] fun r H => r = u32 (vv 2 k) ∧ H = [] := by
  intro k h h1
  refine callsA_of_ev c76_ ?_
  conv => whnf
  refine (cbU32W w0 k).mono ?_
  rintro _ _ ⟨rfl, rfl⟩
  conv => whnf
  exact Or.inl ⟨u32_of (c2_fact k h h1), rfl⟩
theorem c3_fact : ∀ k : Nat, k < 21 → 1 ≤ k → IntKind.u32.wrap (((2 : Nat) : Int) * IntKind.u32.wrap (IntKind.u32.wrap (IntKind.u32.wrap (((2 : Nat) : Int) * IntKind.u32.wrap (k : Int)) * IntKind.u32.wrap (k : Int)) + ((1 : Nat) : Int))) = ((vv 3 k : Nat) : Int) := by decide +kernel
theorem count3W (w0 : World) : ∀ k : Nat, k < 21 → 1 ≤ k → CallsA Tryd.prog w0 78 [.c (.val (.int .i64 k))] [] fun r H => r = u32 (vv 3 k) ∧ H = [] := by
  intro k h h1
  refine callsA_of_ev c78_ ?_
  conv => whnf
  refine (cbU32W w0 k).mono ?_
  rintro _ _ ⟨rfl, rfl⟩
  conv => whnf
  exact Or.inl ⟨u32_of (c3_fact k h h1), rfl⟩
theorem c4_fact : ∀ k : Nat, k < 21 → 1 ≤ k → IntKind.u32.wrap (IntKind.u32.wrap ((IntKind.u32.wrap (IntKind.u32.wrap (IntKind.u32.wrap (IntKind.u32.wrap (k : Int) * IntKind.u32.wrap (k : Int)) + ((2 : Nat) : Int)) * IntKind.u32.wrap (k : Int))).tdiv ((3 : Nat) : Int)) * 2 ^ (min 3 IntKind.u32.bits)) = ((vv 4 k : Nat) : Int) := by decide +kernel
theorem count4W (w0 : World) : ∀ k : Nat, k < 21 → 1 ≤ k → CallsA Tryd.prog w0 80 [.c (.val (.int .i64 k))] [] fun r H => r = u32 (vv 4 k) ∧ H = [] := by
  intro k h h1
  refine callsA_of_ev c80_ ?_
  conv => whnf
  refine (cbU32W w0 k).mono ?_
  rintro _ _ ⟨rfl, rfl⟩
  conv => whnf
  exact Or.inl ⟨u32_of (c4_fact k h h1), rfl⟩
end Go.Proofs.YtkomikpfnogjcaaDoor
