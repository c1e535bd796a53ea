/- Counts of vectors. -/
import Derived.Test.YtkomikpfnogjcaaDoorRmB
import Derived.Test.YtkomikpfnogjcaaDoorIrP
section
namespace Go.Proofs.YtkomikpfnogjcaaDoor

def vvRow (f : Nat → Nat) : Nat → Nat
  | 0 => 1
  | k + 1 => f (k + 1) + vvRow f k + f k
/-- Vectors of n places that have together k pulses. -/
def vv : Nat → Nat → Nat
  | 0 => fun | 0 => 1 | _ + 1 => 0
  | n + 1 => vvRow (vv n)
def uuRow (f : Nat → Nat) : Nat → Nat
  | 0 => 0
  | k + 1 => f (k + 1) + f k + uuRow f k
/-- The package's own row: of n + 1 places. -/
def uu : Nat → Nat → Nat
  | 0 => fun | 0 => 0 | _ + 1 => 1
  | n + 1 => uuRow (uu n)
theorem uu_zero (n : Nat) : uu n 0 = 0 := by cases n <;> rfl
theorem uu_one (n : Nat) : uu n 1 = 1 := by
  induction n with
  | zero => rfl
  | succ n ih =>
    show uu n 1 + uu n 0 + uu (n + 1) 0 = 1
    rw [ih, uu_zero, uu_zero]
theorem vv_uu (n k : Nat) : vv (n + 1) k = uu n k + uu n (k + 1) := by
  induction n generalizing k with
  | zero =>
    induction k with
    | zero => rfl
    | succ k ih =>
      show vv 0 (k + 1) + vv 1 k + vv 0 k = 1 + 1
      rw [ih]
      cases k with
      | zero => rfl
      | succ k => rfl
  | succ n ih =>
    induction k with
    | zero =>
      show 1 = uu (n + 1) 0 + uu (n + 1) 1
      rw [uu_zero, uu_one]
    | succ k ihk =>
      show vv (n + 1) (k + 1) + vv (n + 2) k + vv (n + 1) k = (uu n (k + 1) + uu n k + uu (n + 1) k) + (uu n (k + 1 + 1) + uu n (k + 1) + uu (n + 1) (k + 1))
      rw [ihk, ih, ih]
      omega
theorem uu_two (k : Nat) : uu 1 (k + 1) = 2 * k + 1 := by
  induction k with
  | zero => rfl
  | succ k ih =>
    show uu 0 (k + 2) + uu 0 (k + 1) + uu 1 (k + 1) = _
    rw [ih]
    show 1 + 1 + (2 * k + 1) = _
    omega
theorem vv_zero (n : Nat) : vv n 0 = 1 := by cases n <;> rfl
/-- A count, but no more than a bound. -/
def vcap (n k : Nat) : Nat := min (vv n k) 1099511627776
theorem vcap_step (n k : Nat) : vcap (n + 1) (k + 1) = min (vcap n (k + 1) + vcap (n + 1) k + vcap n k) 1099511627776 := by
  show min (vv n (k + 1) + vv (n + 1) k + vv n k) 1099511627776 = _
  unfold vcap
  omega
theorem vcap_le (n k : Nat) : vcap n k ≤ 1099511627776 := Nat.min_le_right _ _
theorem vcap_zero (n : Nat) : vcap n 0 = 1 := by
  unfold vcap
  rw [vv_zero]
  rfl
/-- A row of numbers. -/
def tabl (m : Nat) (f : Nat → Nat) : List Int := (List.range m).map fun i => (f i : Int)
theorem tabl_len (m : Nat) (f : Nat → Nat) : (tabl m f).length = m := by
  unfold tabl
  rw [List.length_map, List.length_range]
theorem tabl_get {m : Nat} {f : Nat → Nat} {i : Nat} (h : i < m) : (tabl m f)[i]? = some (f i : Int) := by
  unfold tabl
  rw [List.getElem?_map, List.getElem?_range h]
  rfl
theorem tabl_ext {m : Nat} {f g : Nat → Nat} (h : ∀ i, i < m → f i = g i) : tabl m f = tabl m g := by
  unfold tabl
  refine List.map_congr_left fun i hi => ?_
  rw [h i (List.mem_range.1 hi)]
theorem tabl_set {m : Nat} {f : Nat → Nat} {i v : Nat} : (tabl m f).set i (v : Int) = tabl m (fun j => if j = i then v else f j) := by
  apply List.ext_getElem?
  intro j
  rw [List.getElem?_set]
  rcases Nat.lt_or_ge j m with h | h
  · rw [tabl_get h, tabl_get h, tabl_len]
    by_cases hij : i = j
    · subst hij
      rw [if_pos rfl, if_pos h, if_pos rfl]
    · rw [if_neg hij, if_neg (fun e => hij e.symm)]
  · have e1 : ∀ g, (tabl m g)[j]? = none := fun g => List.getElem?_eq_none (by rw [tabl_len]; exact h)
    rw [e1, e1, tabl_len]
    split
    · rw [if_neg (by omega)]
    · rfl
end Go.Proofs.YtkomikpfnogjcaaDoor
end
section
namespace Go.Proofs.YtkomikpfnogjcaaDoor
open Go Go.Vc
set_option maxRecDepth 100000
set_option maxHeartbeats 4000000
set_option linter.unusedSimpArgs false

theorem tabl_zero (m : Nat) : List.replicate m (0 : Int) = tabl m fun _ => 0 := by
  apply List.ext_getElem?
  intro j
  rcases Nat.lt_or_ge j m with h | h
  · rw [tabl_get h, List.getElem?_replicate, if_pos h]
    rfl
  · rw [List.getElem?_eq_none (by rw [List.length_replicate]; exact h), List.getElem?_eq_none (by rw [tabl_len]; exact h)]
/-- A row on its way from one number of places to the next. -/
def mixV (n i : Nat) (x : Nat) : Nat := if x < i then vcap (n + 1) x else vcap n x
def rowB (m : Nat) (f : Nat → Nat) : Blk := .vec true 40 (encI .u64) [] 1 (tabl m f)
theorem vectorsW (w0 : World) {n k : Nat} (hn : n ≤ 240) (hk : k ≤ 240) : CallsA Tryd.prog w0 17 [.c (.val (.int .i64 n)), .c (.val (.int .i64 k))] [] fun r H => r = .t [.c (.val (.int .u64 (vcap n k : Nat))), .c (.val (.bool (decide (((vcap n k : Nat) : Int) < ((4294967296 : Nat) : Int)))))] ∧ H = [] := by
  refine callsA_of_ev c17_ ?_
  conv => whnf
  simp (disch := omega) only [nadd, nwrapi]
  refine ⟨⟨by omega, by omega, by omega, by omega, by omega⟩, ?_⟩
  conv => whnf
  refine ⟨Int, encI .u64, [], 0, fun _ => rfl, rfl, ?_⟩
  conv => whnf
  refine ⟨⟨by omega, by rw [Int.toNat_natCast]; omega⟩, ?_⟩
  conv => whnf
  refine ⟨0, ((1 : Nat) : Int), rfl, rfl, ?_⟩
  conv => whnf
  refine Or.inl ?_
  conv => whnf
  refine ⟨_root_.Fin (n + 1), fun ⟨j, _⟩ => ⟨[(1, .o (.c (.val (.int .i64 k)))), (6, .o (.c (.vec 0 (k + 1)))), (15, .o (.c (.val (.int .i64 n)))), (16, .o (.c (.val (.int .i64 j))))], [rowB (k + 1) (vcap j)]⟩, fun j => n - j.1, ⟨⟨0, by omega⟩, [0], ⟨rfl, ⟨?_, rfl, trivial⟩, rfl⟩, rfl, rfl, rfl, rfl, trivial⟩, fun ⟨j, hj⟩ => ?_⟩
  · show some (Blk.vec true 40 (encI .u64) [] 1 ((List.replicate (k + 1) 0).set 0 ((1 : Nat) : Int))) = some (rowB (k + 1) (vcap 0))
    rw [tabl_zero, tabl_set]
    unfold rowB
    rw [tabl_ext]
    intro i hi
    cases i with
    | zero => rfl
    | succ i => rfl
  · conv => whnf
    refine ⟨fun h1 => ?_, fun h1 => ?_⟩
    · have h1 : j < n := lt_t h1
      conv => whnf
      refine Or.inl ?_
      conv => whnf
      refine ⟨_root_.Fin (k + 2), fun ⟨i, _⟩ => ⟨[(1, .o (.c (.val (.int .i64 k)))), (6, .o (.c (.vec 0 (k + 1)))), (15, .o (.c (.val (.int .i64 n)))), (16, .o (.c (.val (.int .i64 j)))), (7, .o (.c (.val (.int .u64 ((if i = 0 then 0 else vcap j (i - 1) : Nat) : Int))))), (19, .o (.c (.val (.int .i64 ((k + 1 : Nat) : Int))))), (20, .o (.c (.val (.int .i64 i))))], [rowB (k + 1) (mixV j i)]⟩, fun i => k + 1 - i.1, ⟨⟨0, by omega⟩, [0], ⟨rfl, ⟨rfl, rfl, trivial⟩, rfl⟩, rfl, rfl, rfl, rfl, rfl, rfl, rfl, trivial⟩, fun ⟨i, hi⟩ => ?_⟩
      conv => whnf
      refine ⟨fun h2 => ?_, fun h2 => ?_⟩
      · have h2 : i < k + 1 := lt_t h2
        conv => whnf
        refine Or.inl ?_
        conv => whnf
        refine ⟨by omega, ?_⟩
        conv => whnf
        have e1 : mixV j i i = vcap j i := by unfold mixV; rw [if_neg (by omega)]
        have g1 : (tabl (k + 1) (mixV j i))[i]? = some ((vcap j i : Nat) : Int) := by rw [tabl_get h2, e1]
        have c1 := vcap_le j i
        refine ⟨_, g1, ?_⟩
        conv => whnf
        refine Or.inl ?_
        conv => whnf
        refine ⟨fun h3 => ?_, fun h3 => ?_⟩
        · have h3 : 0 < i := gt_t h3
          obtain ⟨x, rfl⟩ : ∃ x, i = x + 1 := ⟨i - 1, by omega⟩
          have e2 : mixV j (x + 1) x = vcap (j + 1) x := by unfold mixV; rw [if_pos (by omega)]
          have g2 : (tabl (k + 1) (mixV j (x + 1)))[x]? = some ((vcap (j + 1) x : Nat) : Int) := by rw [tabl_get (by omega), e2]
          have c2 := vcap_le (j + 1) x
          have c3 := vcap_le j x
          have st := vcap_step j x
          conv => whnf
          have e3 : IntKind.i64.wrap (((x + 1 : Nat) : Int) - ((1 : Nat) : Int)) = x := by rw [nsub (by omega), nwrapi (by omega), Nat.add_sub_cancel]
          rw [e3]
          refine ⟨by omega, ?_⟩
          conv => whnf
          refine ⟨_, g2, ?_⟩
          conv => whnf
          rw [if_neg (by omega), Nat.add_sub_cancel]
          simp (disch := omega) only [nadd, nwrap64]
          refine ⟨by omega, ?_⟩
          conv => whnf
          refine ⟨_, ((vcap j (x + 1) + vcap (j + 1) x + vcap j x : Nat) : Int), g1, rfl, ?_⟩
          conv => whnf
          have g3 : ((tabl (k + 1) (mixV j (x + 1))).set (x + 1) ((vcap j (x + 1) + vcap (j + 1) x + vcap j x : Nat) : Int))[x + 1]? = some ((vcap j (x + 1) + vcap (j + 1) x + vcap j x : Nat) : Int) := by rw [List.getElem?_set_self (by rw [tabl_len]; omega)]
          have fin : ∀ V : Nat, V = vcap (j + 1) (x + 1) → tabl (k + 1) (fun y => if y = x + 1 then V else mixV j (x + 1) y) = tabl (k + 1) (mixV j (x + 2)) := by
            intro V hV
            refine tabl_ext fun y hy => ?_
            unfold mixV
            by_cases hyx : y = x + 1
            · subst hyx
              rw [if_pos rfl, if_pos (by omega), hV]
            · rw [if_neg hyx]
              by_cases hyl : y < x + 1
              · rw [if_pos hyl, if_pos (by omega)]
              · rw [if_neg hyl, if_neg (by omega)]
          refine Or.inl ?_
          conv => whnf
          refine ⟨by omega, ?_⟩
          conv => whnf
          refine ⟨_, g3, ?_⟩
          conv => whnf
          refine ⟨fun h4 => ?_, fun h4 => ?_⟩
          · have h4 := ge_t h4
            conv => whnf
            refine ⟨by omega, ?_⟩
            conv => whnf
            refine ⟨_, ((1099511627776 : Nat) : Int), g3, rfl, ?_⟩
            conv => whnf
            refine ⟨⟨x + 2, by omega⟩, ⟨[0], ⟨rfl, ⟨?_, rfl, trivial⟩, rfl⟩, rfl, rfl, rfl, rfl, eq_u64 ?_, rfl, eq_i64 ?_, trivial⟩, ?_⟩
            · show some (Blk.vec true 40 (encI .u64) [] 1 (((tabl (k + 1) (mixV j (x + 1))).set (x + 1) ((vcap j (x + 1) + vcap (j + 1) x + vcap j x : Nat) : Int)).set (x + 1) ((1099511627776 : Nat) : Int))) = some (rowB (k + 1) (mixV j (x + 2)))
              rw [List.set_set, tabl_set, fin 1099511627776 (by omega)]
              rfl
            · show ((vcap j (x + 1) : Nat) : Int) = ((if x + 2 = 0 then 0 else vcap j (x + 2 - 1) : Nat) : Int)
              rw [if_neg (by omega)]
              rfl
            · rw [nadd, nwrapi (by omega)]
            · show k + 1 - (x + 2) < k + 1 - (x + 1)
              omega
          · have h4 := ge_f h4
            conv => whnf
            refine ⟨⟨x + 2, by omega⟩, ⟨[0], ⟨rfl, ⟨?_, rfl, trivial⟩, rfl⟩, rfl, rfl, rfl, rfl, eq_u64 ?_, rfl, eq_i64 ?_, trivial⟩, ?_⟩
            · show some (Blk.vec true 40 (encI .u64) [] 1 ((tabl (k + 1) (mixV j (x + 1))).set (x + 1) ((vcap j (x + 1) + vcap (j + 1) x + vcap j x : Nat) : Int))) = some (rowB (k + 1) (mixV j (x + 2)))
              rw [tabl_set, fin _ (by omega)]
              rfl
            · show ((vcap j (x + 1) : Nat) : Int) = ((if x + 2 = 0 then 0 else vcap j (x + 2 - 1) : Nat) : Int)
              rw [if_neg (by omega)]
              rfl
            · rw [nadd, nwrapi (by omega)]
            · show k + 1 - (x + 2) < k + 1 - (x + 1)
              omega
        · have h3 : i = 0 := by have := gt_f h3; omega
          subst h3
          conv => whnf
          have e5 := vcap_zero j
          refine Or.inl ?_
          conv => whnf
          refine ⟨by omega, ?_⟩
          conv => whnf
          refine ⟨_, g1, ?_⟩
          conv => whnf
          refine ⟨fun h4 => absurd (ge_t h4) (by omega), fun _ => ?_⟩
          conv => whnf
          refine ⟨⟨1, by omega⟩, ⟨[0], ⟨rfl, ⟨?_, rfl, trivial⟩, rfl⟩, rfl, rfl, rfl, rfl, rfl, rfl, eq_i64 ?_, trivial⟩, ?_⟩
          · show some (rowB (k + 1) (mixV j 0)) = some (rowB (k + 1) (mixV j 1))
            unfold rowB
            rw [tabl_ext]
            intro y hy
            unfold mixV
            rw [if_neg (by omega)]
            by_cases hy0 : y < 1
            · rw [if_pos hy0]
              obtain rfl : y = 0 := by omega
              rw [e5, vcap_zero]
            · rw [if_neg hy0]
          · rw [nadd, nwrapi (by omega)]
          · show k + 1 - 1 < k + 1 - 0
            omega
      · have h2 : k + 1 ≤ i := lt_f h2
        obtain rfl : i = k + 1 := by omega
        conv => whnf
        refine ⟨⟨j + 1, by omega⟩, ⟨[0], ⟨rfl, ⟨?_, rfl, trivial⟩, rfl⟩, rfl, rfl, rfl, eq_i64 ?_, trivial⟩, ?_⟩
        · show some (rowB (k + 1) (mixV j (k + 1))) = some (rowB (k + 1) (vcap (j + 1)))
          unfold rowB
          rw [tabl_ext]
          intro x hx
          unfold mixV
          rw [if_pos hx]
        · rw [nadd, nwrapi (by omega)]
        · show n - (j + 1) < n - j
          omega
    · have h1 : n ≤ j := lt_f h1
      obtain rfl : j = n := by omega
      have g1 : (tabl (k + 1) (vcap j))[k]? = some ((vcap j k : Nat) : Int) := tabl_get (by omega)
      conv => whnf
      refine ⟨by omega, ?_⟩
      conv => whnf
      refine ⟨_, g1, ?_⟩
      conv => whnf
      refine ⟨by omega, ?_⟩
      conv => whnf
      refine ⟨_, g1, ?_⟩
      conv => whnf
      exact Or.inr ⟨[], .t [.c (.val (.int .u64 (vcap j k : Nat))), .c (.val (.bool (decide (((vcap j k : Nat) : Int) < ((4294967296 : Nat) : Int)))))], [], ⟨rfl, trivial, rfl⟩, rfl, rfl, rfl⟩
theorem sCountW (w0 : World) {n k : Nat} (hn : 1 ≤ n) (hn2 : n ≤ 240) (hk : k ≤ 240) : CallsA Tryd.prog w0 6 [.c (.val (.int .i64 n)), .c (.val (.int .i64 k))] [] fun r H => H = [] ∧
    ((4294967296 ≤ vcap n k ∧ r = .t [.c (.val (.int .u32 ((0 : Nat) : Int))), .c (.val (.int .i64 ((2 : Nat) : Int)))]) ∨ (vcap n k < 4294967296 ∧ r = .t [.c (.val (.int .u32 (vcap n k : Nat))), .c (.val (.int .i64 ((1 : Nat) : Int)))])) := by
  refine callsA_of_ev c6_ ?_
  conv => whnf
  refine Or.inl ?_
  conv => whnf
  refine ⟨fun h => absurd (lt_t h) (by omega), fun _ => ?_⟩
  conv => whnf
  refine ⟨fun h => absurd (gt_t h) (by omega), fun _ => ?_⟩
  conv => whnf
  refine ⟨fun h => absurd (lt_t h) (by omega), fun _ => ?_⟩
  conv => whnf
  refine ⟨fun h => absurd (gt_t h) (by omega), fun _ => ?_⟩
  conv => whnf
  refine (vectorsW w0 hn2 hk).mono ?_
  rintro _ _ ⟨rfl, rfl⟩
  conv => whnf
  refine Or.inl ?_
  conv => whnf
  refine ⟨fun h => ?_, fun h => ?_⟩
  · have h : 4294967296 ≤ vcap n k := by
      rcases Nat.lt_or_ge (vcap n k) 4294967296 with h1 | h1
      · rw [decide_eq_true (by omega)] at h
        cases h
      · exact h1
    conv => whnf
    exact Or.inl ⟨rfl, Or.inl ⟨h, rfl⟩⟩
  · have h : vcap n k < 4294967296 := by
      rcases Nat.lt_or_ge (vcap n k) 4294967296 with h1 | h1
      · exact h1
      · rw [decide_eq_false (by omega)] at h
        cases h
    conv => whnf
    refine Or.inl ⟨rfl, Or.inr ⟨h, ?_⟩⟩
    rw [nwrap32 h]
    rfl
end Go.Proofs.YtkomikpfnogjcaaDoor
end
section
namespace Go.Proofs.YtkomikpfnogjcaaDoor
open Go Go.Vc
set_option maxRecDepth 100000
set_option maxHeartbeats 4000000
set_option linter.unusedSimpArgs false

def um (n k : Nat) : Nat := uu n k % 4294967296
theorem um_lt (n k : Nat) : um n k < 4294967296 := Nat.mod_lt _ (by omega)
theorem um_step (n k : Nat) : um (n + 1) (k + 1) = ((um n (k + 1) + um n k) % 4294967296 + um (n + 1) k) % 4294967296 := by
  show (uu n (k + 1) + uu n k + uu (n + 1) k) % 4294967296 = _
  unfold um
  omega
theorem um_zero (n : Nat) : um n 0 = 0 := by unfold um; rw [uu_zero]
theorem um_one (n : Nat) : um n 1 = 1 := by unfold um; rw [uu_one]
def mixU (n i : Nat) (x : Nat) : Nat := if x < i then um (n + 1) x else um n x
def rowT (T : TypeId) (m : Nat) (f : Nat → Nat) : Blk := .vec true T (encI .u32) [] 1 (tabl m f)
abbrev rowU := rowT 23
theorem nwrapm (n : Nat) : IntKind.u32.wrap (n : Int) = ((n % 4294967296 : Nat) : Int) := by rw [IntKind.wrap_u32]; omega
theorem nextRowW (w0 : World) {T : TypeId} {n m c : Nat} (hm : 1 ≤ m) (hm2 : m ≤ 1000) : CallsA Tryd.prog w0 95 [.c (.sli 0 1 1 m c), .c (.val (.int .u32 ((1 : Nat) : Int)))] [rowT T (m + 1) (um n)] fun r H => r = .t [] ∧ H = [rowT T (m + 1) (um (n + 1))] := by
  refine callsA_of_ev c95_ ?_
  conv => whnf
  refine Or.inl ?_
  conv => whnf
  refine ⟨{j : Nat // 1 ≤ j ∧ j ≤ m}, fun ⟨j, _⟩ => ⟨[(0, .o (.c (.sli 0 1 1 m c))), (4, .o (.c (.val (.int .u32 (um (n + 1) j : Nat))))), (5, .o (.c (.val (.int .i64 j))))], [rowT T (m + 1) (mixU n j)]⟩, fun j => m - j.1, ⟨⟨1, by omega, hm⟩, [0], ⟨rfl, ⟨?_, rfl, trivial⟩, rfl⟩, rfl, eq_u32 ?_, rfl, trivial⟩, fun ⟨j, hj1, hj⟩ => ?_⟩
  · show some (rowT T (m + 1) (um n)) = some (rowT T (m + 1) (mixU n 1))
    unfold rowT
    rw [tabl_ext]
    intro x hx
    unfold mixU
    by_cases h : x < 1
    · obtain rfl : x = 0 := by omega
      rw [if_pos h, um_zero, um_zero]
    · rw [if_neg h]
  · rw [um_one]
  · have u1 := um_lt (n + 1) j
    obtain ⟨x, rfl⟩ : ∃ x, j = x + 1 := ⟨j - 1, by omega⟩
    have e3 : IntKind.i64.wrap (((x + 1 : Nat) : Int) - ((1 : Nat) : Int)) = x := by rw [nsub (by omega), nwrapi (by omega), Nat.add_sub_cancel]
    conv => whnf
    refine ⟨fun h1 => ?_, fun h1 => ?_⟩
    · have h1 : x + 1 < m := lt_t h1
      have e1 : mixU n (x + 1) (1 + (x + 1)) = um n (x + 2) := by unfold mixU; rw [if_neg (by omega), show 1 + (x + 1) = x + 2 by omega]
      have e2 : mixU n (x + 1) (1 + x) = um n (x + 1) := by unfold mixU; rw [if_neg (by omega), Nat.add_comm]
      have g1 : (tabl (m + 1) (mixU n (x + 1)))[1 + (x + 1)]? = some ((um n (x + 2) : Nat) : Int) := by rw [tabl_get (by omega), e1]
      have g2 : (tabl (m + 1) (mixU n (x + 1)))[1 + x]? = some ((um n (x + 1) : Nat) : Int) := by rw [tabl_get (by omega), e2]
      conv => whnf
      refine ⟨by omega, ?_⟩
      conv => whnf
      refine ⟨_, g1, ?_⟩
      conv => whnf
      rw [e3]
      refine ⟨by omega, ?_⟩
      conv => whnf
      refine ⟨_, g2, ?_⟩
      conv => whnf
      rw [e3]
      refine ⟨by omega, ?_⟩
      conv => whnf
      refine ⟨_, ((um (n + 1) (x + 1) : Nat) : Int), g2, rfl, ?_⟩
      conv => whnf
      refine ⟨⟨x + 2, by omega, by omega⟩, ⟨[0], ⟨rfl, ⟨?_, rfl, trivial⟩, rfl⟩, rfl, eq_u32 ?_, eq_i64 ?_, trivial⟩, ?_⟩
      · show some (Blk.vec true T (encI .u32) [] 1 ((tabl (m + 1) (mixU n (x + 1))).set (1 + x) ((um (n + 1) (x + 1) : Nat) : Int))) = some (rowT T (m + 1) (mixU n (x + 2)))
        unfold rowT
        rw [tabl_set, tabl_ext]
        intro y hy
        unfold mixU
        by_cases hyx : y = 1 + x
        · subst hyx
          rw [if_pos rfl, if_pos (by omega), Nat.add_comm x 1]
        · rw [if_neg hyx]
          by_cases hyl : y < x + 1
          · rw [if_pos hyl, if_pos (by omega)]
          · rw [if_neg hyl, if_neg (by omega)]
      · rw [nadd, nwrapm, nadd, nwrapm, um_step n (x + 1)]
      · rw [nadd, nwrapi (by omega)]
      · show m - (x + 2) < m - (x + 1)
        omega
    · have h1 : m ≤ x + 1 := lt_f h1
      obtain rfl : m = x + 1 := by omega
      have e2 : mixU n (x + 1) (1 + x) = um n (x + 1) := by unfold mixU; rw [if_neg (by omega), Nat.add_comm]
      have g2 : (tabl (x + 1 + 1) (mixU n (x + 1)))[1 + x]? = some ((um n (x + 1) : Nat) : Int) := by rw [tabl_get (by omega), e2]
      conv => whnf
      rw [e3]
      refine ⟨by omega, ?_⟩
      conv => whnf
      refine ⟨_, ((um (n + 1) (x + 1) : Nat) : Int), g2, rfl, ?_⟩
      conv => whnf
      refine Or.inl ⟨rfl, ?_⟩
      show [Blk.vec true T (encI .u32) [] 1 ((tabl (x + 1 + 1) (mixU n (x + 1))).set (1 + x) ((um (n + 1) (x + 1) : Nat) : Int))] = [rowT T (x + 1 + 1) (um (n + 1))]
      unfold rowT
      rw [tabl_set, tabl_ext]
      intro y hy
      unfold mixU
      by_cases hyx : y = 1 + x
      · subst hyx
        rw [if_pos rfl, Nat.add_comm x 1]
      · rw [if_neg hyx, if_pos (by omega)]
theorem um_two (p : Nat) (h : 1 ≤ p) (h2 : p ≤ 1000) : um 1 p = 2 * p - 1 := by
  obtain ⟨k, rfl⟩ : ∃ k, p = k + 1 := ⟨p - 1, by omega⟩
  unfold um
  rw [uu_two]
  omega
/-- The first row, filled up to a place. -/
def fill0 (i : Nat) (x : Nat) : Nat := if x = 0 then 0 else if x = 1 then 1 else if x < i then 1 else 0
def fill1 (i : Nat) (x : Nat) : Nat := if x = 0 then 0 else if x = 1 then 1 else if x < i then 2 * x - 1 else 0
theorem urowIntoW (w0 : World) {T : TypeId} {n m : Nat} (hn : 1 ≤ n) (hn2 : n ≤ 300) (hm : 3 ≤ m) (hm2 : m ≤ 1000) : CallsA Tryd.prog w0 74 [.c (.vec 0 m), .c (.val (.int .i64 n))] [rowT T m fun _ => 0] fun r H => r = .t [] ∧ H = [rowT T m (um (n - 1))] := by
  have z0 : (tabl m fun _ => 0)[0]? = some (((0 : Nat)) : Int) := tabl_get (by omega)
  refine callsA_of_ev c74_ ?_
  conv => whnf
  refine Or.inl ?_
  conv => whnf
  refine ⟨fun h => absurd (beq_t h) (by omega), fun _ => ?_⟩
  conv => whnf
  refine ⟨by omega, ?_⟩
  conv => whnf
  refine ⟨_, ((0 : Nat) : Int), z0, rfl, ?_⟩
  conv => whnf
  refine Or.inl ?_
  conv => whnf
  refine ⟨fun _ => ?_, fun h => absurd (gt_f h) (by omega)⟩
  conv => whnf
  refine ⟨by omega, ?_⟩
  have z1 : ((tabl m fun _ => 0).set 0 ((0 : Nat) : Int))[1]? = some (((0 : Nat)) : Int) := by rw [tabl_set, tabl_get (by omega)]; rfl
  conv => whnf
  refine ⟨_, ((1 : Nat) : Int), z1, rfl, ?_⟩
  have st0 : ((tabl m fun _ => 0).set 0 ((0 : Nat) : Int)).set 1 ((1 : Nat) : Int) = tabl m (fill0 2) := by
    rw [tabl_set, tabl_set, tabl_ext]
    intro x hx
    unfold fill0
    by_cases h1 : x = 1
    · subst h1
      rfl
    · rw [if_neg h1]
      by_cases h0 : x = 0
      · rw [if_pos h0, if_pos h0]
      · rw [if_neg h0, if_neg h0, if_neg h1, if_neg (by omega)]
  have st1 : ((tabl m fun _ => 0).set 0 ((0 : Nat) : Int)).set 1 ((1 : Nat) : Int) = tabl m (fill1 2) := by
    rw [st0, tabl_ext]
    intro x hx
    unfold fill0 fill1
    by_cases h0 : x = 0
    · rw [if_pos h0, if_pos h0]
    · rw [if_neg h0, if_neg h0]
      by_cases h1 : x = 1
      · rw [if_pos h1, if_pos h1]
      · rw [if_neg h1, if_neg h1, if_neg (by omega), if_neg (by omega)]
  conv => whnf
  refine Or.inl ?_
  conv => whnf
  refine ⟨fun h => ?_, fun h => ?_⟩
  · obtain rfl : n = 1 := beq_t h
    conv => whnf
    refine Or.inl ?_
    conv => whnf
    refine ⟨{i : Nat // 2 ≤ i ∧ i ≤ m}, fun ⟨i, _⟩ => ⟨[(0, .o (.c (.vec 0 m))), (4, .o (.c (.val (.int .i64 i))))], [rowT T m (fill0 i)]⟩, fun i => m - i.1, ⟨⟨2, by omega, by omega⟩, [0], ⟨rfl, ⟨?_, rfl, trivial⟩, rfl⟩, rfl, rfl, trivial⟩, fun ⟨i, hi1, hi⟩ => ?_⟩
    · show some (Blk.vec true T (encI .u32) [] 1 (((tabl m fun _ => 0).set 0 ((0 : Nat) : Int)).set 1 ((1 : Nat) : Int))) = some (rowT T m (fill0 2))
      rw [st0]
      rfl
    conv => whnf
    refine ⟨fun h1 => ?_, fun h1 => ?_⟩
    · have h1 : i < m := lt_t h1
      have g : (tabl m (fill0 i))[i]? = some (((0 : Nat)) : Int) := by
        rw [tabl_get h1]
        unfold fill0
        rw [if_neg (by omega), if_neg (by omega), if_neg (by omega)]
      conv => whnf
      refine ⟨by omega, ?_⟩
      conv => whnf
      refine ⟨_, ((1 : Nat) : Int), g, rfl, ?_⟩
      conv => whnf
      refine ⟨⟨i + 1, by omega, by omega⟩, ⟨[0], ⟨rfl, ⟨?_, rfl, trivial⟩, rfl⟩, rfl, eq_i64 ?_, trivial⟩, ?_⟩
      · show some (Blk.vec true T (encI .u32) [] 1 ((tabl m (fill0 i)).set i ((1 : Nat) : Int))) = some (rowT T m (fill0 (i + 1)))
        unfold rowT
        rw [tabl_set, tabl_ext]
        intro x hx
        unfold fill0
        by_cases hxi : x = i
        · subst hxi
          rw [if_pos rfl, if_neg (by omega), if_neg (by omega), if_pos (by omega)]
        · rw [if_neg hxi]
          by_cases h0 : x = 0
          · rw [if_pos h0, if_pos h0]
          · rw [if_neg h0, if_neg h0]
            by_cases h2 : x = 1
            · rw [if_pos h2, if_pos h2]
            · rw [if_neg h2, if_neg h2]
              by_cases h3 : x < i
              · rw [if_pos h3, if_pos (by omega)]
              · rw [if_neg h3, if_neg (by omega)]
      · rw [nadd, nwrapi (by omega)]
      · show m - (i + 1) < m - i
        omega
    · have h1 : m ≤ i := lt_f h1
      obtain rfl : i = m := by omega
      conv => whnf
      refine Or.inl ⟨rfl, ?_⟩
      show [rowT T i (fill0 i)] = [rowT T i (um 0)]
      unfold rowT
      rw [tabl_ext]
      intro x hx
      unfold fill0
      by_cases h0 : x = 0
      · rw [if_pos h0, h0, um_zero]
      · obtain ⟨y, rfl⟩ : ∃ y, x = y + 1 := ⟨x - 1, by omega⟩
        rw [if_neg h0]
        have : um 0 (y + 1) = 1 := rfl
        rw [this]
        by_cases h2 : y + 1 = 1
        · rw [if_pos h2]
        · rw [if_neg h2, if_pos hx]
  · have h := beq_f h
    conv => whnf
    refine Or.inl ?_
    conv => whnf
    refine ⟨{i : Nat // 2 ≤ i ∧ i ≤ m}, fun ⟨i, _⟩ => ⟨[(0, .o (.c (.vec 0 m))), (1, .o (.c (.val (.int .i64 n)))), (5, .o (.c (.val (.int .i64 i))))], [rowT T m (fill1 i)]⟩, fun i => m - i.1, ⟨⟨2, by omega, by omega⟩, [0], ⟨rfl, ⟨?_, rfl, trivial⟩, rfl⟩, rfl, rfl, rfl, trivial⟩, fun ⟨i, hi1, hi⟩ => ?_⟩
    · show some (Blk.vec true T (encI .u32) [] 1 (((tabl m fun _ => 0).set 0 ((0 : Nat) : Int)).set 1 ((1 : Nat) : Int))) = some (rowT T m (fill1 2))
      rw [st1]
      rfl
    conv => whnf
    refine ⟨fun h1 => ?_, fun h1 => ?_⟩
    · have h1 : i < m := lt_t h1
      have g : (tabl m (fill1 i))[i]? = some (((0 : Nat)) : Int) := by
        rw [tabl_get h1]
        unfold fill1
        rw [if_neg (by omega), if_neg (by omega), if_neg (by omega)]
      conv => whnf
      have e4 : IntKind.u32.wrap (IntKind.i64.wrap (IntKind.i64.wrap ((i : Int) * 2 ^ min 1 IntKind.i64.bits) - ((1 : Nat) : Int))) = ((2 * i - 1 : Nat) : Int) := by
        rw [nshli _ _ (by omega), nwrapi (by omega), nsub (by omega), nwrapi (by omega), nwrap32 (by omega)]
        omega
      rw [e4]
      refine ⟨by omega, ?_⟩
      conv => whnf
      refine ⟨_, ((2 * i - 1 : Nat) : Int), g, rfl, ?_⟩
      conv => whnf
      refine ⟨⟨i + 1, by omega, by omega⟩, ⟨[0], ⟨rfl, ⟨?_, rfl, trivial⟩, rfl⟩, rfl, rfl, eq_i64 ?_, trivial⟩, ?_⟩
      · show some (Blk.vec true T (encI .u32) [] 1 ((tabl m (fill1 i)).set i ((2 * i - 1 : Nat) : Int))) = some (rowT T m (fill1 (i + 1)))
        unfold rowT
        rw [tabl_set, tabl_ext]
        intro x hx
        unfold fill1
        by_cases hxi : x = i
        · subst hxi
          rw [if_pos rfl, if_neg (by omega), if_neg (by omega), if_pos (by omega)]
        · rw [if_neg hxi]
          by_cases h0 : x = 0
          · rw [if_pos h0, if_pos h0]
          · rw [if_neg h0, if_neg h0]
            by_cases h2 : x = 1
            · rw [if_pos h2, if_pos h2]
            · rw [if_neg h2, if_neg h2]
              by_cases h3 : x < i
              · rw [if_pos h3, if_pos (by omega)]
              · rw [if_neg h3, if_neg (by omega)]
      · rw [nadd, nwrapi (by omega)]
      · show m - (i + 1) < m - i
        omega
    · have h1 : m ≤ i := lt_f h1
      obtain rfl : i = m := by omega
      conv => whnf
      refine ⟨{j : Nat // 2 ≤ j ∧ j ≤ n}, fun ⟨j, _⟩ => ⟨[(0, .o (.c (.vec 0 i))), (1, .o (.c (.val (.int .i64 n)))), (6, .o (.c (.val (.int .i64 j))))], [rowT T i (um (j - 1))]⟩, fun j => n - j.1, ⟨⟨2, by omega, by omega⟩, [0], ⟨rfl, ⟨?_, rfl, trivial⟩, rfl⟩, rfl, rfl, rfl, trivial⟩, fun ⟨j, hj1, hj⟩ => ?_⟩
      · show some (rowT T i (fill1 i)) = some (rowT T i (um 1))
        unfold rowT
        rw [tabl_ext]
        intro x hx
        unfold fill1
        by_cases h0 : x = 0
        · rw [if_pos h0, h0, um_zero]
        · rw [if_neg h0]
          by_cases h2 : x = 1
          · rw [if_pos h2, h2, um_one]
          · rw [if_neg h2, if_pos hx, um_two x (by omega) (by omega)]
      conv => whnf
      refine ⟨fun h1 => ?_, fun h1 => ?_⟩
      · have h1 : j < n := lt_t h1
        conv => whnf
        obtain ⟨y, rfl⟩ : ∃ y, i = y + 1 := ⟨i - 1, by omega⟩
        obtain ⟨z, rfl⟩ : ∃ z, j = z + 1 := ⟨j - 1, by omega⟩
        refine ⟨⟨by omega, by omega, by omega⟩, Or.inl ⟨fun c hc1 hc2 => ?_, fun h => absurd h (by omega), fun h => absurd h (by omega)⟩⟩
        conv => whnf
        refine (nextRowW w0 (n := z) (m := y) (c := c - 1) (by omega) (by omega)).mono ?_
        rintro _ _ ⟨rfl, rfl⟩
        conv => whnf
        refine ⟨⟨z + 2, by omega, by omega⟩, ⟨[0], ⟨rfl, ⟨rfl, rfl, trivial⟩, rfl⟩, rfl, rfl, eq_i64 ?_, trivial⟩, ?_⟩
        · rw [nadd, nwrapi (by omega)]
        · show n - (z + 2) < n - (z + 1)
          omega
      · have h1 : n ≤ j := lt_f h1
        obtain rfl : j = n := by omega
        conv => whnf
        exact Or.inl ⟨rfl, rfl⟩
theorem urowW (w0 : World) {n k : Nat} (hn : 1 ≤ n) (hn2 : n ≤ 240) (hk : 1 ≤ k) (hk2 : k ≤ 240) : CallsA Tryd.prog w0 40 [.c (.val (.int .i64 n)), .c (.val (.int .i64 k))] [] fun r H => r = .o (.c (.vec 0 (k + 2))) ∧ H = [rowU (k + 2) (um (n - 1))] := by
  refine callsA_of_ev c40_ ?_
  conv => whnf
  simp (disch := omega) only [nadd, nwrapi]
  refine ⟨⟨by omega, by omega, by omega, by omega, by omega⟩, ?_⟩
  conv => whnf
  refine ⟨Int, encI .u32, [], 0, fun _ => rfl, rfl, ?_⟩
  conv => whnf
  rw [Int.toNat_natCast, tabl_zero]
  refine (urowIntoW w0 (n := n) (m := k + 2) hn (by omega) (by omega) (by omega)).mono ?_
  rintro _ _ ⟨rfl, rfl⟩
  conv => whnf
  exact Or.inl ⟨rfl, rfl⟩
theorem cCountW (w0 : World) {n k : Nat} (hn : 1 ≤ n) (hn2 : n ≤ 240) (hk : 1 ≤ k) (hk2 : k ≤ 240) : CallsA Tryd.prog w0 23 [.c (.val (.int .i64 n)), .c (.val (.int .i64 k))] [] fun r H => r = u32 (vv n k % 4294967296) ∧ H = [] := by
  refine callsA_of_ev c23_ ?_
  conv => whnf
  refine (urowW w0 hn hn2 hk hk2).mono ?_
  rintro _ _ ⟨rfl, rfl⟩
  have g1 : (tabl (k + 2) (um (n - 1)))[k]? = some ((um (n - 1) k : Nat) : Int) := tabl_get (by omega)
  have g2 : (tabl (k + 2) (um (n - 1)))[k + 1]? = some ((um (n - 1) (k + 1) : Nat) : Int) := tabl_get (by omega)
  conv => whnf
  refine ⟨by omega, ?_⟩
  conv => whnf
  refine ⟨_, g1, ?_⟩
  conv => whnf
  have e1 : IntKind.i64.wrap ((k : Int) + ((1 : Nat) : Int)) = ((k + 1 : Nat) : Int) := by rw [nadd, nwrapi (by omega)]
  rw [e1]
  refine ⟨by omega, ?_⟩
  conv => whnf
  refine ⟨_, g2, ?_⟩
  conv => whnf
  refine Or.inr ⟨[], u32 (vv n k % 4294967296), [], ⟨rfl, trivial, rfl⟩, ?_, rfl, rfl⟩
  refine u32_of ?_
  rw [nadd, nwrapm]
  obtain ⟨x, rfl⟩ : ∃ x, n = x + 1 := ⟨n - 1, by omega⟩
  rw [Nat.add_sub_cancel, vv_uu]
  unfold um
  omega
end Go.Proofs.YtkomikpfnogjcaaDoor
end
