/- How many vectors of pulses there are, as the reference counts. -/
import Derived.Test.YtkomikpfnogjcaaRcAg
import Derived.Test.YtkomikpfnogjcaaIrPc
namespace Go.Proofs.Ytkomikpfnogjcaa
open Go Go.Vc
set_option maxRecDepth 100000
set_option maxHeartbeats 4000000
set_option linter.unusedSimpArgs false

theorem tabl_zero (m : Nat) : List.replicate m (0 : Int) = tabl m fun _ => 0 := by
  apply List.ext_getElem?
  intro j
  rcases Nat.lt_or_ge j m with h | h
  · rw [tabl_get h, List.getElem?_replicate, if_pos h]
    rfl
  · rw [List.getElem?_eq_none (by rw [List.length_replicate]; exact h), List.getElem?_eq_none (by rw [tabl_len]; exact h)]
/-- A row on its way from one number of places to the next. -/
def mixV (n i : Nat) (x : Nat) : Nat := if x < i then vcap (n + 1) x else vcap n x
def rowB (m : Nat) (f : Nat → Nat) : Blk := .vec true 69 (encI .u64) [] 1 (tabl m f)
theorem vectorsW (w0 : World) {n k : Nat} (hn : n ≤ 240) (hk : k ≤ 240) : CallsA Try.prog w0 73 [.c (.val (.int .i64 n)), .c (.val (.int .i64 k))] [] fun r H => r = .t [.c (.val (.int .u64 (vcap n k : Nat))), .c (.val (.bool (decide (((vcap n k : Nat) : Int) < ((4294967296 : Nat) : Int)))))] ∧ H = [] := by
  refine callsA_of_ev c73_ ?_
  conv => whnf
  simp (disch := omega) only [nadd, nwrapi]
  refine ⟨⟨by omega, by omega, by omega, by omega, by omega⟩, ?_⟩
  conv => whnf
  refine ⟨Int, encI .u64, 0, fun _ => rfl, rfl, ?_⟩
  conv => whnf
  refine ⟨⟨by omega, by rw [Int.toNat_natCast]; omega⟩, ?_⟩
  conv => whnf
  refine ⟨0, ((1 : Nat) : Int), rfl, rfl, ?_⟩
  conv => whnf
  refine Or.inl ?_
  conv => whnf
  refine ⟨_root_.Fin (n + 1), fun ⟨j, _⟩ => ⟨[(1, .o (.c (.val (.int .i64 k)))), (6, .o (.c (.vec 0 (k + 1)))), (15, .o (.c (.val (.int .i64 n)))), (16, .o (.c (.val (.int .i64 j))))], [rowB (k + 1) (vcap j)]⟩, fun j => n - j.1, ⟨⟨0, by omega⟩, [0], ⟨rfl, ⟨?_, rfl, trivial⟩, rfl⟩, rfl, rfl, rfl, rfl, trivial⟩, fun ⟨j, hj⟩ => ?_⟩
  · show some (Blk.vec true 69 (encI .u64) [] 1 ((List.replicate (k + 1) 0).set 0 ((1 : Nat) : Int))) = some (rowB (k + 1) (vcap 0))
    rw [tabl_zero, tabl_set]
    unfold rowB
    rw [tabl_ext]
    intro i hi
    cases i with
    | zero => rfl
    | succ i => rfl
  · conv => whnf
    refine ⟨fun h1 => ?_, fun h1 => ?_⟩
    · have h1 : j < n := lt_t h1
      conv => whnf
      refine Or.inl ?_
      conv => whnf
      refine ⟨_root_.Fin (k + 2), fun ⟨i, _⟩ => ⟨[(1, .o (.c (.val (.int .i64 k)))), (6, .o (.c (.vec 0 (k + 1)))), (15, .o (.c (.val (.int .i64 n)))), (16, .o (.c (.val (.int .i64 j)))), (7, .o (.c (.val (.int .u64 ((if i = 0 then 0 else vcap j (i - 1) : Nat) : Int))))), (19, .o (.c (.val (.int .i64 ((k + 1 : Nat) : Int))))), (20, .o (.c (.val (.int .i64 i))))], [rowB (k + 1) (mixV j i)]⟩, fun i => k + 1 - i.1, ⟨⟨0, by omega⟩, [0], ⟨rfl, ⟨rfl, rfl, trivial⟩, rfl⟩, rfl, rfl, rfl, rfl, rfl, rfl, rfl, trivial⟩, fun ⟨i, hi⟩ => ?_⟩
      conv => whnf
      refine ⟨fun h2 => ?_, fun h2 => ?_⟩
      · have h2 : i < k + 1 := lt_t h2
        conv => whnf
        refine Or.inl ?_
        conv => whnf
        refine ⟨by omega, ?_⟩
        conv => whnf
        have e1 : mixV j i i = vcap j i := by unfold mixV; rw [if_neg (by omega)]
        have g1 : (tabl (k + 1) (mixV j i))[i]? = some ((vcap j i : Nat) : Int) := by rw [tabl_get h2, e1]
        have c1 := vcap_le j i
        refine ⟨_, g1, ?_⟩
        conv => whnf
        refine Or.inl ?_
        conv => whnf
        refine ⟨fun h3 => ?_, fun h3 => ?_⟩
        · have h3 : 0 < i := gt_t h3
          obtain ⟨x, rfl⟩ : ∃ x, i = x + 1 := ⟨i - 1, by omega⟩
          have e2 : mixV j (x + 1) x = vcap (j + 1) x := by unfold mixV; rw [if_pos (by omega)]
          have g2 : (tabl (k + 1) (mixV j (x + 1)))[x]? = some ((vcap (j + 1) x : Nat) : Int) := by rw [tabl_get (by omega), e2]
          have c2 := vcap_le (j + 1) x
          have c3 := vcap_le j x
          have st := vcap_step j x
          conv => whnf
          have e3 : IntKind.i64.wrap (((x + 1 : Nat) : Int) - ((1 : Nat) : Int)) = x := by rw [nsub (by omega), nwrapi (by omega), Nat.add_sub_cancel]
          rw [e3]
          refine ⟨by omega, ?_⟩
          conv => whnf
          refine ⟨_, g2, ?_⟩
          conv => whnf
          rw [if_neg (by omega), Nat.add_sub_cancel]
          simp (disch := omega) only [nadd, nwrap64]
          refine ⟨by omega, ?_⟩
          conv => whnf
          refine ⟨_, ((vcap j (x + 1) + vcap (j + 1) x + vcap j x : Nat) : Int), g1, rfl, ?_⟩
          conv => whnf
          have g3 : ((tabl (k + 1) (mixV j (x + 1))).set (x + 1) ((vcap j (x + 1) + vcap (j + 1) x + vcap j x : Nat) : Int))[x + 1]? = some ((vcap j (x + 1) + vcap (j + 1) x + vcap j x : Nat) : Int) := by rw [List.getElem?_set_self (by rw [tabl_len]; omega)]
          have fin : ∀ V : Nat, V = vcap (j + 1) (x + 1) → tabl (k + 1) (fun y => if y = x + 1 then V else mixV j (x + 1) y) = tabl (k + 1) (mixV j (x + 2)) := by
            intro V hV
            refine tabl_ext fun y hy => ?_
            unfold mixV
            by_cases hyx : y = x + 1
            · subst hyx
              rw [if_pos rfl, if_pos (by omega), hV]
            · rw [if_neg hyx]
              by_cases hyl : y < x + 1
              · rw [if_pos hyl, if_pos (by omega)]
              · rw [if_neg hyl, if_neg (by omega)]
          refine Or.inl ?_
          conv => whnf
          refine ⟨by omega, ?_⟩
          conv => whnf
          refine ⟨_, g3, ?_⟩
          conv => whnf
          refine ⟨fun h4 => ?_, fun h4 => ?_⟩
          · have h4 := ge_t h4
            conv => whnf
            refine ⟨by omega, ?_⟩
            conv => whnf
            refine ⟨_, ((1099511627776 : Nat) : Int), g3, rfl, ?_⟩
            conv => whnf
            refine ⟨⟨x + 2, by omega⟩, ⟨[0], ⟨rfl, ⟨?_, rfl, trivial⟩, rfl⟩, rfl, rfl, rfl, rfl, eq_u64 ?_, rfl, eq_i64 ?_, trivial⟩, ?_⟩
            · show some (Blk.vec true 69 (encI .u64) [] 1 (((tabl (k + 1) (mixV j (x + 1))).set (x + 1) ((vcap j (x + 1) + vcap (j + 1) x + vcap j x : Nat) : Int)).set (x + 1) ((1099511627776 : Nat) : Int))) = some (rowB (k + 1) (mixV j (x + 2)))
              rw [List.set_set, tabl_set, fin 1099511627776 (by omega)]
              rfl
            · show ((vcap j (x + 1) : Nat) : Int) = ((if x + 2 = 0 then 0 else vcap j (x + 2 - 1) : Nat) : Int)
              rw [if_neg (by omega)]
              rfl
            · rw [nadd, nwrapi (by omega)]
            · show k + 1 - (x + 2) < k + 1 - (x + 1)
              omega
          · have h4 := ge_f h4
            conv => whnf
            refine ⟨⟨x + 2, by omega⟩, ⟨[0], ⟨rfl, ⟨?_, rfl, trivial⟩, rfl⟩, rfl, rfl, rfl, rfl, eq_u64 ?_, rfl, eq_i64 ?_, trivial⟩, ?_⟩
            · show some (Blk.vec true 69 (encI .u64) [] 1 ((tabl (k + 1) (mixV j (x + 1))).set (x + 1) ((vcap j (x + 1) + vcap (j + 1) x + vcap j x : Nat) : Int))) = some (rowB (k + 1) (mixV j (x + 2)))
              rw [tabl_set, fin _ (by omega)]
              rfl
            · show ((vcap j (x + 1) : Nat) : Int) = ((if x + 2 = 0 then 0 else vcap j (x + 2 - 1) : Nat) : Int)
              rw [if_neg (by omega)]
              rfl
            · rw [nadd, nwrapi (by omega)]
            · show k + 1 - (x + 2) < k + 1 - (x + 1)
              omega
        · have h3 : i = 0 := by have := gt_f h3; omega
          subst h3
          conv => whnf
          have e5 := vcap_zero j
          refine Or.inl ?_
          conv => whnf
          refine ⟨by omega, ?_⟩
          conv => whnf
          refine ⟨_, g1, ?_⟩
          conv => whnf
          refine ⟨fun h4 => absurd (ge_t h4) (by omega), fun _ => ?_⟩
          conv => whnf
          refine ⟨⟨1, by omega⟩, ⟨[0], ⟨rfl, ⟨?_, rfl, trivial⟩, rfl⟩, rfl, rfl, rfl, rfl, rfl, rfl, eq_i64 ?_, trivial⟩, ?_⟩
          · show some (rowB (k + 1) (mixV j 0)) = some (rowB (k + 1) (mixV j 1))
            unfold rowB
            rw [tabl_ext]
            intro y hy
            unfold mixV
            rw [if_neg (by omega)]
            by_cases hy0 : y < 1
            · rw [if_pos hy0]
              obtain rfl : y = 0 := by omega
              rw [e5, vcap_zero]
            · rw [if_neg hy0]
          · rw [nadd, nwrapi (by omega)]
          · show k + 1 - 1 < k + 1 - 0
            omega
      · have h2 : k + 1 ≤ i := lt_f h2
        obtain rfl : i = k + 1 := by omega
        conv => whnf
        refine ⟨⟨j + 1, by omega⟩, ⟨[0], ⟨rfl, ⟨?_, rfl, trivial⟩, rfl⟩, rfl, rfl, rfl, eq_i64 ?_, trivial⟩, ?_⟩
        · show some (rowB (k + 1) (mixV j (k + 1))) = some (rowB (k + 1) (vcap (j + 1)))
          unfold rowB
          rw [tabl_ext]
          intro x hx
          unfold mixV
          rw [if_pos hx]
        · rw [nadd, nwrapi (by omega)]
        · show n - (j + 1) < n - j
          omega
    · have h1 : n ≤ j := lt_f h1
      obtain rfl : j = n := by omega
      have g1 : (tabl (k + 1) (vcap j))[k]? = some ((vcap j k : Nat) : Int) := tabl_get (by omega)
      conv => whnf
      refine ⟨by omega, ?_⟩
      conv => whnf
      refine ⟨_, g1, ?_⟩
      conv => whnf
      refine ⟨by omega, ?_⟩
      conv => whnf
      refine ⟨_, g1, ?_⟩
      conv => whnf
      exact Or.inr ⟨[], .t [.c (.val (.int .u64 (vcap j k : Nat))), .c (.val (.bool (decide (((vcap j k : Nat) : Int) < ((4294967296 : Nat) : Int)))))], [], ⟨rfl, trivial, rfl⟩, rfl, rfl, rfl⟩
theorem sCountW (w0 : World) {n k : Nat} (hn : 1 ≤ n) (hn2 : n ≤ 240) (hk : k ≤ 240) : CallsA Try.prog w0 23 [.c (.val (.int .i64 n)), .c (.val (.int .i64 k))] [] fun r H => H = [] ∧
    ((4294967296 ≤ vcap n k ∧ r = .t [.c (.val (.int .u32 ((0 : Nat) : Int))), .c (.val (.int .i64 ((2 : Nat) : Int)))]) ∨ (vcap n k < 4294967296 ∧ r = .t [.c (.val (.int .u32 (vcap n k : Nat))), .c (.val (.int .i64 ((1 : Nat) : Int)))])) := by
  refine callsA_of_ev c23_ ?_
  conv => whnf
  refine Or.inl ?_
  conv => whnf
  refine ⟨fun h => absurd (lt_t h) (by omega), fun _ => ?_⟩
  conv => whnf
  refine ⟨fun h => absurd (gt_t h) (by omega), fun _ => ?_⟩
  conv => whnf
  refine ⟨fun h => absurd (lt_t h) (by omega), fun _ => ?_⟩
  conv => whnf
  refine ⟨fun h => absurd (gt_t h) (by omega), fun _ => ?_⟩
  conv => whnf
  refine (vectorsW w0 hn2 hk).mono ?_
  rintro _ _ ⟨rfl, rfl⟩
  conv => whnf
  refine Or.inl ?_
  conv => whnf
  refine ⟨fun h => ?_, fun h => ?_⟩
  · have h : 4294967296 ≤ vcap n k := by
      rcases Nat.lt_or_ge (vcap n k) 4294967296 with h1 | h1
      · rw [decide_eq_true (by omega)] at h
        cases h
      · exact h1
    conv => whnf
    exact Or.inl ⟨rfl, Or.inl ⟨h, rfl⟩⟩
  · have h : vcap n k < 4294967296 := by
      rcases Nat.lt_or_ge (vcap n k) 4294967296 with h1 | h1
      · exact h1
      · rw [decide_eq_false (by omega)] at h
        cases h
    conv => whnf
    refine Or.inl ⟨rfl, Or.inr ⟨h, ?_⟩⟩
    rw [nwrap32 h]
    rfl
end Go.Proofs.Ytkomikpfnogjcaa
