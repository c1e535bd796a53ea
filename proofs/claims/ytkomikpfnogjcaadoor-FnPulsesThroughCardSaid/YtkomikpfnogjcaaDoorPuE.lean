/- The last four places of a vector, from its number. -/
import Derived.Test.YtkomikpfnogjcaaDoorPuD
namespace Go.Proofs.YtkomikpfnogjcaaDoor
open Go Go.Vc
set_option maxRecDepth 100000
set_option maxHeartbeats 4000000

def intB (ys : List Int) : Blk := .vec true 3 (encI .i64) [] 1 ys
def setAll (ys : List Int) : Nat → List Int → List Int
  | _, [] => ys
  | o, x :: r => setAll (ys.set o x) (o + 1) r
theorem setAll_len : ∀ (l : List Int) (ys : List Int) (o : Nat), (setAll ys o l).length = ys.length
  | [], _, _ => rfl
  | x :: r, ys, o => by
    show (setAll (ys.set o x) (o + 1) r).length = _
    rw [setAll_len r, List.length_set]
theorem xor_neg : ∀ y : Nat, y < 21 → IntKind.i64.wrap (((BitVec.ofInt IntKind.i64.bits (IntKind.i64.wrap ((y : Int) + (-1))) ^^^ BitVec.ofInt IntKind.i64.bits (-1)).toNat : Nat) : Int) = sgn true y := by decide +kernel
theorem xor_pos : ∀ y : Nat, y < 21 → IntKind.i64.wrap (((BitVec.ofInt IntKind.i64.bits (IntKind.i64.wrap ((y : Int) + ((0 : Nat) : Int))) ^^^ BitVec.ofInt IntKind.i64.bits ((0 : Nat) : Int)).toNat : Nat) : Int) = sgn false y := by decide +kernel
def maskOf (neg : Bool) : Int := match neg with | true => -1 | false => ((0 : Nat) : Int)
theorem xor_mask (neg : Bool) {y : Nat} (h : y < 21) : IntKind.i64.wrap (((BitVec.ofInt IntKind.i64.bits (IntKind.i64.wrap ((y : Int) + maskOf neg)) ^^^ BitVec.ofInt IntKind.i64.bits (maskOf neg)).toNat : Nat) : Int) = sgn neg y := by
  cases neg
  · exact xor_pos y h
  · exact xor_neg y h
def restOf (m k i : Nat) : Nat := if uu m (k + 1) ≤ i then i - uu m (k + 1) else i
theorem vec_cons {m k i K : Nat} (hK : kOf m k (restOf m k i) = K) : vecOf (m + 1) k i = sgn (decide (uu m (k + 1) ≤ i)) (k - K) :: vecOf m K (restOf m k i - uu m K) := by
  subst hK
  rfl
theorem rest_lt {m k i : Nat} (h : i < vv (m + 1) k) : restOf m k i < uu m (k + 1) := by
  rw [vv_uu] at h
  have := uu_step m k
  unfold restOf
  split <;> omega
theorem rest_next {m k i : Nat} (h : i < vv (m + 1) k) : uu m (kOf m k (restOf m k i)) ≤ restOf m k i ∧ restOf m k i < uu m (kOf m k (restOf m k i) + 1) ∧ restOf m k i - uu m (kOf m k (restOf m k i)) < vv m (kOf m k (restOf m k i)) := by
  have h1 := kOf_le m k (restOf m k i)
  have h2 := kOf_at m k (restOf m k i)
  have h3 := rest_lt h
  have h4 : restOf m k i < uu m (kOf m k (restOf m k i) + 1) := by
    rcases Nat.lt_or_ge (kOf m k (restOf m k i)) k with c | c
    · exact kOf_next c
    · rw [show kOf m k (restOf m k i) = k by omega]
      exact h3
  have h5 := uu_step m (kOf m k (restOf m k i))
  exact ⟨h2, h4, by omega⟩
theorem uu1_le {k : Nat} (h : k < 22) : uu 1 k ≤ 41 := by
  cases k with
  | zero => rw [uu_zero]; omega
  | succ k => rw [uu_two]; omega

theorem vec_one {k i : Nat} (h : i < vv 1 k) : i ≤ 1 ∧ vecOf 1 k i = [sgn (decide (1 ≤ i)) k] := by
  have h1 : uu 0 (k + 1) = 1 := rfl
  have h2 : i < uu 0 k + 1 := by rw [vv_uu] at h; rw [h1] at h; exact h
  have h3 : uu 0 k ≤ 1 := by
    cases k with
    | zero => exact Nat.zero_le _
    | succ k => exact Nat.le_refl _
  have hr : restOf 0 k i = 0 := by
    unfold restOf
    rw [h1]
    split <;> omega
  have hk : kOf 0 k 0 = 0 := by
    have := kOf_at 0 k 0
    cases hq : kOf 0 k 0 with
    | zero => rfl
    | succ q => rw [hq] at this; exact absurd this (by show ¬ 1 ≤ 0; omega)
  refine ⟨by omega, ?_⟩
  rw [vec_cons (m := 0) (K := 0) (by rw [hr]; exact hk), h1, Nat.sub_zero]
  rfl
theorem decode1W (w0 : World) {ys : List Int} {o n c k i : Nat} (ho : o < ys.length) (hn : 1 ≤ n) (hk : k ≤ 20) (hi : i < vv 1 k) :
    CallsA Tryd.prog w0 98 [.c (.sli 0 1 o n c), .c (.val (.int .i64 k)), .c (.val (.int .u32 i))] [intB ys] fun r H => r = .t [] ∧ H = [intB (setAll ys o (vecOf 1 k i))] := by
  obtain ⟨hi1, hv⟩ := vec_one hi
  rw [hv]
  have hy : ys[o + 0]? = some ys[o] := List.getElem?_eq_getElem ho
  refine callsA_of_ev c98_ ?_
  conv => whnf
  refine Or.inl ?_
  conv => whnf
  refine ⟨fun h => absurd (beq_t h) (by omega), fun _ => ?_⟩
  conv => whnf
  refine Or.inl ?_
  conv => whnf
  refine ⟨fun h => ?_, fun h => ?_⟩
  · have h : i = 0 := beq_t h
    conv => whnf
    refine ⟨by omega, ?_⟩
    conv => whnf
    refine ⟨_, ((k : Nat) : Int), hy, rfl, ?_⟩
    conv => whnf
    refine Or.inl ⟨rfl, ?_⟩
    rw [h]
    rfl
  · have h : i ≠ 0 := beq_f h
    conv => whnf
    refine ⟨by omega, ?_⟩
    conv => whnf
    refine ⟨_, -((k : Nat) : Int), hy, ?_, ?_⟩
    · show [CV.val (.int .i64 (-((k : Nat) : Int)))] = [CV.val (.int .i64 (IntKind.i64.wrap (0 - ((k : Nat) : Int))))]
      rw [IntKind.wrap_i64]
      congr 3
      omega
    conv => whnf
    refine Or.inl ⟨rfl, ?_⟩
    rw [show i = 1 by omega]
    rfl

theorem decode2S (w0 : World) {ys : List Int} {o n c k i : Nat} (ho : o + 2 ≤ ys.length) (hn : 2 ≤ n) (hk : k ≤ 20) (hi : i < vv 2 k) :
    CallsA Tryd.prog w0 77 [.c (.sli 0 1 o n c), .c (.val (.int .i64 k)), .c (.val (.int .u32 i))] [intB ys] fun r H => r = .t [] ∧ H = [intB (setAll ys o (vecOf 2 k i))] := by
  have hy : ys[o + 0]? = some (ys[o]'(by omega)) := List.getElem?_eq_getElem (by omega)
  obtain ⟨J, hJ⟩ : ∃ J, J = restOf 1 k i := ⟨_, rfl⟩
  obtain ⟨N, hN⟩ : ∃ N, N = decide (uu 1 (k + 1) ≤ i) := ⟨_, rfl⟩
  have h1 := rest_lt hi
  have h2 := rest_next hi
  have hvv : i < uu 1 k + uu 1 (k + 1) := by rw [← vv_uu]; exact hi
  have hu1 := uu1_le (k := k) (by omega)
  have hu2 := uu1_le (k := k + 1) (by omega)
  have hK : kOf 1 k (restOf 1 k i) = (J + 1) / 2 := by
    rw [← hJ] at h1 ⊢
    rw [uu_two] at h1
    refine kOf_eq (by omega) ?_ (by rw [uu_two]; omega)
    cases hq : (J + 1) / 2 with
    | zero => rw [uu_zero]; omega
    | succ q => rw [uu_two]; omega
  have hvec := vec_cons hK
  rw [hK, ← hJ] at h2
  rw [← hJ, ← hN] at hvec
  rw [← hJ] at h1
  obtain ⟨K, hKK⟩ : ∃ K, K = (J + 1) / 2 := ⟨_, rfl⟩
  rw [← hKK] at h2 hvec
  obtain ⟨h2, h3, h4⟩ := h2
  have hKk : K ≤ k := by rw [hKK, ← hK]; exact kOf_le _ _ _
  have hJ40 : J ≤ 41 := by omega
  rw [hvec]
  refine callsA_of_ev c77_ ?_
  conv => whnf
  rw [nadd k 1, nwrapi (n := k + 1) (by omega)]
  refine CallsA.lift (H0 := []) [] rfl trivial rfl (cU2W w0 (k + 1) (by omega) (by omega)) ?_
  rintro _ _ ⟨rfl, rfl⟩
  conv => whnf
  refine Or.inr ⟨Unit, fun _ => ⟨[(0, .o (.c (.sli 0 1 o n c))), (1, .o (.c (.val (.int .i64 k)))), (2, .o (.c (.val (.int .u32 J)))), (7, .o (.c (.val (.int .i64 (maskOf N)))))], [intB ys]⟩, ?_, ?_⟩
  · conv => whnf
    refine ⟨fun g => ?_, fun g => ?_⟩
    · have g : uu 1 (k + 1) ≤ i := ge_t g
      conv => whnf
      refine ⟨(), [0], ⟨rfl, ⟨rfl, rfl, trivial⟩, rfl⟩, rfl, rfl, eq_u32 ?_, ?_, trivial⟩
      · rw [nsub g, nwrap32 (by omega), hJ]
        unfold restOf
        rw [if_pos g]
      · have hmk : maskOf N = -1 := by rw [hN, decide_eq_true g]; rfl
        rw [hmk]
        rfl
    · have g : i < uu 1 (k + 1) := ge_f g
      conv => whnf
      refine ⟨(), [0], ⟨rfl, ⟨rfl, rfl, trivial⟩, rfl⟩, rfl, rfl, eq_u32 ?_, ?_, trivial⟩
      · rw [hJ]
        unfold restOf
        rw [if_neg (by omega)]
      · have hmk : maskOf N = ((0 : Nat) : Int) := by rw [hN, decide_eq_false (by omega)]; rfl
        rw [hmk]
        rfl
  rintro ⟨⟩
  conv => whnf
  rw [nadd J 1, nwrap32 (n := J + 1) (by omega), nshr32 (J + 1) 1 (by omega), Nat.pow_one, ← hKK, nwrapi (n := K) (by omega)]
  refine Or.inr ⟨Unit, fun _ => ⟨[(0, .o (.c (.sli 0 1 o n c))), (1, .o (.c (.val (.int .i64 K)))), (2, .o (.c (.val (.int .u32 (J - uu 1 K : Nat))))), (7, .o (.c (.val (.int .i64 (maskOf N))))), (8, .o (.c (.val (.int .i64 k))))], [intB ys]⟩, ?_, ?_⟩
  · conv => whnf
    refine ⟨fun g => ?_, fun g => ?_⟩
    · have g : K ≠ 0 := bne_t g
      conv => whnf
      refine CallsA.lift (H0 := []) [] rfl trivial rfl (cU2W w0 K (by omega) (by omega)) ?_
      rintro _ _ ⟨rfl, rfl⟩
      conv => whnf
      refine ⟨(), [0], ⟨rfl, ⟨rfl, rfl, trivial⟩, rfl⟩, rfl, rfl, eq_u32 ?_, rfl, rfl, trivial⟩
      rw [nsub h2, nwrap32 (by omega)]
    · have g : K = 0 := bne_f g
      conv => whnf
      refine ⟨(), [0], ⟨rfl, ⟨rfl, rfl, trivial⟩, rfl⟩, rfl, rfl, eq_u32 ?_, rfl, rfl, trivial⟩
      rw [g, uu_zero, Nat.sub_zero]
  rintro ⟨⟩
  conv => whnf
  rw [nsub hKk, nwrapi (n := k - K) (by omega)]
  refine ⟨by omega, ?_⟩
  conv => whnf
  refine ⟨_, sgn N (k - K), hy, ?_, ?_⟩
  · show [CV.val (.int .i64 (sgn N (k - K)))] = [CV.val (.int .i64 (IntKind.i64.wrap (((BitVec.ofInt IntKind.i64.bits (IntKind.i64.wrap (((k - K : Nat) : Int) + maskOf N)) ^^^ BitVec.ofInt IntKind.i64.bits (maskOf N)).toNat : Nat) : Int)))]
    rw [xor_mask N (by omega)]
  conv => whnf
  refine ⟨by omega, fun hc => ?_, fun h _ => absurd h (by omega)⟩
  conv => whnf
  refine (decode1W w0 (ys := ys.set o (sgn N (k - K))) (o := o + 1) (n := n - 1) (k := K) (i := J - uu 1 K) (by rw [List.length_set]; omega) (by omega) (by omega) h4).mono ?_
  rintro _ _ ⟨rfl, rfl⟩
  conv => whnf
  exact Or.inl ⟨rfl, rfl⟩

theorem decode2V (w0 : World) {ys : List Int} {n k i : Nat} (ho : n = ys.length) (hn : 2 ≤ n) (hk : k ≤ 20) (hi : i < vv 2 k) :
    CallsA Tryd.prog w0 77 [.c (.vec 0 n), .c (.val (.int .i64 k)), .c (.val (.int .u32 i))] [intB ys] fun r H => r = .t [] ∧ H = [intB (setAll ys 0 (vecOf 2 k i))] := by
  have hy : ys[0]? = some (ys[0]'(by omega)) := List.getElem?_eq_getElem (by omega)
  obtain ⟨J, hJ⟩ : ∃ J, J = restOf 1 k i := ⟨_, rfl⟩
  obtain ⟨N, hN⟩ : ∃ N, N = decide (uu 1 (k + 1) ≤ i) := ⟨_, rfl⟩
  have h1 := rest_lt hi
  have h2 := rest_next hi
  have hvv : i < uu 1 k + uu 1 (k + 1) := by rw [← vv_uu]; exact hi
  have hu1 := uu1_le (k := k) (by omega)
  have hu2 := uu1_le (k := k + 1) (by omega)
  have hK : kOf 1 k (restOf 1 k i) = (J + 1) / 2 := by
    rw [← hJ] at h1 ⊢
    rw [uu_two] at h1
    refine kOf_eq (by omega) ?_ (by rw [uu_two]; omega)
    cases hq : (J + 1) / 2 with
    | zero => rw [uu_zero]; omega
    | succ q => rw [uu_two]; omega
  have hvec := vec_cons hK
  rw [hK, ← hJ] at h2
  rw [← hJ, ← hN] at hvec
  rw [← hJ] at h1
  obtain ⟨K, hKK⟩ : ∃ K, K = (J + 1) / 2 := ⟨_, rfl⟩
  rw [← hKK] at h2 hvec
  obtain ⟨h2, h3, h4⟩ := h2
  have hKk : K ≤ k := by rw [hKK, ← hK]; exact kOf_le _ _ _
  have hJ40 : J ≤ 41 := by omega
  rw [hvec]
  refine callsA_of_ev c77_ ?_
  conv => whnf
  rw [nadd k 1, nwrapi (n := k + 1) (by omega)]
  refine CallsA.lift (H0 := []) [] rfl trivial rfl (cU2W w0 (k + 1) (by omega) (by omega)) ?_
  rintro _ _ ⟨rfl, rfl⟩
  conv => whnf
  refine Or.inr ⟨Unit, fun _ => ⟨[(0, .o (.c (.vec 0 n))), (1, .o (.c (.val (.int .i64 k)))), (2, .o (.c (.val (.int .u32 J)))), (7, .o (.c (.val (.int .i64 (maskOf N)))))], [intB ys]⟩, ?_, ?_⟩
  · conv => whnf
    refine ⟨fun g => ?_, fun g => ?_⟩
    · have g : uu 1 (k + 1) ≤ i := ge_t g
      conv => whnf
      refine ⟨(), [0], ⟨rfl, ⟨rfl, rfl, trivial⟩, rfl⟩, rfl, rfl, eq_u32 ?_, ?_, trivial⟩
      · rw [nsub g, nwrap32 (by omega), hJ]
        unfold restOf
        rw [if_pos g]
      · have hmk : maskOf N = -1 := by rw [hN, decide_eq_true g]; rfl
        rw [hmk]
        rfl
    · have g : i < uu 1 (k + 1) := ge_f g
      conv => whnf
      refine ⟨(), [0], ⟨rfl, ⟨rfl, rfl, trivial⟩, rfl⟩, rfl, rfl, eq_u32 ?_, ?_, trivial⟩
      · rw [hJ]
        unfold restOf
        rw [if_neg (by omega)]
      · have hmk : maskOf N = ((0 : Nat) : Int) := by rw [hN, decide_eq_false (by omega)]; rfl
        rw [hmk]
        rfl
  rintro ⟨⟩
  conv => whnf
  rw [nadd J 1, nwrap32 (n := J + 1) (by omega), nshr32 (J + 1) 1 (by omega), Nat.pow_one, ← hKK, nwrapi (n := K) (by omega)]
  refine Or.inr ⟨Unit, fun _ => ⟨[(0, .o (.c (.vec 0 n))), (1, .o (.c (.val (.int .i64 K)))), (2, .o (.c (.val (.int .u32 (J - uu 1 K : Nat))))), (7, .o (.c (.val (.int .i64 (maskOf N))))), (8, .o (.c (.val (.int .i64 k))))], [intB ys]⟩, ?_, ?_⟩
  · conv => whnf
    refine ⟨fun g => ?_, fun g => ?_⟩
    · have g : K ≠ 0 := bne_t g
      conv => whnf
      refine CallsA.lift (H0 := []) [] rfl trivial rfl (cU2W w0 K (by omega) (by omega)) ?_
      rintro _ _ ⟨rfl, rfl⟩
      conv => whnf
      refine ⟨(), [0], ⟨rfl, ⟨rfl, rfl, trivial⟩, rfl⟩, rfl, rfl, eq_u32 ?_, rfl, rfl, trivial⟩
      rw [nsub h2, nwrap32 (by omega)]
    · have g : K = 0 := bne_f g
      conv => whnf
      refine ⟨(), [0], ⟨rfl, ⟨rfl, rfl, trivial⟩, rfl⟩, rfl, rfl, eq_u32 ?_, rfl, rfl, trivial⟩
      rw [g, uu_zero, Nat.sub_zero]
  rintro ⟨⟩
  conv => whnf
  rw [nsub hKk, nwrapi (n := k - K) (by omega)]
  refine ⟨by omega, ?_⟩
  conv => whnf
  refine ⟨_, sgn N (k - K), hy, ?_, ?_⟩
  · show [CV.val (.int .i64 (sgn N (k - K)))] = [CV.val (.int .i64 (IntKind.i64.wrap (((BitVec.ofInt IntKind.i64.bits (IntKind.i64.wrap (((k - K : Nat) : Int) + maskOf N)) ^^^ BitVec.ofInt IntKind.i64.bits (maskOf N)).toNat : Nat) : Int)))]
    rw [xor_mask N (by omega)]
  conv => whnf
  refine ⟨by omega, Or.inl ⟨fun c hc1 hc => ?_, fun h => absurd h (by omega), fun h => absurd h (by omega)⟩⟩
  conv => whnf
  refine (decode1W w0 (ys := ys.set 0 (sgn N (k - K))) (o := 0 + 1) (n := n - 1) (k := K) (i := J - uu 1 K) (by rw [List.length_set]; omega) (by omega) (by omega) h4).mono ?_
  rintro _ _ ⟨rfl, rfl⟩
  conv => whnf
  exact Or.inl ⟨rfl, rfl⟩
end Go.Proofs.YtkomikpfnogjcaaDoor
