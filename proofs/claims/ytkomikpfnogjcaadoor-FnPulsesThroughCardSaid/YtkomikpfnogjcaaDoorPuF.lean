/- The last places of a vector: three and four. -/
import Derived.Test.YtkomikpfnogjcaaDoorPuE
namespace Go.Proofs.YtkomikpfnogjcaaDoor
open Go Go.Vc
set_option maxRecDepth 100000
set_option maxHeartbeats 4000000

theorem uu2_le {k : Nat} (h : k < 22) : uu 2 k ≤ 841 := by
  have h1 := uu_mono 2 (show k ≤ 21 by omega)
  have : uu 2 21 = 841 := by decide +kernel
  omega
theorem uu3_le {k : Nat} (h : k < 22) : uu 3 k ≤ 11521 := by
  have h1 := uu_mono 3 (show k ≤ 21 by omega)
  have : uu 3 21 = 11521 := by decide +kernel
  omega
theorem vv_pos (n k : Nat) : 1 ≤ vv (n + 1) k := by
  rw [vv_uu]
  have := uu_mono n (show 1 ≤ k + 1 by omega)
  rw [uu_one] at this
  omega

theorem decode3S (w0 : World) {ys : List Int} {o n c k i : Nat} (ho : o + 3 ≤ ys.length) (hn : 3 ≤ n) (hk : k ≤ 20) (hi : i < vv 3 k) :
    CallsA Tryd.prog w0 79 [.c (.sli 0 1 o n c), .c (.val (.int .i64 k)), .c (.val (.int .u32 i))] [intB ys] fun r H => r = .t [] ∧ H = [intB (setAll ys o (vecOf 3 k i))] := by
  have hy : ys[o + 0]? = some (ys[o]'(by omega)) := List.getElem?_eq_getElem (by omega)
  obtain ⟨J, hJ⟩ : ∃ J, J = restOf 2 k i := ⟨_, rfl⟩
  obtain ⟨N, hN⟩ : ∃ N, N = decide (uu 2 (k + 1) ≤ i) := ⟨_, rfl⟩
  obtain ⟨K, hK⟩ : ∃ K, K = kOf 2 k J := ⟨_, rfl⟩
  have h1 := rest_lt hi
  have h2 := rest_next hi
  have hvv : i < uu 2 k + uu 2 (k + 1) := by rw [← vv_uu]; exact hi
  have hu1 : uu 2 k ≤ 841 := uu2_le (by omega)
  have hu2 : uu 2 (k + 1) ≤ 841 := uu2_le (by omega)
  have hvec := vec_cons (m := 2) (k := k) (i := i) rfl
  rw [← hJ] at h1 h2 hvec
  rw [← hK] at h2 hvec
  rw [← hN] at hvec
  obtain ⟨h2, h3, h4⟩ := h2
  have hKk : K ≤ k := by rw [hK]; exact kOf_le _ _ _
  have hJm : J < 841 := by omega
  rw [hvec]
  have hKJ : K = if J = 0 then 0 else (isq ((len (2 * J - 1) - 1) / 2) (2 * J - 1) 0 + 1) / 2 := by
    by_cases c : J = 0
    · rw [if_pos c, hK, c]
      refine kOf_eq (Nat.zero_le _) (by rw [uu_zero]; omega) (by rw [uu_one]; omega)
    · rw [if_neg c, hK]
      obtain ⟨p1, p2, p3⟩ := isq_fact J hJm (by omega)
      generalize (isq ((len (2 * J - 1) - 1) / 2) (2 * J - 1) 0 + 1) / 2 = q at *
      have q21 : q ≠ 21 := by
        rintro rfl
        have : uu 2 21 = 841 := by decide +kernel
        omega
      refine kOf_eq ?_ p3 ?_
      · rcases Nat.lt_or_ge k q with e | e
        · have := uu_mono 2 (show k + 1 ≤ q by omega)
          omega
        · exact e
      · rcases Nat.lt_or_ge J (uu 2 (q + 1)) with e | e
        · exact e
        · have := p1 (q + 1) (by omega) e
          omega
  refine callsA_of_ev c79_ ?_
  conv => whnf
  rw [nadd k 1, nwrapi (n := k + 1) (by omega)]
  refine CallsA.lift (H0 := []) [] rfl trivial rfl (cU3W w0 (k + 1) (by omega) (by omega)) ?_
  rintro _ _ ⟨rfl, rfl⟩
  conv => whnf
  refine Or.inr ⟨Unit, fun _ => ⟨[(0, .o (.c (.sli 0 1 o n c))), (1, .o (.c (.val (.int .i64 k)))), (2, .o (.c (.val (.int .u32 J)))), (7, .o (.c (.val (.int .i64 (maskOf N)))))], [intB ys]⟩, ?_, ?_⟩
  · conv => whnf
    refine ⟨fun g => ?_, fun g => ?_⟩
    · have g : uu 2 (k + 1) ≤ i := ge_t g
      conv => whnf
      refine ⟨(), [0], ⟨rfl, ⟨rfl, rfl, trivial⟩, rfl⟩, rfl, rfl, eq_u32 ?_, ?_, trivial⟩
      · rw [nsub g, nwrap32 (by omega), hJ]
        unfold restOf
        rw [if_pos g]
      · have hmk : maskOf N = -1 := by rw [hN, decide_eq_true g]; rfl
        rw [hmk]
        rfl
    · have g : i < uu 2 (k + 1) := ge_f g
      conv => whnf
      refine ⟨(), [0], ⟨rfl, ⟨rfl, rfl, trivial⟩, rfl⟩, rfl, rfl, eq_u32 ?_, ?_, trivial⟩
      · rw [hJ]
        unfold restOf
        rw [if_neg (by omega)]
      · have hmk : maskOf N = ((0 : Nat) : Int) := by rw [hN, decide_eq_false (by omega)]; rfl
        rw [hmk]
        rfl
  rintro ⟨⟩
  conv => whnf
  refine Or.inr ⟨Unit, fun _ => ⟨[(0, .o (.c (.sli 0 1 o n c))), (1, .o (.c (.val (.int .i64 K)))), (2, .o (.c (.val (.int .u32 J)))), (7, .o (.c (.val (.int .i64 (maskOf N))))), (8, .o (.c (.val (.int .i64 k))))], [intB ys]⟩, ?_, ?_⟩
  · conv => whnf
    refine ⟨fun g => ?_, fun g => ?_⟩
    · have g : J ≠ 0 := bne_t g
      rw [if_neg g] at hKJ
      conv => whnf
      rw [nmul 2 J, nwrap32 (n := 2 * J) (by omega), nsub (a := 2 * J) (b := 1) (by omega), nwrap32 (n := 2 * J - 1) (by omega)]
      refine CallsA.lift (H0 := []) [] rfl trivial rfl (isqrtW w0 (v := 2 * J - 1) (by omega) (by omega)) ?_
      rintro _ _ ⟨rfl, rfl⟩
      conv => whnf
      have hq : isq ((len (2 * J - 1) - 1) / 2) (2 * J - 1) 0 ≤ 2 * K := by omega
      generalize isq ((len (2 * J - 1) - 1) / 2) (2 * J - 1) 0 = q at *
      refine ⟨(), [0], ⟨rfl, ⟨rfl, rfl, trivial⟩, rfl⟩, rfl, eq_i64 ?_, rfl, rfl, rfl, trivial⟩
      rw [nadd q 1, nwrap32 (n := q + 1) (by omega), nshr32 (q + 1) 1 (by omega), Nat.pow_one, ← hKJ, nwrapi (by omega)]
    · have g : J = 0 := bne_f g
      rw [if_pos g] at hKJ
      conv => whnf
      exact ⟨(), [0], ⟨rfl, ⟨rfl, rfl, trivial⟩, rfl⟩, rfl, eq_i64 (by rw [hKJ]), rfl, rfl, rfl, trivial⟩
  rintro ⟨⟩
  conv => whnf
  refine Or.inr ⟨Unit, fun _ => ⟨[(0, .o (.c (.sli 0 1 o n c))), (1, .o (.c (.val (.int .i64 K)))), (2, .o (.c (.val (.int .u32 (J - uu 2 K : Nat))))), (7, .o (.c (.val (.int .i64 (maskOf N))))), (8, .o (.c (.val (.int .i64 k))))], [intB ys]⟩, ?_, ?_⟩
  · conv => whnf
    refine ⟨fun g => ?_, fun g => ?_⟩
    · have g : K ≠ 0 := bne_t g
      conv => whnf
      refine CallsA.lift (H0 := []) [] rfl trivial rfl (cU3W w0 K (by omega) (by omega)) ?_
      rintro _ _ ⟨rfl, rfl⟩
      conv => whnf
      refine ⟨(), [0], ⟨rfl, ⟨rfl, rfl, trivial⟩, rfl⟩, rfl, rfl, eq_u32 ?_, rfl, rfl, trivial⟩
      rw [nsub h2, nwrap32 (by omega)]
    · have g : K = 0 := bne_f g
      conv => whnf
      refine ⟨(), [0], ⟨rfl, ⟨rfl, rfl, trivial⟩, rfl⟩, rfl, rfl, eq_u32 ?_, rfl, rfl, trivial⟩
      rw [g, uu_zero, Nat.sub_zero]
  rintro ⟨⟩
  conv => whnf
  rw [nsub hKk, nwrapi (n := k - K) (by omega)]
  refine ⟨by omega, ?_⟩
  conv => whnf
  refine ⟨_, sgn N (k - K), hy, ?_, ?_⟩
  · show [CV.val (.int .i64 (sgn N (k - K)))] = [CV.val (.int .i64 (IntKind.i64.wrap (((BitVec.ofInt IntKind.i64.bits (IntKind.i64.wrap (((k - K : Nat) : Int) + maskOf N)) ^^^ BitVec.ofInt IntKind.i64.bits (maskOf N)).toNat : Nat) : Int)))]
    rw [xor_mask N (by omega)]
  conv => whnf
  refine ⟨by omega, fun hc => ?_, fun h _ => absurd h (by omega)⟩
  conv => whnf
  refine (decode2S w0 (ys := ys.set o (sgn N (k - K))) (o := o + 1) (n := n - 1) (k := K) (i := J - uu 2 K) (by rw [List.length_set]; omega) (by omega) (by omega) h4).mono ?_
  rintro _ _ ⟨rfl, rfl⟩
  conv => whnf
  exact Or.inl ⟨rfl, rfl⟩

theorem decode3V (w0 : World) {ys : List Int} {n k i : Nat} (ho : n = ys.length) (hn : 3 ≤ n) (hk : k ≤ 20) (hi : i < vv 3 k) :
    CallsA Tryd.prog w0 79 [.c (.vec 0 n), .c (.val (.int .i64 k)), .c (.val (.int .u32 i))] [intB ys] fun r H => r = .t [] ∧ H = [intB (setAll ys 0 (vecOf 3 k i))] := by
  have hy : ys[0]? = some (ys[0]'(by omega)) := List.getElem?_eq_getElem (by omega)
  obtain ⟨J, hJ⟩ : ∃ J, J = restOf 2 k i := ⟨_, rfl⟩
  obtain ⟨N, hN⟩ : ∃ N, N = decide (uu 2 (k + 1) ≤ i) := ⟨_, rfl⟩
  obtain ⟨K, hK⟩ : ∃ K, K = kOf 2 k J := ⟨_, rfl⟩
  have h1 := rest_lt hi
  have h2 := rest_next hi
  have hvv : i < uu 2 k + uu 2 (k + 1) := by rw [← vv_uu]; exact hi
  have hu1 : uu 2 k ≤ 841 := uu2_le (by omega)
  have hu2 : uu 2 (k + 1) ≤ 841 := uu2_le (by omega)
  have hvec := vec_cons (m := 2) (k := k) (i := i) rfl
  rw [← hJ] at h1 h2 hvec
  rw [← hK] at h2 hvec
  rw [← hN] at hvec
  obtain ⟨h2, h3, h4⟩ := h2
  have hKk : K ≤ k := by rw [hK]; exact kOf_le _ _ _
  have hJm : J < 841 := by omega
  rw [hvec]
  have hKJ : K = if J = 0 then 0 else (isq ((len (2 * J - 1) - 1) / 2) (2 * J - 1) 0 + 1) / 2 := by
    by_cases c : J = 0
    · rw [if_pos c, hK, c]
      refine kOf_eq (Nat.zero_le _) (by rw [uu_zero]; omega) (by rw [uu_one]; omega)
    · rw [if_neg c, hK]
      obtain ⟨p1, p2, p3⟩ := isq_fact J hJm (by omega)
      generalize (isq ((len (2 * J - 1) - 1) / 2) (2 * J - 1) 0 + 1) / 2 = q at *
      have q21 : q ≠ 21 := by
        rintro rfl
        have : uu 2 21 = 841 := by decide +kernel
        omega
      refine kOf_eq ?_ p3 ?_
      · rcases Nat.lt_or_ge k q with e | e
        · have := uu_mono 2 (show k + 1 ≤ q by omega)
          omega
        · exact e
      · rcases Nat.lt_or_ge J (uu 2 (q + 1)) with e | e
        · exact e
        · have := p1 (q + 1) (by omega) e
          omega
  refine callsA_of_ev c79_ ?_
  conv => whnf
  rw [nadd k 1, nwrapi (n := k + 1) (by omega)]
  refine CallsA.lift (H0 := []) [] rfl trivial rfl (cU3W w0 (k + 1) (by omega) (by omega)) ?_
  rintro _ _ ⟨rfl, rfl⟩
  conv => whnf
  refine Or.inr ⟨Unit, fun _ => ⟨[(0, .o (.c (.vec 0 n))), (1, .o (.c (.val (.int .i64 k)))), (2, .o (.c (.val (.int .u32 J)))), (7, .o (.c (.val (.int .i64 (maskOf N)))))], [intB ys]⟩, ?_, ?_⟩
  · conv => whnf
    refine ⟨fun g => ?_, fun g => ?_⟩
    · have g : uu 2 (k + 1) ≤ i := ge_t g
      conv => whnf
      refine ⟨(), [0], ⟨rfl, ⟨rfl, rfl, trivial⟩, rfl⟩, rfl, rfl, eq_u32 ?_, ?_, trivial⟩
      · rw [nsub g, nwrap32 (by omega), hJ]
        unfold restOf
        rw [if_pos g]
      · have hmk : maskOf N = -1 := by rw [hN, decide_eq_true g]; rfl
        rw [hmk]
        rfl
    · have g : i < uu 2 (k + 1) := ge_f g
      conv => whnf
      refine ⟨(), [0], ⟨rfl, ⟨rfl, rfl, trivial⟩, rfl⟩, rfl, rfl, eq_u32 ?_, ?_, trivial⟩
      · rw [hJ]
        unfold restOf
        rw [if_neg (by omega)]
      · have hmk : maskOf N = ((0 : Nat) : Int) := by rw [hN, decide_eq_false (by omega)]; rfl
        rw [hmk]
        rfl
  rintro ⟨⟩
  conv => whnf
  refine Or.inr ⟨Unit, fun _ => ⟨[(0, .o (.c (.vec 0 n))), (1, .o (.c (.val (.int .i64 K)))), (2, .o (.c (.val (.int .u32 J)))), (7, .o (.c (.val (.int .i64 (maskOf N))))), (8, .o (.c (.val (.int .i64 k))))], [intB ys]⟩, ?_, ?_⟩
  · conv => whnf
    refine ⟨fun g => ?_, fun g => ?_⟩
    · have g : J ≠ 0 := bne_t g
      rw [if_neg g] at hKJ
      conv => whnf
      rw [nmul 2 J, nwrap32 (n := 2 * J) (by omega), nsub (a := 2 * J) (b := 1) (by omega), nwrap32 (n := 2 * J - 1) (by omega)]
      refine CallsA.lift (H0 := []) [] rfl trivial rfl (isqrtW w0 (v := 2 * J - 1) (by omega) (by omega)) ?_
      rintro _ _ ⟨rfl, rfl⟩
      conv => whnf
      have hq : isq ((len (2 * J - 1) - 1) / 2) (2 * J - 1) 0 ≤ 2 * K := by omega
      generalize isq ((len (2 * J - 1) - 1) / 2) (2 * J - 1) 0 = q at *
      refine ⟨(), [0], ⟨rfl, ⟨rfl, rfl, trivial⟩, rfl⟩, rfl, eq_i64 ?_, rfl, rfl, rfl, trivial⟩
      rw [nadd q 1, nwrap32 (n := q + 1) (by omega), nshr32 (q + 1) 1 (by omega), Nat.pow_one, ← hKJ, nwrapi (by omega)]
    · have g : J = 0 := bne_f g
      rw [if_pos g] at hKJ
      conv => whnf
      exact ⟨(), [0], ⟨rfl, ⟨rfl, rfl, trivial⟩, rfl⟩, rfl, eq_i64 (by rw [hKJ]), rfl, rfl, rfl, trivial⟩
  rintro ⟨⟩
  conv => whnf
  refine Or.inr ⟨Unit, fun _ => ⟨[(0, .o (.c (.vec 0 n))), (1, .o (.c (.val (.int .i64 K)))), (2, .o (.c (.val (.int .u32 (J - uu 2 K : Nat))))), (7, .o (.c (.val (.int .i64 (maskOf N))))), (8, .o (.c (.val (.int .i64 k))))], [intB ys]⟩, ?_, ?_⟩
  · conv => whnf
    refine ⟨fun g => ?_, fun g => ?_⟩
    · have g : K ≠ 0 := bne_t g
      conv => whnf
      refine CallsA.lift (H0 := []) [] rfl trivial rfl (cU3W w0 K (by omega) (by omega)) ?_
      rintro _ _ ⟨rfl, rfl⟩
      conv => whnf
      refine ⟨(), [0], ⟨rfl, ⟨rfl, rfl, trivial⟩, rfl⟩, rfl, rfl, eq_u32 ?_, rfl, rfl, trivial⟩
      rw [nsub h2, nwrap32 (by omega)]
    · have g : K = 0 := bne_f g
      conv => whnf
      refine ⟨(), [0], ⟨rfl, ⟨rfl, rfl, trivial⟩, rfl⟩, rfl, rfl, eq_u32 ?_, rfl, rfl, trivial⟩
      rw [g, uu_zero, Nat.sub_zero]
  rintro ⟨⟩
  conv => whnf
  rw [nsub hKk, nwrapi (n := k - K) (by omega)]
  refine ⟨by omega, ?_⟩
  conv => whnf
  refine ⟨_, sgn N (k - K), hy, ?_, ?_⟩
  · show [CV.val (.int .i64 (sgn N (k - K)))] = [CV.val (.int .i64 (IntKind.i64.wrap (((BitVec.ofInt IntKind.i64.bits (IntKind.i64.wrap (((k - K : Nat) : Int) + maskOf N)) ^^^ BitVec.ofInt IntKind.i64.bits (maskOf N)).toNat : Nat) : Int)))]
    rw [xor_mask N (by omega)]
  conv => whnf
  refine ⟨by omega, Or.inl ⟨fun c hc1 hc => ?_, fun h => absurd h (by omega), fun h => absurd h (by omega)⟩⟩
  conv => whnf
  refine (decode2S w0 (ys := ys.set 0 (sgn N (k - K))) (o := 0 + 1) (n := n - 1) (k := K) (i := J - uu 2 K) (by rw [List.length_set]; omega) (by omega) (by omega) h4).mono ?_
  rintro _ _ ⟨rfl, rfl⟩
  conv => whnf
  exact Or.inl ⟨rfl, rfl⟩

theorem decode4S (w0 : World) {ys : List Int} {o n c k i : Nat} (ho : o + 4 ≤ ys.length) (hn : 4 ≤ n) (hk : k ≤ 20) (hi : i < vv 4 k) :
    CallsA Tryd.prog w0 81 [.c (.sli 0 1 o n c), .c (.val (.int .i64 k)), .c (.val (.int .u32 i))] [intB ys] fun r H => r = .t [] ∧ H = [intB (setAll ys o (vecOf 4 k i))] := by
  have hy : ys[o + 0]? = some (ys[o]'(by omega)) := List.getElem?_eq_getElem (by omega)
  obtain ⟨J, hJ⟩ : ∃ J, J = restOf 3 k i := ⟨_, rfl⟩
  obtain ⟨N, hN⟩ : ∃ N, N = decide (uu 3 (k + 1) ≤ i) := ⟨_, rfl⟩
  obtain ⟨K, hK⟩ : ∃ K, K = kOf 3 k J := ⟨_, rfl⟩
  have h1 := rest_lt hi
  have h2 := rest_next hi
  have hvv : i < uu 3 k + uu 3 (k + 1) := by rw [← vv_uu]; exact hi
  have hu1 : uu 3 k ≤ 11521 := uu3_le (by omega)
  have hu2 : uu 3 (k + 1) ≤ 11521 := uu3_le (by omega)
  have hvec := vec_cons (m := 3) (k := k) (i := i) rfl
  rw [← hJ] at h1 h2 hvec
  rw [← hK] at h2 hvec
  rw [← hN] at hvec
  obtain ⟨h2, h3, h4⟩ := h2
  have hKk : K ≤ k := by rw [hK]; exact kOf_le _ _ _
  have hJm : J < 11521 := by omega
  rw [hvec]
  refine callsA_of_ev c81_ ?_
  conv => whnf
  rw [nadd k 1, nwrapi (n := k + 1) (by omega)]
  refine CallsA.lift (H0 := []) [] rfl trivial rfl (cU4W w0 (k + 1) (by omega) (by omega)) ?_
  rintro _ _ ⟨rfl, rfl⟩
  conv => whnf
  refine Or.inr ⟨Unit, fun _ => ⟨[(0, .o (.c (.sli 0 1 o n c))), (1, .o (.c (.val (.int .i64 k)))), (2, .o (.c (.val (.int .u32 J)))), (7, .o (.c (.val (.int .i64 (maskOf N)))))], [intB ys]⟩, ?_, ?_⟩
  · conv => whnf
    refine ⟨fun g => ?_, fun g => ?_⟩
    · have g : uu 3 (k + 1) ≤ i := ge_t g
      conv => whnf
      refine ⟨(), [0], ⟨rfl, ⟨rfl, rfl, trivial⟩, rfl⟩, rfl, rfl, eq_u32 ?_, ?_, trivial⟩
      · rw [nsub g, nwrap32 (by omega), hJ]
        unfold restOf
        rw [if_pos g]
      · have hmk : maskOf N = -1 := by rw [hN, decide_eq_true g]; rfl
        rw [hmk]
        rfl
    · have g : i < uu 3 (k + 1) := ge_f g
      conv => whnf
      refine ⟨(), [0], ⟨rfl, ⟨rfl, rfl, trivial⟩, rfl⟩, rfl, rfl, eq_u32 ?_, ?_, trivial⟩
      · rw [hJ]
        unfold restOf
        rw [if_neg (by omega)]
      · have hmk : maskOf N = ((0 : Nat) : Int) := by rw [hN, decide_eq_false (by omega)]; rfl
        rw [hmk]
        rfl
  rintro ⟨⟩
  conv => whnf
  refine Or.inl ?_
  conv => whnf
  refine ⟨{x : Nat × Nat // x.1 ≤ K + 1 ∧ K ≤ x.2 ∧ x.2 ≤ k}, fun ⟨⟨lo, hh⟩, _⟩ => ⟨[(0, .o (.c (.sli 0 1 o n c))), (2, .o (.c (.val (.int .u32 J)))), (7, .o (.c (.val (.int .i64 (maskOf N))))), (8, .o (.c (.val (.int .i64 k)))), (9, .o (.c (.val (.int .i64 lo)))), (10, .o (.c (.val (.int .i64 hh))))], [intB ys]⟩, fun x => x.1.2 + 2 - x.1.1, ⟨⟨(0, k), Nat.zero_le _, hKk, Nat.le_refl _⟩, [0], ⟨rfl, ⟨rfl, rfl, trivial⟩, rfl⟩, rfl, rfl, rfl, rfl, rfl, rfl, trivial⟩, fun ⟨⟨lo, hh⟩, hlo, hhi, hhk⟩ => ?_⟩
  simp only at hlo hhi hhk
  obtain ⟨mid, hmid⟩ : ∃ mid, mid = (lo + hh) / 2 := ⟨_, rfl⟩
  have hmu : uu 3 mid ≤ 11521 := uu3_le (by omega)
  conv => whnf
  rw [nadd lo hh, nwrapi (n := lo + hh) (by omega), nshri (lo + hh) 1 (by omega), Nat.pow_one, ← hmid]
  refine Or.inr ⟨Unit, fun _ => ⟨[(0, .o (.c (.sli 0 1 o n c))), (1, .o (.c (.val (.int .i64 mid)))), (2, .o (.c (.val (.int .u32 J)))), (6, .o (.c (.val (.int .u32 (uu 3 mid : Nat))))), (7, .o (.c (.val (.int .i64 (maskOf N))))), (8, .o (.c (.val (.int .i64 k)))), (9, .o (.c (.val (.int .i64 lo)))), (10, .o (.c (.val (.int .i64 hh))))], [intB ys]⟩, ?_, ?_⟩
  · conv => whnf
    refine ⟨fun g => ?_, fun g => ?_⟩
    · have g : mid ≠ 0 := bne_t g
      conv => whnf
      refine CallsA.lift (H0 := []) [] rfl trivial rfl (cU4W w0 mid (by omega) (by omega)) ?_
      rintro _ _ ⟨rfl, rfl⟩
      conv => whnf
      exact ⟨(), [0], ⟨rfl, ⟨rfl, rfl, trivial⟩, rfl⟩, rfl, rfl, rfl, rfl, rfl, rfl, rfl, rfl, trivial⟩
    · have g : mid = 0 := bne_f g
      conv => whnf
      exact ⟨(), [0], ⟨rfl, ⟨rfl, rfl, trivial⟩, rfl⟩, rfl, rfl, rfl, eq_u32 (by rw [g, uu_zero]), rfl, rfl, rfl, rfl, trivial⟩
  rintro ⟨⟩
  conv => whnf
  refine ⟨fun g => ?_, fun g => ?_⟩
  · have g : uu 3 mid < J := lt_t g
    have hmK : mid ≤ K := by
      rcases Nat.lt_or_ge K mid with e | e
      · have := uu_mono 3 (show K + 1 ≤ mid by omega)
        omega
      · exact e
    conv => whnf
    refine Or.inl ?_
    conv => whnf
    refine ⟨fun g2 => ?_, fun g2 => ?_⟩
    · have g2 : hh ≤ mid := ge_t g2
      obtain rfl : mid = K := by omega
      conv => whnf
      rw [nsub h2, nwrap32 (n := J - uu 3 mid) (by omega)]
      rw [nsub hKk, nwrapi (n := k - mid) (by omega)]
      refine ⟨by omega, ?_⟩
      conv => whnf
      refine ⟨_, sgn N (k - mid), hy, ?_, ?_⟩
      · show [CV.val (.int .i64 (sgn N (k - mid)))] = [CV.val (.int .i64 (IntKind.i64.wrap (((BitVec.ofInt IntKind.i64.bits (IntKind.i64.wrap (((k - mid : Nat) : Int) + maskOf N)) ^^^ BitVec.ofInt IntKind.i64.bits (maskOf N)).toNat : Nat) : Int)))]
        rw [xor_mask N (by omega)]
      conv => whnf
      refine ⟨by omega, fun hc => ?_, fun h _ => absurd h (by omega)⟩
      conv => whnf
      refine (decode3S w0 (ys := ys.set o (sgn N (k - mid))) (o := o + 1) (n := n - 1) (k := mid) (i := J - uu 3 mid) (by rw [List.length_set]; omega) (by omega) (by omega) h4).mono ?_
      rintro _ _ ⟨rfl, rfl⟩
      conv => whnf
      exact Or.inl ⟨rfl, rfl⟩
    · have g2 : mid < hh := ge_f g2
      conv => whnf
      refine ⟨⟨(mid + 1, hh), by show mid + 1 ≤ K + 1; omega, hhi, hhk⟩, ⟨[0], ⟨rfl, ⟨rfl, rfl, trivial⟩, rfl⟩, rfl, rfl, rfl, rfl, eq_i64 ?_, rfl, trivial⟩, ?_⟩
      · rw [nadd, nwrapi (by omega)]
      · show hh + 2 - (mid + 1) < hh + 2 - lo
        omega
  · have g : J ≤ uu 3 mid := lt_f g
    conv => whnf
    refine ⟨fun g2 => ?_, fun g2 => ?_⟩
    · have g2 : J < uu 3 mid := gt_t g2
      have hmK : K < mid := by
        rcases Nat.lt_or_ge K mid with e | e
        · exact e
        · have := uu_mono 3 e
          omega
      conv => whnf
      refine ⟨⟨(lo, mid - 1), hlo, by show K ≤ mid - 1; omega, by show mid - 1 ≤ k; omega⟩, ⟨[0], ⟨rfl, ⟨rfl, rfl, trivial⟩, rfl⟩, rfl, rfl, rfl, rfl, rfl, eq_i64 ?_, trivial⟩, ?_⟩
      · rw [nsub (by omega), nwrapi (by omega)]
      · show mid - 1 + 2 - lo < hh + 2 - lo
        omega
    · have g2 : uu 3 mid ≤ J := gt_f g2
      have hmK : mid = K := by
        have e1 := uu_step 3 mid
        have e2 : 1 ≤ vv 3 mid := vv_pos 2 mid
        rcases Nat.lt_trichotomy mid K with e | e | e
        · have := uu_mono 3 (show mid + 1 ≤ K by omega)
          omega
        · exact e
        · have := uu_mono 3 (show K + 1 ≤ mid by omega)
          omega
      subst hmK
      conv => whnf
      rw [nsub h2, nwrap32 (n := J - uu 3 mid) (by omega)]
      rw [nsub hKk, nwrapi (n := k - mid) (by omega)]
      refine ⟨by omega, ?_⟩
      conv => whnf
      refine ⟨_, sgn N (k - mid), hy, ?_, ?_⟩
      · show [CV.val (.int .i64 (sgn N (k - mid)))] = [CV.val (.int .i64 (IntKind.i64.wrap (((BitVec.ofInt IntKind.i64.bits (IntKind.i64.wrap (((k - mid : Nat) : Int) + maskOf N)) ^^^ BitVec.ofInt IntKind.i64.bits (maskOf N)).toNat : Nat) : Int)))]
        rw [xor_mask N (by omega)]
      conv => whnf
      refine ⟨by omega, fun hc => ?_, fun h _ => absurd h (by omega)⟩
      conv => whnf
      refine (decode3S w0 (ys := ys.set o (sgn N (k - mid))) (o := o + 1) (n := n - 1) (k := mid) (i := J - uu 3 mid) (by rw [List.length_set]; omega) (by omega) (by omega) h4).mono ?_
      rintro _ _ ⟨rfl, rfl⟩
      conv => whnf
      exact Or.inl ⟨rfl, rfl⟩

theorem decode4V (w0 : World) {ys : List Int} {n k i : Nat} (ho : n = ys.length) (hn : 4 ≤ n) (hk : k ≤ 20) (hi : i < vv 4 k) :
    CallsA Tryd.prog w0 81 [.c (.vec 0 n), .c (.val (.int .i64 k)), .c (.val (.int .u32 i))] [intB ys] fun r H => r = .t [] ∧ H = [intB (setAll ys 0 (vecOf 4 k i))] := by
  have hy : ys[0]? = some (ys[0]'(by omega)) := List.getElem?_eq_getElem (by omega)
  obtain ⟨J, hJ⟩ : ∃ J, J = restOf 3 k i := ⟨_, rfl⟩
  obtain ⟨N, hN⟩ : ∃ N, N = decide (uu 3 (k + 1) ≤ i) := ⟨_, rfl⟩
  obtain ⟨K, hK⟩ : ∃ K, K = kOf 3 k J := ⟨_, rfl⟩
  have h1 := rest_lt hi
  have h2 := rest_next hi
  have hvv : i < uu 3 k + uu 3 (k + 1) := by rw [← vv_uu]; exact hi
  have hu1 : uu 3 k ≤ 11521 := uu3_le (by omega)
  have hu2 : uu 3 (k + 1) ≤ 11521 := uu3_le (by omega)
  have hvec := vec_cons (m := 3) (k := k) (i := i) rfl
  rw [← hJ] at h1 h2 hvec
  rw [← hK] at h2 hvec
  rw [← hN] at hvec
  obtain ⟨h2, h3, h4⟩ := h2
  have hKk : K ≤ k := by rw [hK]; exact kOf_le _ _ _
  have hJm : J < 11521 := by omega
  rw [hvec]
  refine callsA_of_ev c81_ ?_
  conv => whnf
  rw [nadd k 1, nwrapi (n := k + 1) (by omega)]
  refine CallsA.lift (H0 := []) [] rfl trivial rfl (cU4W w0 (k + 1) (by omega) (by omega)) ?_
  rintro _ _ ⟨rfl, rfl⟩
  conv => whnf
  refine Or.inr ⟨Unit, fun _ => ⟨[(0, .o (.c (.vec 0 n))), (1, .o (.c (.val (.int .i64 k)))), (2, .o (.c (.val (.int .u32 J)))), (7, .o (.c (.val (.int .i64 (maskOf N)))))], [intB ys]⟩, ?_, ?_⟩
  · conv => whnf
    refine ⟨fun g => ?_, fun g => ?_⟩
    · have g : uu 3 (k + 1) ≤ i := ge_t g
      conv => whnf
      refine ⟨(), [0], ⟨rfl, ⟨rfl, rfl, trivial⟩, rfl⟩, rfl, rfl, eq_u32 ?_, ?_, trivial⟩
      · rw [nsub g, nwrap32 (by omega), hJ]
        unfold restOf
        rw [if_pos g]
      · have hmk : maskOf N = -1 := by rw [hN, decide_eq_true g]; rfl
        rw [hmk]
        rfl
    · have g : i < uu 3 (k + 1) := ge_f g
      conv => whnf
      refine ⟨(), [0], ⟨rfl, ⟨rfl, rfl, trivial⟩, rfl⟩, rfl, rfl, eq_u32 ?_, ?_, trivial⟩
      · rw [hJ]
        unfold restOf
        rw [if_neg (by omega)]
      · have hmk : maskOf N = ((0 : Nat) : Int) := by rw [hN, decide_eq_false (by omega)]; rfl
        rw [hmk]
        rfl
  rintro ⟨⟩
  conv => whnf
  refine Or.inl ?_
  conv => whnf
  refine ⟨{x : Nat × Nat // x.1 ≤ K + 1 ∧ K ≤ x.2 ∧ x.2 ≤ k}, fun ⟨⟨lo, hh⟩, _⟩ => ⟨[(0, .o (.c (.vec 0 n))), (2, .o (.c (.val (.int .u32 J)))), (7, .o (.c (.val (.int .i64 (maskOf N))))), (8, .o (.c (.val (.int .i64 k)))), (9, .o (.c (.val (.int .i64 lo)))), (10, .o (.c (.val (.int .i64 hh))))], [intB ys]⟩, fun x => x.1.2 + 2 - x.1.1, ⟨⟨(0, k), Nat.zero_le _, hKk, Nat.le_refl _⟩, [0], ⟨rfl, ⟨rfl, rfl, trivial⟩, rfl⟩, rfl, rfl, rfl, rfl, rfl, rfl, trivial⟩, fun ⟨⟨lo, hh⟩, hlo, hhi, hhk⟩ => ?_⟩
  simp only at hlo hhi hhk
  obtain ⟨mid, hmid⟩ : ∃ mid, mid = (lo + hh) / 2 := ⟨_, rfl⟩
  have hmu : uu 3 mid ≤ 11521 := uu3_le (by omega)
  conv => whnf
  rw [nadd lo hh, nwrapi (n := lo + hh) (by omega), nshri (lo + hh) 1 (by omega), Nat.pow_one, ← hmid]
  refine Or.inr ⟨Unit, fun _ => ⟨[(0, .o (.c (.vec 0 n))), (1, .o (.c (.val (.int .i64 mid)))), (2, .o (.c (.val (.int .u32 J)))), (6, .o (.c (.val (.int .u32 (uu 3 mid : Nat))))), (7, .o (.c (.val (.int .i64 (maskOf N))))), (8, .o (.c (.val (.int .i64 k)))), (9, .o (.c (.val (.int .i64 lo)))), (10, .o (.c (.val (.int .i64 hh))))], [intB ys]⟩, ?_, ?_⟩
  · conv => whnf
    refine ⟨fun g => ?_, fun g => ?_⟩
    · have g : mid ≠ 0 := bne_t g
      conv => whnf
      refine CallsA.lift (H0 := []) [] rfl trivial rfl (cU4W w0 mid (by omega) (by omega)) ?_
      rintro _ _ ⟨rfl, rfl⟩
      conv => whnf
      exact ⟨(), [0], ⟨rfl, ⟨rfl, rfl, trivial⟩, rfl⟩, rfl, rfl, rfl, rfl, rfl, rfl, rfl, rfl, trivial⟩
    · have g : mid = 0 := bne_f g
      conv => whnf
      exact ⟨(), [0], ⟨rfl, ⟨rfl, rfl, trivial⟩, rfl⟩, rfl, rfl, rfl, eq_u32 (by rw [g, uu_zero]), rfl, rfl, rfl, rfl, trivial⟩
  rintro ⟨⟩
  conv => whnf
  refine ⟨fun g => ?_, fun g => ?_⟩
  · have g : uu 3 mid < J := lt_t g
    have hmK : mid ≤ K := by
      rcases Nat.lt_or_ge K mid with e | e
      · have := uu_mono 3 (show K + 1 ≤ mid by omega)
        omega
      · exact e
    conv => whnf
    refine Or.inl ?_
    conv => whnf
    refine ⟨fun g2 => ?_, fun g2 => ?_⟩
    · have g2 : hh ≤ mid := ge_t g2
      obtain rfl : mid = K := by omega
      conv => whnf
      rw [nsub h2, nwrap32 (n := J - uu 3 mid) (by omega)]
      rw [nsub hKk, nwrapi (n := k - mid) (by omega)]
      refine ⟨by omega, ?_⟩
      conv => whnf
      refine ⟨_, sgn N (k - mid), hy, ?_, ?_⟩
      · show [CV.val (.int .i64 (sgn N (k - mid)))] = [CV.val (.int .i64 (IntKind.i64.wrap (((BitVec.ofInt IntKind.i64.bits (IntKind.i64.wrap (((k - mid : Nat) : Int) + maskOf N)) ^^^ BitVec.ofInt IntKind.i64.bits (maskOf N)).toNat : Nat) : Int)))]
        rw [xor_mask N (by omega)]
      conv => whnf
      refine ⟨by omega, Or.inl ⟨fun c hc1 hc => ?_, fun h => absurd h (by omega), fun h => absurd h (by omega)⟩⟩
      conv => whnf
      refine (decode3S w0 (ys := ys.set 0 (sgn N (k - mid))) (o := 0 + 1) (n := n - 1) (k := mid) (i := J - uu 3 mid) (by rw [List.length_set]; omega) (by omega) (by omega) h4).mono ?_
      rintro _ _ ⟨rfl, rfl⟩
      conv => whnf
      exact Or.inl ⟨rfl, rfl⟩
    · have g2 : mid < hh := ge_f g2
      conv => whnf
      refine ⟨⟨(mid + 1, hh), by show mid + 1 ≤ K + 1; omega, hhi, hhk⟩, ⟨[0], ⟨rfl, ⟨rfl, rfl, trivial⟩, rfl⟩, rfl, rfl, rfl, rfl, eq_i64 ?_, rfl, trivial⟩, ?_⟩
      · rw [nadd, nwrapi (by omega)]
      · show hh + 2 - (mid + 1) < hh + 2 - lo
        omega
  · have g : J ≤ uu 3 mid := lt_f g
    conv => whnf
    refine ⟨fun g2 => ?_, fun g2 => ?_⟩
    · have g2 : J < uu 3 mid := gt_t g2
      have hmK : K < mid := by
        rcases Nat.lt_or_ge K mid with e | e
        · exact e
        · have := uu_mono 3 e
          omega
      conv => whnf
      refine ⟨⟨(lo, mid - 1), hlo, by show K ≤ mid - 1; omega, by show mid - 1 ≤ k; omega⟩, ⟨[0], ⟨rfl, ⟨rfl, rfl, trivial⟩, rfl⟩, rfl, rfl, rfl, rfl, rfl, eq_i64 ?_, trivial⟩, ?_⟩
      · rw [nsub (by omega), nwrapi (by omega)]
      · show mid - 1 + 2 - lo < hh + 2 - lo
        omega
    · have g2 : uu 3 mid ≤ J := gt_f g2
      have hmK : mid = K := by
        have e1 := uu_step 3 mid
        have e2 : 1 ≤ vv 3 mid := vv_pos 2 mid
        rcases Nat.lt_trichotomy mid K with e | e | e
        · have := uu_mono 3 (show mid + 1 ≤ K by omega)
          omega
        · exact e
        · have := uu_mono 3 (show K + 1 ≤ mid by omega)
          omega
      subst hmK
      conv => whnf
      rw [nsub h2, nwrap32 (n := J - uu 3 mid) (by omega)]
      rw [nsub hKk, nwrapi (n := k - mid) (by omega)]
      refine ⟨by omega, ?_⟩
      conv => whnf
      refine ⟨_, sgn N (k - mid), hy, ?_, ?_⟩
      · show [CV.val (.int .i64 (sgn N (k - mid)))] = [CV.val (.int .i64 (IntKind.i64.wrap (((BitVec.ofInt IntKind.i64.bits (IntKind.i64.wrap (((k - mid : Nat) : Int) + maskOf N)) ^^^ BitVec.ofInt IntKind.i64.bits (maskOf N)).toNat : Nat) : Int)))]
        rw [xor_mask N (by omega)]
      conv => whnf
      refine ⟨by omega, Or.inl ⟨fun c hc1 hc => ?_, fun h => absurd h (by omega), fun h => absurd h (by omega)⟩⟩
      conv => whnf
      refine (decode3S w0 (ys := ys.set 0 (sgn N (k - mid))) (o := 0 + 1) (n := n - 1) (k := mid) (i := J - uu 3 mid) (by rw [List.length_set]; omega) (by omega) (by omega) h4).mono ?_
      rintro _ _ ⟨rfl, rfl⟩
      conv => whnf
      exact Or.inl ⟨rfl, rfl⟩
end Go.Proofs.YtkomikpfnogjcaaDoor
