/- The vector of a number, by the reference. -/
import Derived.Test.YtkomikpfnogjcaaDoorPuK
namespace Go.Proofs.YtkomikpfnogjcaaDoor
open Go Go.Vc
set_option maxRecDepth 100000
set_option maxHeartbeats 8000000

structure pvSt (n k0 i0 : Nat) (j k i : Nat) (pre : List Int) : Prop where
  pl : pre.length = j
  jn : j ≤ n
  eq : vecOf n k0 i0 = pre ++ vecOf (n - j) k i
  lt : i < vv (n - j) k
  kk : k ≤ k0
theorem flat_rep64 (m : Nat) : flat (encI .i64) [] (List.replicate m 0) = List.replicate m (.val (.int .i64 ((0 : Nat) : Int))) := by
  induction m with
  | zero => rfl
  | succ m ih => rw [List.replicate_succ, List.replicate_succ, ← ih]; rfl
theorem sPulseVectorW (w0 : World) {n k0 i0 : Nat} (hn : 1 ≤ n) (hn2 : n ≤ 20) (hk0 : k0 ≤ 20) (hi0 : i0 < vv n k0) (hv : vv n k0 < 4294967296) :
    CallsA Tryd.prog w0 12 [.c (.val (.int .i64 n)), .c (.val (.int .i64 k0)), .c (.val (.int .u32 i0))] [] fun r H => r = .t [.c (.vec 0 n), .c (.val (.int .i64 ((1 : Nat) : Int)))] ∧ H = [intB (vecOf n k0 i0)] := by
  refine callsA_of_ev c12_ ?_
  conv => whnf
  refine (sCountW w0 (n := n) (k := k0) hn (by omega) (by omega)).mono ?_
  rintro _ _ ⟨rfl, ⟨hc, rfl⟩ | ⟨hc, rfl⟩⟩
  · unfold vcap at hc
    omega
  rw [vcap_vv hv]
  conv => whnf
  refine Or.inl ?_
  conv => whnf
  refine ⟨fun h => absurd h (by decide), fun _ => ?_⟩
  conv => whnf
  refine ⟨fun h => absurd (ge_t h) (by omega), fun _ => ?_⟩
  conv => whnf
  rw [nwrap64 (n := i0) (by omega)]
  refine ⟨⟨by omega, by omega, by omega, by omega, by omega⟩, ?_⟩
  conv => whnf
  refine ⟨Int, encI .i64, [], 0, fun _ => rfl, rfl, ?_⟩
  conv => whnf
  refine Or.inl ?_
  conv => whnf
  rw [Int.toNat_natCast]
  refine ⟨{x : Nat × Nat × Nat × List Int // pvSt n k0 i0 x.1 x.2.1 x.2.2.1 x.2.2.2}, fun ⟨⟨j, k, i, pre⟩, _⟩ => ⟨[(0, .o (.c (.val (.int .i64 n)))), (1, .o (.c (.val (.int .i64 k)))), (10, .o (.c (.val (.int .u64 i)))), (11, .o (.c (.vec 0 n))), (39, .o (.c (.val (.int .i64 n)))), (40, .o (.c (.val (.int .i64 j))))], [intB (pre ++ List.replicate (n - j) 0)]⟩, fun x => n - x.1.1,
    ⟨⟨(0, k0, i0, []), ⟨rfl, by omega, rfl, hi0, Nat.le_refl _⟩⟩, [0], ⟨rfl, ⟨rfl, rfl, trivial⟩, rfl⟩, rfl, rfl, rfl, rfl, rfl, rfl, trivial⟩, fun ⟨⟨j, k, i, pre⟩, hst⟩ => ?_⟩
  obtain ⟨hpl, hjn, heq, hlt, hkk⟩ := hst
  simp only at hpl hjn heq hlt hkk
  conv => whnf
  refine ⟨fun h3 => ?_, fun h3 => ?_⟩
  · have h3 : j < n := lt_t h3
    obtain ⟨m, hm⟩ : ∃ m, m = n - 1 - j := ⟨_, rfl⟩
    have hnm : n - j = m + 1 := by omega
    rw [hnm] at heq hlt
    have hvm : vv (m + 1) k < 4294967296 := Nat.lt_of_le_of_lt (Nat.le_trans (vv_upm m hkk) (vv_leftm (by omega) k0)) hv
    have hvm2 : ∀ z, z ≤ k → vv m z < 4294967296 := by
      intro z hz
      exact Nat.lt_of_le_of_lt (Nat.le_trans (vv_left m z) (vv_upm m hz)) hvm
    have hub := vv_uu m k
    have hust := uu_step m k
    obtain ⟨J, hJ⟩ : ∃ J, J = restOf m k i := ⟨_, rfl⟩
    obtain ⟨N, hN⟩ : ∃ N, N = decide (uu m (k + 1) ≤ i) := ⟨_, rfl⟩
    obtain ⟨K, hK⟩ : ∃ K, K = kOf m k J := ⟨_, rfl⟩
    have h1 := rest_lt hlt
    have h2 := rest_next hlt
    have hvec := vec_cons (m := m) (k := k) (i := i) rfl
    rw [← hJ] at h1 h2 hvec
    rw [← hK] at h2 hvec
    rw [← hN] at hvec
    obtain ⟨h2, h3', h4⟩ := h2
    have hKk : K ≤ k := by rw [hK]; exact kOf_le _ _ _
    rw [hvec] at heq
    have hkvm := hvm2 k (Nat.le_refl _)
    conv => whnf
    refine Or.inl ?_
    conv => whnf
    rw [nsub (a := n) (b := j) (by omega), nwrapi (n := n - j) (by omega), nsub (a := n - j) (b := 1) (by omega), nwrapi (n := n - j - 1) (by omega), show n - j - 1 = m by omega]
    refine CallsA.lift (H0 := []) [] rfl trivial rfl (vectorsW w0 (n := m) (k := k) (by omega) (by omega)) ?_
    rintro _ _ ⟨rfl, rfl⟩
    conv => whnf
    rw [nsub (a := n) (b := j) (by omega), nwrapi (n := n - j) (by omega), hnm]
    refine CallsA.lift (H0 := []) [] rfl trivial rfl (vectorsW w0 (n := m + 1) (k := k) (by omega) (by omega)) ?_
    rintro _ _ ⟨rfl, rfl⟩
    rw [vcap_vv hvm, vcap_vv hkvm]
    conv => whnf
    rw [nadd (vv m k) (vv (m + 1) k), nwrap64 (n := vv m k + vv (m + 1) k) (by omega), ntdiv (vv m k + vv (m + 1) k) 2, nwrap64 (n := (vv m k + vv (m + 1) k) / 2) (by omega), half_uu]
    refine Or.inr ⟨Unit, fun _ => ⟨[(0, .o (.c (.val (.int .i64 n)))), (1, .o (.c (.val (.int .i64 k)))), (10, .o (.c (.val (.int .u64 J)))), (11, .o (.c (.vec 0 n))), (12, .o (.c (.val (.int .i64 j)))), (13, .o (.c (.val (.int .u64 (vv m k : Nat))))), (17, .o (.c (.val (.int .u64 (uu m (k + 1) : Nat))))), (18, .o (.c (.val (.int .i64 (sgn N 1))))), (39, .o (.c (.val (.int .i64 n)))), (40, .o (.c (.val (.int .i64 j))))], [intB (pre ++ List.replicate (m + 1) 0)]⟩, ?_, ?_⟩
    · conv => whnf
      refine ⟨fun g => ?_, fun g => ?_⟩
      · have g : uu m (k + 1) ≤ i := ge_t g
        conv => whnf
        refine ⟨(), [0], ⟨rfl, ⟨rfl, rfl, trivial⟩, rfl⟩, rfl, rfl, eq_u64 ?_, rfl, rfl, rfl, rfl, ?_, rfl, rfl, trivial⟩
        · rw [nsub g, nwrap64 (by omega), hJ]
          unfold restOf
          rw [if_pos g]
        · rw [hN, decide_eq_true g]
          rfl
      · have g : i < uu m (k + 1) := ge_f g
        conv => whnf
        refine ⟨(), [0], ⟨rfl, ⟨rfl, rfl, trivial⟩, rfl⟩, rfl, rfl, eq_u64 ?_, rfl, rfl, rfl, rfl, ?_, rfl, rfl, trivial⟩
        · rw [hJ]
          unfold restOf
          rw [if_neg (by omega)]
        · have hNf : N = false := by rw [hN]; exact decide_eq_false (by omega)
          rw [hNf]
          rfl
    rintro ⟨⟩
    conv => whnf
    rw [nsub (a := uu m (k + 1)) (b := vv m k) (by omega), nwrap64 (n := uu m (k + 1) - vv m k) (by omega), show uu m (k + 1) - vv m k = uu m k by omega]
    refine Or.inl ?_
    conv => whnf
    refine ⟨{q : Nat // K ≤ q ∧ q ≤ k}, fun ⟨q, _⟩ => ⟨[(0, .o (.c (.val (.int .i64 n)))), (1, .o (.c (.val (.int .i64 q)))), (10, .o (.c (.val (.int .u64 J)))), (11, .o (.c (.vec 0 n))), (12, .o (.c (.val (.int .i64 j)))), (17, .o (.c (.val (.int .u64 (uu m q : Nat))))), (18, .o (.c (.val (.int .i64 (sgn N 1))))), (19, .o (.c (.val (.int .i64 k)))), (39, .o (.c (.val (.int .i64 n)))), (40, .o (.c (.val (.int .i64 j))))], [intB (pre ++ List.replicate (m + 1) 0)]⟩, fun q => q.1,
      ⟨⟨k, hKk, Nat.le_refl _⟩, [0], ⟨rfl, ⟨rfl, rfl, trivial⟩, rfl⟩, rfl, rfl, rfl, rfl, rfl, rfl, rfl, rfl, rfl, rfl, trivial⟩, fun ⟨q, hq1, hq2⟩ => ?_⟩
    have hmq := uu_mono m (show q ≤ k + 1 by omega)
    conv => whnf
    refine ⟨fun g => ?_, fun g => ?_⟩
    · have g : J < uu m q := gt_t g
      have hKq : K < q := by
        rcases Nat.lt_or_ge K q with e | e
        · exact e
        · have := uu_mono m e
          omega
      have hsz := uu_step m (q - 1)
      rw [show q - 1 + 1 = q by omega] at hsz
      conv => whnf
      rw [nsub (a := q) (b := 1) (by omega), nwrapi (n := q - 1) (by omega), nsub (a := n) (b := j) (by omega), nwrapi (n := n - j) (by omega), nsub (a := n - j) (b := 1) (by omega), nwrapi (n := n - j - 1) (by omega), show n - j - 1 = m by omega]
      refine CallsA.lift (H0 := []) [] rfl trivial rfl (vectorsW w0 (n := m) (k := q - 1) (by omega) (by omega)) ?_
      rintro _ _ ⟨rfl, rfl⟩
      rw [vcap_vv (hvm2 (q - 1) (by omega))]
      conv => whnf
      refine ⟨⟨q - 1, by omega, by omega⟩, ⟨[0], ⟨rfl, ⟨rfl, rfl, trivial⟩, rfl⟩, rfl, rfl, rfl, rfl, rfl, eq_u64 ?_, rfl, rfl, rfl, rfl, trivial⟩, ?_⟩
      · rw [nsub (by omega), nwrap64 (by omega), show uu m q - vv m (q - 1) = uu m (q - 1) by omega]
      · show q - 1 < q
        omega
    · have g : uu m q ≤ J := gt_f g
      have hqK : q = K := by
        rcases Nat.lt_or_ge K q with e | e
        · have := uu_mono m (show K + 1 ≤ q by omega)
          omega
        · omega
      subst hqK
      have hyj : (pre ++ List.replicate (m + 1) 0)[j]? = some 0 := by
        rw [List.getElem?_append_right (by omega), hpl, Nat.sub_self, List.getElem?_replicate, if_pos (by omega)]
      conv => whnf
      rw [nsub hKk, nwrapi (n := k - q) (by omega)]
      refine ⟨by omega, ?_⟩
      conv => whnf
      refine ⟨_, sgn N (k - q), hyj, ?_, ?_⟩
      · show [CV.val (.int .i64 (sgn N (k - q)))] = [CV.val (.int .i64 (IntKind.i64.wrap (sgn N 1 * ((k - q : Nat) : Int))))]
        have : IntKind.i64.wrap (sgn N 1 * ((k - q : Nat) : Int)) = sgn N (k - q) := by
          rw [IntKind.wrap_i64]
          unfold sgn
          split <;> omega
        rw [this]
      conv => whnf
      have hset : (pre ++ List.replicate (m + 1) 0).set j (sgn N (k - q)) = (pre ++ [sgn N (k - q)]) ++ List.replicate (n - (j + 1)) 0 := by
        rw [show m + 1 = (n - (j + 1)) + 1 by omega, List.replicate_succ, set_mid hpl, List.append_assoc]
        rfl
      rw [nsub (a := J) (b := uu m q) g, nwrap64 (n := J - uu m q) (by omega)]
      refine ⟨⟨(j + 1, q, J - uu m q, pre ++ [sgn N (k - q)]), ⟨by rw [List.length_append, hpl]; rfl, by show j + 1 ≤ n; omega, ?_, ?_, by show q ≤ k0; omega⟩⟩, ⟨[0], ⟨rfl, ⟨?_, rfl, trivial⟩, rfl⟩, rfl, rfl, rfl, rfl, rfl, eq_i64 ?_, trivial⟩, ?_⟩
      · rw [heq, show n - (j + 1) = m by omega, List.append_assoc]
        rfl
      · rw [show n - (j + 1) = m by omega]
        exact h4
      · show some (intB ((pre ++ List.replicate (m + 1) 0).set j (sgn N (k - q)))) = some (intB ((pre ++ [sgn N (k - q)]) ++ List.replicate (n - (j + 1)) 0))
        rw [hset]
      · rw [nadd, nwrapi (by omega)]
      · show n - (j + 1) < n - j
        omega
  · have h3 : n ≤ j := lt_f h3
    obtain rfl : j = n := by omega
    rw [Nat.sub_self] at heq hlt
    conv => whnf
    refine Or.inl ⟨rfl, ?_⟩
    rw [Nat.sub_self, heq]
    rfl
end Go.Proofs.YtkomikpfnogjcaaDoor
