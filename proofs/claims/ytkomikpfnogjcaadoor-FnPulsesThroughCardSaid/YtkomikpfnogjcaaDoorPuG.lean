/- A vector from its number: any places. -/
import Derived.Test.YtkomikpfnogjcaaDoorPuF
namespace Go.Proofs.YtkomikpfnogjcaaDoor
open Go Go.Vc
set_option maxRecDepth 100000
set_option maxHeartbeats 4000000

theorem vv_left (n k : Nat) : vv n k ≤ vv (n + 1) k := by
  cases k with
  | zero => rw [vv_zero, vv_zero]; exact Nat.le_refl _
  | succ k =>
    show vv n (k + 1) ≤ vv n (k + 1) + vv (n + 1) k + vv n k
    omega
theorem vv_leftm {n m : Nat} (h : n ≤ m) (k : Nat) : vv n k ≤ vv m k := by
  induction m with
  | zero => rw [show n = 0 by omega]; exact Nat.le_refl _
  | succ m ih =>
    rcases Nat.lt_or_ge n (m + 1) with c | c
    · exact Nat.le_trans (ih (by omega)) (vv_left m k)
    · rw [show n = m + 1 by omega]
      exact Nat.le_refl _
theorem vv_up (n k : Nat) : vv (n + 1) k ≤ vv (n + 1) (k + 1) := by
  show vv (n + 1) k ≤ vv n (k + 1) + vv (n + 1) k + vv n k
  omega
theorem vv_upm (n : Nat) {a b : Nat} (h : a ≤ b) : vv (n + 1) a ≤ vv (n + 1) b := by
  induction b with
  | zero => rw [show a = 0 by omega]; exact Nat.le_refl _
  | succ b ih =>
    rcases Nat.lt_or_ge a (b + 1) with c | c
    · exact Nat.le_trans (ih (by omega)) (vv_up n b)
    · rw [show a = b + 1 by omega]
      exact Nat.le_refl _
theorem um_uu {m k x : Nat} (h : vv (m + 1) k < 4294967296) (hx : x ≤ k + 1) : um m x = uu m x := by
  unfold um
  have h1 := uu_mono m hx
  have h2 := vv_uu m k
  exact Nat.mod_eq_of_lt (by omega)
theorem prevF_ext {f g : Nat → Nat} : ∀ {x : Nat}, (∀ y, y ≤ x → f y = g y) → prevF f x = prevF g x
  | 0, _ => rfl
  | x + 1, h => by
    show ((f (x + 1) + 4294967296 - f x) % 4294967296 + 4294967296 - prevF f x) % 4294967296 = ((g (x + 1) + 4294967296 - g x) % 4294967296 + 4294967296 - prevF g x) % 4294967296
    rw [h (x + 1) (Nat.le_refl _), h x (by omega), prevF_ext fun y hy => h y (by omega)]
theorem set_mid {pre rest : List Int} {x y : Int} {j : Nat} (h : pre.length = j) : (pre ++ x :: rest).set j y = pre ++ y :: rest := by
  subst h
  rw [List.set_append_right _ _ (Nat.le_refl _), Nat.sub_self]
  rfl
theorem setAll_mid : ∀ {l pre rest : List Int} {j : Nat}, pre.length = j → rest.length = l.length → setAll (pre ++ rest) j l = pre ++ l
  | [], pre, rest, j, _, h2 => by
    rw [List.length_eq_zero_iff.1 h2]
    rfl
  | x :: l, pre, [], j, _, h2 => by cases h2
  | x :: l, pre, y :: rest, j, h1, h2 => by
    show setAll ((pre ++ y :: rest).set j x) (j + 1) l = _
    have h3 : rest.length = l.length := Nat.succ.inj h2
    rw [set_mid h1, show pre ++ x :: rest = (pre ++ [x]) ++ rest by rw [List.append_assoc]; rfl, setAll_mid (by rw [List.length_append, h1]; rfl) h3, List.append_assoc]
    rfl
structure cdSt (n k0 i0 : Nat) (j k i : Nat) (pre : List Int) (f : Nat → Nat) : Prop where
  pl : pre.length = j
  jn : j + 4 ≤ n
  eq : vecOf n k0 i0 = pre ++ vecOf (n - j) k i
  lt : i < vv (n - j) k
  kk : k ≤ k0
  fl : ∀ x, f x < 4294967296
  fe : ∀ x, x < k + 2 → f x = um (n - 1 - j) x

theorem cwrsDecodeW (w0 : World) {T : TypeId} {n k0 i0 : Nat} (hn : 5 ≤ n) (hn2 : n ≤ 20) (hk0 : k0 ≤ 20) (hi0 : i0 < vv n k0) (hv : vv n k0 < 4294967296) :
    CallsA Tryd.prog w0 83 [.c (.vec 0 n), .c (.val (.int .i64 n)), .c (.val (.int .i64 k0)), .c (.val (.int .u32 i0)), .c (.vec 1 (k0 + 2))] [intB (List.replicate n 0), rowT T (k0 + 2) (um (n - 1))] fun r H => r = .t [] ∧ ∃ f, H = [intB (vecOf n k0 i0), rowT T (k0 + 2) f] := by
  refine callsA_of_ev c83_ ?_
  conv => whnf
  refine Or.inl ?_
  conv => whnf
  refine ⟨fun _ => ?_, fun h => absurd (show n ≤ 4 from gt_f h) (by omega)⟩
  conv => whnf
  rw [nsub (a := n) (b := 4) (by omega), nwrapi (n := n - 4) (by omega)]
  refine Or.inl ?_
  conv => whnf
  refine ⟨{x : Nat × Nat × Nat × List Int × (Nat → Nat) // cdSt n k0 i0 x.1 x.2.1 x.2.2.1 x.2.2.2.1 x.2.2.2.2}, fun ⟨⟨j, k, i, pre, f⟩, _⟩ => ⟨[(0, .o (.c (.vec 0 n))), (1, .o (.c (.val (.int .i64 n)))), (2, .o (.c (.val (.int .i64 k)))), (3, .o (.c (.val (.int .u32 i)))), (4, .o (.c (.vec 1 (k0 + 2)))), (10, .o (.c (.val (.int .i64 (n - 4 : Nat))))), (20, .o (.c (.val (.int .i64 (n - 4 : Nat))))), (21, .o (.c (.val (.int .i64 j))))], [intB (pre ++ List.replicate (n - j) 0), rowT T (k0 + 2) f]⟩, fun x => n - x.1.1,
    ⟨⟨(0, k0, i0, [], um (n - 1)), ⟨rfl, by omega, rfl, hi0, Nat.le_refl _, um_lt _, fun _ _ => rfl⟩⟩, [0, 1], ⟨rfl, ⟨rfl, rfl, rfl, rfl, trivial⟩, rfl⟩, rfl, rfl, rfl, rfl, rfl, rfl, rfl, rfl, trivial⟩, fun ⟨⟨j, k, i, pre, f⟩, hst⟩ => ?_⟩
  obtain ⟨hpl, hjn, heq, hlt, hkk, hfl, hfe⟩ := hst
  simp only at hpl hjn heq hlt hkk hfl hfe
  conv => whnf
  refine ⟨fun h3 => ?_, fun h3 => ?_⟩
  · have h3 : j < n - 4 := lt_t h3
    obtain ⟨m, hm⟩ : ∃ m, m = n - 1 - j := ⟨_, rfl⟩
    have hnm : n - j = m + 1 := by omega
    rw [hnm] at heq hlt
    rw [← hm] at hfe
    have hvm : vv (m + 1) k < 4294967296 := Nat.lt_of_le_of_lt (Nat.le_trans (vv_upm m hkk) (vv_leftm (by omega) k0)) hv
    have hgu : ∀ x, x ≤ k + 1 → (tabl (k0 + 2) f)[x]? = some ((uu m x : Nat) : Int) := by
      intro x hx
      rw [tabl_get (by omega), hfe x (by omega), um_uu hvm hx]
    have huub : ∀ x, x ≤ k + 1 → uu m x < 4294967296 := by
      intro x hx
      have := uu_mono m hx
      have := vv_uu m k
      omega
    have hb1 := huub (k + 1) (Nat.le_refl _)
    obtain ⟨J, hJ⟩ : ∃ J, J = restOf m k i := ⟨_, rfl⟩
    obtain ⟨N, hN⟩ : ∃ N, N = decide (uu m (k + 1) ≤ i) := ⟨_, rfl⟩
    obtain ⟨K, hK⟩ : ∃ K, K = kOf m k J := ⟨_, rfl⟩
    have h1 := rest_lt hlt
    have h2 := rest_next hlt
    have hvec := vec_cons (m := m) (k := k) (i := i) rfl
    rw [← hJ] at h1 h2 hvec
    rw [← hK] at h2 hvec
    rw [← hN] at hvec
    obtain ⟨h2, h3', h4⟩ := h2
    have hKk : K ≤ k := by rw [hK]; exact kOf_le _ _ _
    rw [hvec] at heq
    conv => whnf
    refine Or.inl ?_
    conv => whnf
    rw [nadd k 1, nwrapi (n := k + 1) (by omega)]
    refine ⟨by omega, ?_⟩
    conv => whnf
    refine ⟨_, hgu (k + 1) (Nat.le_refl _), ?_⟩
    conv => whnf
    refine Or.inr ⟨Unit, fun _ => ⟨[(0, .o (.c (.vec 0 n))), (1, .o (.c (.val (.int .i64 n)))), (2, .o (.c (.val (.int .i64 k)))), (3, .o (.c (.val (.int .u32 J)))), (4, .o (.c (.vec 1 (k0 + 2)))), (10, .o (.c (.val (.int .i64 (n - 4 : Nat))))), (11, .o (.c (.val (.int .i64 j)))), (13, .o (.c (.val (.int .i64 (maskOf N))))), (20, .o (.c (.val (.int .i64 (n - 4 : Nat))))), (21, .o (.c (.val (.int .i64 j))))], [intB (pre ++ List.replicate (n - j) 0), rowT T (k0 + 2) f]⟩, ?_, ?_⟩
    · conv => whnf
      refine ⟨fun g => ?_, fun g => ?_⟩
      · have g : uu m (k + 1) ≤ i := ge_t g
        conv => whnf
        refine ⟨(), [0, 1], ⟨rfl, ⟨rfl, rfl, rfl, rfl, trivial⟩, rfl⟩, rfl, rfl, rfl, eq_u32 ?_, rfl, rfl, rfl, ?_, rfl, rfl, trivial⟩
        · have hik : i < uu m k + uu m (k + 1) := by rw [← vv_uu]; exact hlt
          have := huub k (by omega)
          rw [nsub g, nwrap32 (by omega), hJ]
          unfold restOf
          rw [if_pos g]
        · have hmk : maskOf N = -1 := by rw [hN, decide_eq_true g]; rfl
          rw [hmk]
          rfl
      · have g : i < uu m (k + 1) := ge_f g
        conv => whnf
        refine ⟨(), [0, 1], ⟨rfl, ⟨rfl, rfl, rfl, rfl, trivial⟩, rfl⟩, rfl, rfl, rfl, eq_u32 ?_, rfl, rfl, rfl, ?_, rfl, rfl, trivial⟩
        · rw [hJ]
          unfold restOf
          rw [if_neg (by omega)]
        · have hmk : maskOf N = ((0 : Nat) : Int) := by rw [hN, decide_eq_false (by omega)]; rfl
          rw [hmk]
          rfl
    rintro ⟨⟩
    conv => whnf
    refine ⟨by omega, ?_⟩
    conv => whnf
    refine ⟨_, hgu k (by omega), ?_⟩
    conv => whnf
    refine Or.inl ?_
    conv => whnf
    refine ⟨{q : Nat // K ≤ q ∧ q ≤ k}, fun ⟨q, _⟩ => ⟨[(0, .o (.c (.vec 0 n))), (1, .o (.c (.val (.int .i64 n)))), (2, .o (.c (.val (.int .i64 q)))), (3, .o (.c (.val (.int .u32 J)))), (4, .o (.c (.vec 1 (k0 + 2)))), (10, .o (.c (.val (.int .i64 (n - 4 : Nat))))), (11, .o (.c (.val (.int .i64 j)))), (12, .o (.c (.val (.int .u32 (uu m q : Nat))))), (13, .o (.c (.val (.int .i64 (maskOf N))))), (14, .o (.c (.val (.int .i64 k)))), (20, .o (.c (.val (.int .i64 (n - 4 : Nat))))), (21, .o (.c (.val (.int .i64 j))))], [intB (pre ++ List.replicate (n - j) 0), rowT T (k0 + 2) f]⟩, fun q => q.1,
      ⟨⟨k, hKk, Nat.le_refl _⟩, [0, 1], ⟨rfl, ⟨rfl, rfl, rfl, rfl, trivial⟩, rfl⟩, rfl, rfl, rfl, rfl, rfl, rfl, rfl, rfl, rfl, rfl, rfl, rfl, trivial⟩, fun ⟨q, hq1, hq2⟩ => ?_⟩
    conv => whnf
    refine ⟨fun g => ?_, fun g => ?_⟩
    · have g : J < uu m q := gt_t g
      have hKq : K < q := by
        rcases Nat.lt_or_ge K q with e | e
        · exact e
        · have := uu_mono m e
          omega
      conv => whnf
      rw [nsub (a := q) (b := 1) (by omega), nwrapi (n := q - 1) (by omega)]
      refine ⟨by omega, ?_⟩
      conv => whnf
      refine ⟨_, hgu (q - 1) (by omega), ?_⟩
      conv => whnf
      refine ⟨⟨q - 1, by omega, by omega⟩, ⟨[0, 1], ⟨rfl, ⟨rfl, rfl, rfl, rfl, trivial⟩, rfl⟩, rfl, rfl, rfl, rfl, rfl, rfl, rfl, rfl, rfl, rfl, rfl, rfl, trivial⟩, ?_⟩
      show q - 1 < q
      omega
    · have g : uu m q ≤ J := gt_f g
      have hqK : q = K := by
        rcases Nat.lt_or_ge K q with e | e
        · have := uu_mono m (show K + 1 ≤ q by omega)
          omega
        · omega
      subst hqK
      have hbq := huub q (by omega)
      have hbJ := huub (k + 1) (by omega)
      have hpr := prevRowW w0 (T := T) (n := q + 2) (m := k0 + 2) (f := f) hfl (by omega) (by omega) (by omega)
      have hyj : (pre ++ List.replicate (n - j) 0)[j]? = some 0 := by
        rw [List.getElem?_append_right (by omega), hpl, Nat.sub_self, List.getElem?_replicate, if_pos (by omega)]
      conv => whnf
      rw [nsub h2, nwrap32 (n := J - uu m q) (by omega), nsub hKk, nwrapi (n := k - q) (by omega)]
      refine ⟨by omega, ?_⟩
      conv => whnf
      refine ⟨_, sgn N (k - q), hyj, ?_, ?_⟩
      · show [CV.val (.int .i64 (sgn N (k - q)))] = [CV.val (.int .i64 (IntKind.i64.wrap (((BitVec.ofInt IntKind.i64.bits (IntKind.i64.wrap (((k - q : Nat) : Int) + maskOf N)) ^^^ BitVec.ofInt IntKind.i64.bits (maskOf N)).toNat : Nat) : Int)))]
        rw [xor_mask N (by omega)]
      conv => whnf
      rw [nadd q 2, nwrapi (n := q + 2) (by omega)]
      refine CallsA.lift (H0 := [rowT T (k0 + 2) f]) [1] rfl ⟨rfl, rfl, trivial⟩ rfl hpr ?_
      rintro _ _ ⟨rfl, rfl⟩
      conv => whnf
      have hset : (pre ++ List.replicate (n - j) 0).set j (sgn N (k - q)) = (pre ++ [sgn N (k - q)]) ++ List.replicate (n - (j + 1)) 0 := by
        rw [show n - j = (n - (j + 1)) + 1 by omega, List.replicate_succ, set_mid hpl, List.append_assoc]
        rfl
      refine ⟨⟨(j + 1, q, J - uu m q, pre ++ [sgn N (k - q)], fun x => if x < q + 2 then prevF f x else f x), ⟨by rw [List.length_append, hpl]; rfl, by show j + 1 + 4 ≤ n; omega, ?_, ?_, by show q ≤ k0; omega, fun x => ?_, fun x hx => ?_⟩⟩, ⟨[0, 1], ⟨rfl, ⟨?_, rfl, rfl, rfl, trivial⟩, rfl⟩, rfl, rfl, rfl, rfl, rfl, rfl, rfl, eq_i64 ?_, trivial⟩, ?_⟩
      · rw [heq, show n - (j + 1) = m by omega, List.append_assoc]
        rfl
      · rw [show n - (j + 1) = m by omega]
        exact h4
      · show (if x < q + 2 then prevF f x else f x) < 4294967296
        split
        · exact prevF_lt _ _
        · exact hfl x
      · have hx : x < q + 2 := hx
        show (if x < q + 2 then prevF f x else f x) = um (n - 1 - (j + 1)) x
        obtain ⟨m', rfl⟩ : ∃ m', m = m' + 1 := ⟨m - 1, by omega⟩
        rw [if_pos hx, prevF_ext (g := um (m' + 1)) fun y hy => hfe y (by omega), prev_um, show n - 1 - (j + 1) = m' by omega]
      · show some (intB ((pre ++ List.replicate (n - j) 0).set j (sgn N (k - q)))) = some (intB ((pre ++ [sgn N (k - q)]) ++ List.replicate (n - (j + 1)) 0))
        rw [hset]
      · rw [nadd, nwrapi (by omega)]
      · show n - (j + 1) < n - j
        omega
  · have h3 : n - 4 ≤ j := lt_f h3
    obtain rfl : j = n - 4 := by omega
    rw [show n - (n - 4) = 4 by omega] at heq hlt
    conv => whnf
    refine ⟨fun _ => ?_, fun h => absurd (show n ≤ n - 4 from lt_f h) (by omega)⟩
    conv => whnf
    refine ⟨by omega, Or.inl ⟨fun c hc1 hc => ?_, fun h => absurd h (by omega), fun h => absurd h (by omega)⟩⟩
    conv => whnf
    refine CallsA.lift (H0 := [intB (pre ++ List.replicate (n - (n - 4)) 0)]) [0] rfl ⟨rfl, rfl, trivial⟩ rfl (decode4S w0 (ys := pre ++ List.replicate (n - (n - 4)) 0) (o := n - 4) (n := n - (n - 4)) (c := c - (n - 4)) (k := k) (i := i) (by rw [List.length_append, List.length_replicate, hpl]; omega) (by omega) (by omega) hlt) ?_
    rintro _ _ ⟨rfl, rfl⟩
    conv => whnf
    refine Or.inl ⟨rfl, f, ?_⟩
    rw [setAll_mid hpl (by rw [List.length_replicate, vecOf_len]; omega), ← heq]
    rfl
end Go.Proofs.YtkomikpfnogjcaaDoor
