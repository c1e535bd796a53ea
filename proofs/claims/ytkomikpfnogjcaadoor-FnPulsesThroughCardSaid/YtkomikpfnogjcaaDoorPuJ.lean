/- The number of a vector, by the package. -/
import Derived.Test.YtkomikpfnogjcaaDoorPuI
namespace Go.Proofs.YtkomikpfnogjcaaDoor
open Go Go.Vc
set_option maxRecDepth 100000
set_option maxHeartbeats 8000000

structure ceSt (ys : List Int) (k : Nat) (j q s : Nat) (f : Nat → Nat) : Prop where
  jl : j ≤ ys.length
  am : amt (ys.drop j) = q
  cd : s + codeOf (ys.drop j) q = codeOf ys k
  qk : q ≤ k
  fl : ∀ x, f x < 4294967296
  fe : j < ys.length → ∀ x, x < q + 2 → f x = um (ys.length - 1 - j) x
theorem amt_append : ∀ (a b : List Int), amt (a ++ b) = amt a + amt b
  | [], b => (Nat.zero_add _).symm
  | x :: a, b => by
    show x.natAbs + amt (a ++ b) = x.natAbs + amt a + amt b
    rw [amt_append a b]
    omega
theorem amt_snoc {ys : List Int} {j : Nat} {x : Int} (h : ys[j]? = some x) : amt (ys.take j) + x.natAbs = amt (ys.take (j + 1)) := by
  rw [← take_snoc' h, amt_append]
  rfl
theorem amt_take (ys : List Int) (j : Nat) : amt (ys.take j) ≤ amt ys := by
  have := amt_append (ys.take j) (ys.drop j)
  rw [List.take_append_drop] at this
  omega

theorem cwrsEncodeM (w0 : World) {ys : List Int} {a : Addr} {c : Nat} {k : Nat} (hb : ∀ (i : Nat) x, ys[i]? = some x → w0.cell? (a.add (i * 1)) = some (.int .i64 x)) (hn : 1 ≤ ys.length) (hn2 : ys.length ≤ 20) (hk : 1 ≤ k) (hk2 : k ≤ 20) (ha : amt ys = k) (hv : vv ys.length k < 4294967296) :
    CallsA Tryd.prog w0 35 [.c (.val (.slice (some a) ys.length c)), .c (.val (.int .i64 ys.length)), .c (.val (.int .i64 k))] [] fun r H => r = u32 (codeOf ys k) ∧ H = [] := by
  obtain ⟨hcv, _⟩ := code_back ha
  refine callsA_of_ev c35_ ?_
  conv => whnf
  refine Or.inl ?_
  conv => whnf
  refine ⟨fun g => absurd (show ys.length ≤ 0 from le_t g) (by omega), fun _ => ?_⟩
  conv => whnf
  refine ⟨fun g => absurd (show k ≤ 0 from le_t g) (by omega), fun _ => ?_⟩
  conv => whnf
  refine (urowW w0 (n := ys.length) (k := k) hn (by omega) hk (by omega)).mono ?_
  rintro _ _ ⟨rfl, rfl⟩
  conv => whnf
  refine Or.inl ?_
  conv => whnf
  refine ⟨{x : Nat × Nat × Nat × (Nat → Nat) // ceSt ys k x.1 x.2.1 x.2.2.1 x.2.2.2}, fun ⟨⟨j, q, s, f⟩, _⟩ => ⟨[(0, .o (.c (.val (.slice (some a) ys.length c)))), (2, .o (.c (.val (.int .i64 q)))), (7, .o (.c (.vec 0 (k + 2)))), (8, .o (.c (.val (.int .u32 s)))), (21, .o (.c (.val (.int .i64 ys.length)))), (22, .o (.c (.val (.int .i64 j))))], [rowU (k + 2) f]⟩, fun x => ys.length - x.1.1,
    ⟨⟨(0, k, 0, um (ys.length - 1)), ⟨Nat.zero_le _, ha, Nat.zero_add _, Nat.le_refl _, um_lt _, fun _ _ _ => rfl⟩⟩, [0], ⟨rfl, ⟨rfl, rfl, trivial⟩, rfl⟩, rfl, rfl, rfl, rfl, rfl, rfl, trivial⟩, fun ⟨⟨j, q, s, f⟩, hst⟩ => ?_⟩
  obtain ⟨hj, ham, hcode, hqk, hfl, hfe⟩ := hst
  simp only at hj ham hcode hqk hfl hfe
  conv => whnf
  refine ⟨fun h3 => ?_, fun h3 => ?_⟩
  · have h3 : j < ys.length := lt_t h3
    have hfe := hfe h3
    obtain ⟨x, hx⟩ : ∃ x, ys[j]? = some x := ⟨_, List.getElem?_eq_getElem h3⟩
    obtain ⟨m, hm⟩ : ∃ m, m = ys.length - 1 - j := ⟨_, rfl⟩
    rw [← hm] at hfe
    obtain ⟨r, hr, hrl⟩ : ∃ r, ys.drop j = x :: r ∧ r.length = m := by
      refine ⟨ys.drop (j + 1), ?_, by rw [List.length_drop]; omega⟩
      rw [List.drop_eq_getElem_cons h3]
      rw [List.getElem?_eq_getElem h3] at hx
      rw [Option.some.inj hx]
    have hr1 : ys.drop (j + 1) = r := by
      rw [← List.drop_drop, hr]
      rfl
    rw [hr] at ham hcode
    have ham : x.natAbs + amt r = q := ham
    have hcode : s + (uu r.length (q - x.natAbs) + (if x < 0 then uu r.length (q + 1) else 0) + codeOf r (q - x.natAbs)) = codeOf ys k := hcode
    rw [hrl] at hcode
    have hvm : vv (m + 1) q < 4294967296 := Nat.lt_of_le_of_lt (Nat.le_trans (vv_upm m hqk) (vv_leftm (by omega) k)) hv
    have hgu : ∀ x, x ≤ q + 1 → (tabl (k + 2) f)[x]? = some ((uu m x : Nat) : Int) := by
      intro x hx
      rw [tabl_get (by omega), hfe x (by omega), um_uu hvm hx]
    conv => whnf
    refine Or.inl ?_
    conv => whnf
    refine ⟨by omega, ?_⟩
    conv => whnf
    refine ⟨_, hb j x hx, rfl, ?_⟩
    conv => whnf
    refine Or.inr ⟨Unit, fun _ => ⟨[(0, .o (.c (.val (.slice (some a) ys.length c)))), (2, .o (.c (.val (.int .i64 q)))), (7, .o (.c (.vec 0 (k + 2)))), (8, .o (.c (.val (.int .u32 s)))), (9, .o (.c (.val (.int .i64 j)))), (10, .o (.c (.val (.int .i64 (x.natAbs : Nat))))), (21, .o (.c (.val (.int .i64 ys.length)))), (22, .o (.c (.val (.int .i64 j))))], [rowU (k + 2) f]⟩, ?_, ?_⟩
    · conv => whnf
      refine ⟨fun g => ?_, fun g => ?_⟩
      · have g : x < 0 := of_decide_eq_true g
        conv => whnf
        refine ⟨(), [0], ⟨rfl, ⟨rfl, rfl, trivial⟩, rfl⟩, rfl, rfl, rfl, rfl, rfl, eq_i64 ?_, rfl, rfl, trivial⟩
        rw [IntKind.wrap_i64]
        omega
      · have g : 0 ≤ x := by have := of_decide_eq_false g; omega
        conv => whnf
        refine ⟨(), [0], ⟨rfl, ⟨rfl, rfl, trivial⟩, rfl⟩, rfl, rfl, rfl, rfl, rfl, eq_i64 ?_, rfl, rfl, trivial⟩
        omega
    rintro ⟨⟩
    conv => whnf
    refine Or.inl ?_
    conv => whnf
    refine ⟨fun g => absurd (show q < x.natAbs from gt_t g) (by omega), fun _ => ?_⟩
    conv => whnf
    rw [nsub (a := q) (b := x.natAbs) (by omega), nwrapi (n := q - x.natAbs) (by omega)]
    obtain ⟨z, hz⟩ : ∃ z, z = q - x.natAbs := ⟨_, rfl⟩
    rw [← hz] at hcode ⊢
    refine ⟨by omega, ?_⟩
    conv => whnf
    refine ⟨_, hgu z (by omega), ?_⟩
    conv => whnf
    rw [nadd s (uu m z), nwrap32 (n := s + uu m z) (by omega)]
    refine Or.inr ⟨Unit, fun _ => ⟨[(0, .o (.c (.val (.slice (some a) ys.length c)))), (2, .o (.c (.val (.int .i64 q)))), (7, .o (.c (.vec 0 (k + 2)))), (8, .o (.c (.val (.int .u32 (s + uu m z + (if x < 0 then uu m (q + 1) else 0) : Nat))))), (9, .o (.c (.val (.int .i64 j)))), (11, .o (.c (.val (.int .i64 z)))), (21, .o (.c (.val (.int .i64 ys.length)))), (22, .o (.c (.val (.int .i64 j))))], [rowU (k + 2) f]⟩, ?_, ?_⟩
    · conv => whnf
      refine ⟨by omega, ?_⟩
      conv => whnf
      refine ⟨_, hb j x hx, rfl, ?_⟩
      conv => whnf
      refine ⟨fun g => ?_, fun g => ?_⟩
      · have g : x < 0 := of_decide_eq_true g
        rw [if_pos g] at hcode
        conv => whnf
        rw [nadd q 1, nwrapi (n := q + 1) (by omega)]
        refine ⟨by omega, ?_⟩
        conv => whnf
        refine ⟨_, hgu (q + 1) (by omega), ?_⟩
        conv => whnf
        refine ⟨(), [0], ⟨rfl, ⟨rfl, rfl, trivial⟩, rfl⟩, rfl, rfl, rfl, eq_u32 ?_, rfl, rfl, rfl, rfl, trivial⟩
        rw [nadd, nwrap32 (by omega), if_pos g]
      · have g : ¬ x < 0 := of_decide_eq_false g
        conv => whnf
        refine ⟨(), [0], ⟨rfl, ⟨rfl, rfl, trivial⟩, rfl⟩, rfl, rfl, rfl, eq_u32 ?_, rfl, rfl, rfl, rfl, trivial⟩
        rw [if_neg g]
        rfl
    rintro ⟨⟩
    conv => whnf
    rw [nadd z 2, nwrapi (n := z + 2) (by omega)]
    refine CallsA.lift (H0 := [rowU (k + 2) f]) [0] rfl ⟨rfl, rfl, trivial⟩ rfl (prevRowW w0 (T := 23) (n := z + 2) (m := k + 2) (f := f) hfl (by omega) (by omega) (by omega)) ?_
    rintro _ _ ⟨rfl, rfl⟩
    conv => whnf
    refine ⟨⟨(j + 1, z, s + uu m z + (if x < 0 then uu m (q + 1) else 0), fun x => if x < z + 2 then prevF f x else f x), ⟨h3, ?_, ?_, by show z ≤ k; omega, fun x => ?_, fun hj1 x hx => ?_⟩⟩, ⟨[0], ⟨rfl, ⟨rfl, rfl, trivial⟩, rfl⟩, rfl, rfl, rfl, rfl, rfl, eq_i64 ?_, trivial⟩, ?_⟩
    · show amt (ys.drop (j + 1)) = z
      rw [hr1]
      omega
    · show s + uu m z + (if x < 0 then uu m (q + 1) else 0) + codeOf (ys.drop (j + 1)) z = codeOf ys k
      rw [hr1]
      omega
    · show (if x < z + 2 then prevF f x else f x) < 4294967296
      split
      · exact prevF_lt _ _
      · exact hfl x
    · have hx : x < z + 2 := hx
      have hj1 : j + 1 < ys.length := hj1
      show (if x < z + 2 then prevF f x else f x) = um (ys.length - 1 - (j + 1)) x
      obtain ⟨m', rfl⟩ : ∃ m', m = m' + 1 := ⟨m - 1, by omega⟩
      rw [if_pos hx, prevF_ext (g := um (m' + 1)) fun y hy => hfe y (by omega), prev_um, show ys.length - 1 - (j + 1) = m' by omega]
    · rw [nadd, nwrapi (by omega)]
    · show ys.length - (j + 1) < ys.length - j
      omega
  · have h3 : ys.length ≤ j := lt_f h3
    rw [List.drop_eq_nil_of_le h3] at hcode
    have hcode : s + 0 = codeOf ys k := hcode
    conv => whnf
    refine Or.inr ⟨[], u32 (codeOf ys k), [], ⟨rfl, trivial, rfl⟩, ?_, rfl, rfl⟩
    exact u32_of (by rw [← hcode]; rfl)
theorem cPulseIndexM (w0 : World) {ys : List Int} {a : Addr} {c : Nat} {k : Nat} (hb : ∀ (i : Nat) x, ys[i]? = some x → w0.cell? (a.add (i * 1)) = some (.int .i64 x)) (hn : 1 ≤ ys.length) (hn2 : ys.length ≤ 20) (hk : 1 ≤ k) (hk2 : k ≤ 20) (ha : amt ys = k) (hv : vv ys.length k < 4294967296) :
    CallsA Tryd.prog w0 19 [.c (.val (.slice (some a) ys.length c)), .c (.val (.int .i64 ys.length)), .c (.val (.int .i64 k))] [] fun r H => r = u32 (codeOf ys k) ∧ H = [] := by
  refine callsA_of_ev c19_ ?_
  conv => whnf
  refine (cwrsEncodeM w0 hb hn hn2 hk hk2 ha hv).mono ?_
  rintro _ _ ⟨rfl, rfl⟩
  conv => whnf
  exact Or.inl ⟨rfl, rfl⟩
theorem iPulseIndexM (w0 : World) {ys : List Int} {a : Addr} {c : Nat} {k : Nat} (hb : ∀ (i : Nat) x, ys[i]? = some x → w0.cell? (a.add (i * 1)) = some (.int .i64 x)) (hn : 1 ≤ ys.length) (hn2 : ys.length ≤ 20) (hk : 1 ≤ k) (hk2 : k ≤ 20) (ha : amt ys = k) (hv : vv ys.length k < 4294967296) :
    CallsA Tryd.prog w0 8 [.c (.val (.slice (some a) ys.length c))] [] fun r H => r = .t [.c (.val (.int .u32 (codeOf ys k : Nat))), .c (.val (.int .i64 ((0 : Nat) : Int)))] ∧ H = [] := by
  refine callsA_of_evD c8_ ?_
  conv => whnf
  refine Or.inl ?_
  conv => whnf
  refine ⟨_root_.Fin (ys.length + 1), fun ⟨j, _⟩ => ⟨[(0, .o (.c (.val (.slice (some a) ys.length c)))), (2, .o (.c (.ptr 0 0))), (3, .o (.c (.ptr 1 0))), (4, .o (.c (.val (.int .i64 (amt (ys.take j) : Nat))))), (8, .o (.c (.val (.slice (some a) ys.length c)))), (9, .o (.c (.val (.int .i64 ys.length)))), (10, .o (.c (.val (.int .i64 j))))], [.cells 23 [.val (.int .u32 ((0 : Nat) : Int))], .cells 3 [.val (.int .i64 ((0 : Nat) : Int))]]⟩, fun j => ys.length - j.1, ⟨⟨0, by omega⟩, [0, 1], ⟨rfl, ⟨rfl, rfl, rfl, rfl, trivial⟩, rfl⟩, rfl, rfl, rfl, rfl, rfl, rfl, rfl, trivial⟩, fun ⟨j, hj⟩ => ?_⟩
  have htk := amt_take ys j
  conv => whnf
  refine ⟨fun h3 => ?_, fun h3 => ?_⟩
  · have h3 : j < ys.length := lt_t h3
    obtain ⟨x, hx⟩ : ∃ x, ys[j]? = some x := ⟨_, List.getElem?_eq_getElem h3⟩
    have hsn := amt_snoc hx
    have htk1 := amt_take ys (j + 1)
    conv => whnf
    refine ⟨by omega, ?_⟩
    conv => whnf
    refine ⟨_, hb j x hx, rfl, ?_⟩
    conv => whnf
    have hw : IntKind.i64.wrap (0 - x) = -x := by rw [IntKind.wrap_i64]; omega
    rw [hw]
    refine ⟨⟨j + 1, by omega⟩, ⟨[0, 1], ⟨rfl, ⟨rfl, rfl, rfl, rfl, trivial⟩, rfl⟩, rfl, rfl, rfl, eq_i64 ?_, rfl, rfl, eq_i64 ?_, trivial⟩, ?_⟩
    · rw [← hsn]
      rw [show (bif false then if -x < x then -x else x else if -x > x then -x else x) = ((x.natAbs : Nat) : Int) by show (if -x > x then -x else x) = _; split <;> omega, nadd, nwrapi (by omega)]
    · rw [nadd, nwrapi (by omega)]
    · show ys.length - (j + 1) < ys.length - j
      omega
  · have h3 : ys.length ≤ j := lt_f h3
    rw [List.take_of_length_le h3]
    rw [ha]
    conv => whnf
    refine CallsA.lift (H0 := []) [] rfl trivial rfl (cPulseIndexM w0 hb hn hn2 hk hk2 ha hv) ?_
    rintro _ _ ⟨rfl, rfl⟩
    conv => whnf
    exact Or.inr ⟨[], .t [.c (.val (.int .u32 (codeOf ys k : Nat))), .c (.val (.int .i64 ((0 : Nat) : Int)))], [], ⟨rfl, trivial, rfl⟩, rfl, rfl, rfl⟩

theorem cwrsEncodeV (w0 : World) {ys : List Int}  {k : Nat} (hn : 1 ≤ ys.length) (hn2 : ys.length ≤ 20) (hk : 1 ≤ k) (hk2 : k ≤ 20) (ha : amt ys = k) (hv : vv ys.length k < 4294967296) :
    CallsA Tryd.prog w0 35 [.c (.vec 0 ys.length), .c (.val (.int .i64 ys.length)), .c (.val (.int .i64 k))] [intB ys] fun r H => r = u32 (codeOf ys k) ∧ H = [intB ys] := by
  obtain ⟨hcv, _⟩ := code_back ha
  refine callsA_of_ev c35_ ?_
  conv => whnf
  refine Or.inl ?_
  conv => whnf
  refine ⟨fun g => absurd (show ys.length ≤ 0 from le_t g) (by omega), fun _ => ?_⟩
  conv => whnf
  refine ⟨fun g => absurd (show k ≤ 0 from le_t g) (by omega), fun _ => ?_⟩
  conv => whnf
  refine CallsA.lift (H0 := []) [] rfl trivial rfl (urowW w0 (n := ys.length) (k := k) hn (by omega) hk (by omega)) ?_
  rintro _ _ ⟨rfl, rfl⟩
  conv => whnf
  refine Or.inl ?_
  conv => whnf
  refine ⟨{x : Nat × Nat × Nat × (Nat → Nat) // ceSt ys k x.1 x.2.1 x.2.2.1 x.2.2.2}, fun ⟨⟨j, q, s, f⟩, _⟩ => ⟨[(0, .o (.c (.vec 0 ys.length))), (2, .o (.c (.val (.int .i64 q)))), (7, .o (.c (.vec 1 (k + 2)))), (8, .o (.c (.val (.int .u32 s)))), (21, .o (.c (.val (.int .i64 ys.length)))), (22, .o (.c (.val (.int .i64 j))))], [intB ys, rowU (k + 2) f]⟩, fun x => ys.length - x.1.1,
    ⟨⟨(0, k, 0, um (ys.length - 1)), ⟨Nat.zero_le _, ha, Nat.zero_add _, Nat.le_refl _, um_lt _, fun _ _ _ => rfl⟩⟩, [0, 1], ⟨rfl, ⟨rfl, rfl, rfl, rfl, trivial⟩, rfl⟩, rfl, rfl, rfl, rfl, rfl, rfl, trivial⟩, fun ⟨⟨j, q, s, f⟩, hst⟩ => ?_⟩
  obtain ⟨hj, ham, hcode, hqk, hfl, hfe⟩ := hst
  simp only at hj ham hcode hqk hfl hfe
  conv => whnf
  refine ⟨fun h3 => ?_, fun h3 => ?_⟩
  · have h3 : j < ys.length := lt_t h3
    have hfe := hfe h3
    obtain ⟨x, hx⟩ : ∃ x, ys[j]? = some x := ⟨_, List.getElem?_eq_getElem h3⟩
    obtain ⟨m, hm⟩ : ∃ m, m = ys.length - 1 - j := ⟨_, rfl⟩
    rw [← hm] at hfe
    obtain ⟨r, hr, hrl⟩ : ∃ r, ys.drop j = x :: r ∧ r.length = m := by
      refine ⟨ys.drop (j + 1), ?_, by rw [List.length_drop]; omega⟩
      rw [List.drop_eq_getElem_cons h3]
      rw [List.getElem?_eq_getElem h3] at hx
      rw [Option.some.inj hx]
    have hr1 : ys.drop (j + 1) = r := by
      rw [← List.drop_drop, hr]
      rfl
    rw [hr] at ham hcode
    have ham : x.natAbs + amt r = q := ham
    have hcode : s + (uu r.length (q - x.natAbs) + (if x < 0 then uu r.length (q + 1) else 0) + codeOf r (q - x.natAbs)) = codeOf ys k := hcode
    rw [hrl] at hcode
    have hvm : vv (m + 1) q < 4294967296 := Nat.lt_of_le_of_lt (Nat.le_trans (vv_upm m hqk) (vv_leftm (by omega) k)) hv
    have hgu : ∀ x, x ≤ q + 1 → (tabl (k + 2) f)[x]? = some ((uu m x : Nat) : Int) := by
      intro x hx
      rw [tabl_get (by omega), hfe x (by omega), um_uu hvm hx]
    conv => whnf
    refine Or.inl ?_
    conv => whnf
    refine ⟨by omega, ?_⟩
    conv => whnf
    refine ⟨_, hx, ?_⟩
    conv => whnf
    refine Or.inr ⟨Unit, fun _ => ⟨[(0, .o (.c (.vec 0 ys.length))), (2, .o (.c (.val (.int .i64 q)))), (7, .o (.c (.vec 1 (k + 2)))), (8, .o (.c (.val (.int .u32 s)))), (9, .o (.c (.val (.int .i64 j)))), (10, .o (.c (.val (.int .i64 (x.natAbs : Nat))))), (21, .o (.c (.val (.int .i64 ys.length)))), (22, .o (.c (.val (.int .i64 j))))], [intB ys, rowU (k + 2) f]⟩, ?_, ?_⟩
    · conv => whnf
      refine ⟨fun g => ?_, fun g => ?_⟩
      · have g : x < 0 := of_decide_eq_true g
        conv => whnf
        refine ⟨(), [0, 1], ⟨rfl, ⟨rfl, rfl, rfl, rfl, trivial⟩, rfl⟩, rfl, rfl, rfl, rfl, rfl, eq_i64 ?_, rfl, rfl, trivial⟩
        rw [IntKind.wrap_i64]
        omega
      · have g : 0 ≤ x := by have := of_decide_eq_false g; omega
        conv => whnf
        refine ⟨(), [0, 1], ⟨rfl, ⟨rfl, rfl, rfl, rfl, trivial⟩, rfl⟩, rfl, rfl, rfl, rfl, rfl, eq_i64 ?_, rfl, rfl, trivial⟩
        omega
    rintro ⟨⟩
    conv => whnf
    refine Or.inl ?_
    conv => whnf
    refine ⟨fun g => absurd (show q < x.natAbs from gt_t g) (by omega), fun _ => ?_⟩
    conv => whnf
    rw [nsub (a := q) (b := x.natAbs) (by omega), nwrapi (n := q - x.natAbs) (by omega)]
    obtain ⟨z, hz⟩ : ∃ z, z = q - x.natAbs := ⟨_, rfl⟩
    rw [← hz] at hcode ⊢
    refine ⟨by omega, ?_⟩
    conv => whnf
    refine ⟨_, hgu z (by omega), ?_⟩
    conv => whnf
    rw [nadd s (uu m z), nwrap32 (n := s + uu m z) (by omega)]
    refine Or.inr ⟨Unit, fun _ => ⟨[(0, .o (.c (.vec 0 ys.length))), (2, .o (.c (.val (.int .i64 q)))), (7, .o (.c (.vec 1 (k + 2)))), (8, .o (.c (.val (.int .u32 (s + uu m z + (if x < 0 then uu m (q + 1) else 0) : Nat))))), (9, .o (.c (.val (.int .i64 j)))), (11, .o (.c (.val (.int .i64 z)))), (21, .o (.c (.val (.int .i64 ys.length)))), (22, .o (.c (.val (.int .i64 j))))], [intB ys, rowU (k + 2) f]⟩, ?_, ?_⟩
    · conv => whnf
      refine ⟨by omega, ?_⟩
      conv => whnf
      refine ⟨_, hx, ?_⟩
      conv => whnf
      refine ⟨fun g => ?_, fun g => ?_⟩
      · have g : x < 0 := of_decide_eq_true g
        rw [if_pos g] at hcode
        conv => whnf
        rw [nadd q 1, nwrapi (n := q + 1) (by omega)]
        refine ⟨by omega, ?_⟩
        conv => whnf
        refine ⟨_, hgu (q + 1) (by omega), ?_⟩
        conv => whnf
        refine ⟨(), [0, 1], ⟨rfl, ⟨rfl, rfl, rfl, rfl, trivial⟩, rfl⟩, rfl, rfl, rfl, eq_u32 ?_, rfl, rfl, rfl, rfl, trivial⟩
        rw [nadd, nwrap32 (by omega), if_pos g]
      · have g : ¬ x < 0 := of_decide_eq_false g
        conv => whnf
        refine ⟨(), [0, 1], ⟨rfl, ⟨rfl, rfl, rfl, rfl, trivial⟩, rfl⟩, rfl, rfl, rfl, eq_u32 ?_, rfl, rfl, rfl, rfl, trivial⟩
        rw [if_neg g]
        rfl
    rintro ⟨⟩
    conv => whnf
    rw [nadd z 2, nwrapi (n := z + 2) (by omega)]
    refine CallsA.lift (H0 := [rowU (k + 2) f]) [1] rfl ⟨rfl, rfl, trivial⟩ rfl (prevRowW w0 (T := 23) (n := z + 2) (m := k + 2) (f := f) hfl (by omega) (by omega) (by omega)) ?_
    rintro _ _ ⟨rfl, rfl⟩
    conv => whnf
    refine ⟨⟨(j + 1, z, s + uu m z + (if x < 0 then uu m (q + 1) else 0), fun x => if x < z + 2 then prevF f x else f x), ⟨h3, ?_, ?_, by show z ≤ k; omega, fun x => ?_, fun hj1 x hx => ?_⟩⟩, ⟨[0, 1], ⟨rfl, ⟨rfl, rfl, rfl, rfl, trivial⟩, rfl⟩, rfl, rfl, rfl, rfl, rfl, eq_i64 ?_, trivial⟩, ?_⟩
    · show amt (ys.drop (j + 1)) = z
      rw [hr1]
      omega
    · show s + uu m z + (if x < 0 then uu m (q + 1) else 0) + codeOf (ys.drop (j + 1)) z = codeOf ys k
      rw [hr1]
      omega
    · show (if x < z + 2 then prevF f x else f x) < 4294967296
      split
      · exact prevF_lt _ _
      · exact hfl x
    · have hx : x < z + 2 := hx
      have hj1 : j + 1 < ys.length := hj1
      show (if x < z + 2 then prevF f x else f x) = um (ys.length - 1 - (j + 1)) x
      obtain ⟨m', rfl⟩ : ∃ m', m = m' + 1 := ⟨m - 1, by omega⟩
      rw [if_pos hx, prevF_ext (g := um (m' + 1)) fun y hy => hfe y (by omega), prev_um, show ys.length - 1 - (j + 1) = m' by omega]
    · rw [nadd, nwrapi (by omega)]
    · show ys.length - (j + 1) < ys.length - j
      omega
  · have h3 : ys.length ≤ j := lt_f h3
    rw [List.drop_eq_nil_of_le h3] at hcode
    have hcode : s + 0 = codeOf ys k := hcode
    conv => whnf
    refine Or.inr ⟨[0], u32 (codeOf ys k), [intB ys], ⟨rfl, ⟨rfl, rfl, trivial⟩, rfl⟩, ?_, rfl, rfl⟩
    exact u32_of (by rw [← hcode]; rfl)
theorem cPulseIndexV (w0 : World) {ys : List Int}  {k : Nat} (hn : 1 ≤ ys.length) (hn2 : ys.length ≤ 20) (hk : 1 ≤ k) (hk2 : k ≤ 20) (ha : amt ys = k) (hv : vv ys.length k < 4294967296) :
    CallsA Tryd.prog w0 19 [.c (.vec 0 ys.length), .c (.val (.int .i64 ys.length)), .c (.val (.int .i64 k))] [intB ys] fun r H => r = u32 (codeOf ys k) ∧ H = [intB ys] := by
  refine callsA_of_ev c19_ ?_
  conv => whnf
  refine (cwrsEncodeV w0 hn hn2 hk hk2 ha hv).mono ?_
  rintro _ _ ⟨rfl, rfl⟩
  conv => whnf
  exact Or.inl ⟨rfl, rfl⟩
theorem iPulseIndexV (w0 : World) {ys : List Int}  {k : Nat} (hn : 1 ≤ ys.length) (hn2 : ys.length ≤ 20) (hk : 1 ≤ k) (hk2 : k ≤ 20) (ha : amt ys = k) (hv : vv ys.length k < 4294967296) :
    CallsA Tryd.prog w0 8 [.c (.vec 0 ys.length)] [intB ys] fun r H => r = .t [.c (.val (.int .u32 (codeOf ys k : Nat))), .c (.val (.int .i64 ((0 : Nat) : Int)))] ∧ H = [intB ys] := by
  refine callsA_of_evD c8_ ?_
  conv => whnf
  refine Or.inl ?_
  conv => whnf
  refine ⟨_root_.Fin (ys.length + 1), fun ⟨j, _⟩ => ⟨[(0, .o (.c (.vec 0 ys.length))), (2, .o (.c (.ptr 1 0))), (3, .o (.c (.ptr 2 0))), (4, .o (.c (.val (.int .i64 (amt (ys.take j) : Nat))))), (8, .o (.c (.vec 0 ys.length))), (9, .o (.c (.val (.int .i64 ys.length)))), (10, .o (.c (.val (.int .i64 j))))], [intB ys, .cells 23 [.val (.int .u32 ((0 : Nat) : Int))], .cells 3 [.val (.int .i64 ((0 : Nat) : Int))]]⟩, fun j => ys.length - j.1, ⟨⟨0, by omega⟩, [0, 1, 2], ⟨rfl, ⟨rfl, rfl, rfl, rfl, rfl, rfl, trivial⟩, rfl⟩, rfl, rfl, rfl, rfl, rfl, rfl, rfl, trivial⟩, fun ⟨j, hj⟩ => ?_⟩
  have htk := amt_take ys j
  conv => whnf
  refine ⟨fun h3 => ?_, fun h3 => ?_⟩
  · have h3 : j < ys.length := lt_t h3
    obtain ⟨x, hx⟩ : ∃ x, ys[j]? = some x := ⟨_, List.getElem?_eq_getElem h3⟩
    have hsn := amt_snoc hx
    have htk1 := amt_take ys (j + 1)
    conv => whnf
    refine ⟨by omega, ?_⟩
    conv => whnf
    refine ⟨_, hx, ?_⟩
    conv => whnf
    have hw : IntKind.i64.wrap (0 - x) = -x := by rw [IntKind.wrap_i64]; omega
    rw [hw]
    refine ⟨⟨j + 1, by omega⟩, ⟨[0, 1, 2], ⟨rfl, ⟨rfl, rfl, rfl, rfl, rfl, rfl, trivial⟩, rfl⟩, rfl, rfl, rfl, eq_i64 ?_, rfl, rfl, eq_i64 ?_, trivial⟩, ?_⟩
    · rw [← hsn]
      rw [show (bif false then if -x < x then -x else x else if -x > x then -x else x) = ((x.natAbs : Nat) : Int) by show (if -x > x then -x else x) = _; split <;> omega, nadd, nwrapi (by omega)]
    · rw [nadd, nwrapi (by omega)]
    · show ys.length - (j + 1) < ys.length - j
      omega
  · have h3 : ys.length ≤ j := lt_f h3
    rw [List.take_of_length_le h3]
    rw [ha]
    conv => whnf
    refine CallsA.lift (H0 := [intB ys]) [0] rfl ⟨rfl, rfl, trivial⟩ rfl (cPulseIndexV w0 hn hn2 hk hk2 ha hv) ?_
    rintro _ _ ⟨rfl, rfl⟩
    conv => whnf
    exact Or.inr ⟨[0], .t [.c (.val (.int .u32 (codeOf ys k : Nat))), .c (.val (.int .i64 ((0 : Nat) : Int)))], [intB ys], ⟨rfl, ⟨rfl, rfl, trivial⟩, rfl⟩, rfl, rfl, rfl⟩
end Go.Proofs.YtkomikpfnogjcaaDoor
