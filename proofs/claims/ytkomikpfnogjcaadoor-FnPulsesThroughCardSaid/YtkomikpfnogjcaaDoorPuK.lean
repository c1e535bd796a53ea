/- Vectors and numbers, by the reference. -/
import Derived.Test.YtkomikpfnogjcaaDoorPuJ
namespace Go.Proofs.YtkomikpfnogjcaaDoor
open Go Go.Vc
set_option maxRecDepth 100000
set_option maxHeartbeats 8000000

theorem vcap_vv {n k : Nat} (h : vv n k < 4294967296) : vcap n k = vv n k := Nat.min_eq_left (by omega)
theorem half_uu (m k : Nat) : (vv m k + vv (m + 1) k) / 2 = uu m (k + 1) := by
  have h1 := vv_uu m k
  have h2 := uu_step m k
  omega
structure siSt (ys : List Int) (k : Nat) (j q s : Nat) : Prop where
  jl : j ≤ ys.length
  am : amt (ys.drop j) = q
  cd : s + codeOf (ys.drop j) q = codeOf ys k
  qk : q ≤ k
theorem nwrap64' {n : Nat} (h : n < 18446744073709551616) : IntKind.u64.wrap (n : Int) = n := nwrap64 h

theorem sPulseIndexW (w0 : World) {ys : List Int} {a : Addr} {c k : Nat} (hb : ∀ (i : Nat) x, ys[i]? = some x → w0.cell? (a.add (i * 1)) = some (.int .i64 x)) (hn : 1 ≤ ys.length) (hn2 : ys.length ≤ 20) (hk : 1 ≤ k) (hk2 : k ≤ 20) (ha : amt ys = k) (hx : ∀ x ∈ ys, x.natAbs ≤ 20) :
    CallsA Tryd.prog w0 7 [.c (.val (.slice (some a) ys.length c))] [] fun r H => H = [] ∧ ((4294967296 ≤ vcap ys.length k ∧ ∃ y, r = .t [.c (.val (.int .u32 y)), .c (.val (.int .i64 ((2 : Nat) : Int)))]) ∨ (vv ys.length k < 4294967296 ∧ r = .t [.c (.val (.int .u32 (codeOf ys k : Nat))), .c (.val (.int .i64 ((1 : Nat) : Int)))])) := by
  refine callsA_of_ev c7_ ?_
  conv => whnf
  refine Or.inl ?_
  conv => whnf
  refine ⟨_root_.Fin (ys.length + 1), fun ⟨j, _⟩ => ⟨[(0, .o (.c (.val (.slice (some a) ys.length c)))), (4, .o (.c (.val (.int .i64 (amt (ys.take j) : Nat))))), (21, .o (.c (.val (.slice (some a) ys.length c)))), (22, .o (.c (.val (.int .i64 ys.length)))), (23, .o (.c (.val (.int .i64 j))))], []⟩, fun j => ys.length - j.1, ⟨⟨0, by omega⟩, [], ⟨rfl, trivial, rfl⟩, rfl, rfl, rfl, rfl, rfl, trivial⟩, fun ⟨j, hj⟩ => ?_⟩
  have htk := amt_take ys j
  conv => whnf
  refine ⟨fun h3 => ?_, fun h3 => ?_⟩
  · have h3 : j < ys.length := lt_t h3
    obtain ⟨x, hxj⟩ : ∃ x, ys[j]? = some x := ⟨_, List.getElem?_eq_getElem h3⟩
    have hxs := hx x (List.mem_of_getElem? hxj)
    have hsn := amt_snoc hxj
    have htk1 := amt_take ys (j + 1)
    conv => whnf
    refine Or.inl ?_
    conv => whnf
    refine ⟨by omega, ?_⟩
    conv => whnf
    refine ⟨_, hb j x hxj, rfl, ?_⟩
    conv => whnf
    refine Or.inl ?_
    conv => whnf
    refine ⟨fun g => absurd (of_decide_eq_true g) (by omega), fun _ => ?_⟩
    conv => whnf
    refine ⟨fun g => absurd (of_decide_eq_true g) (by omega), fun _ => ?_⟩
    conv => whnf
    have hw : IntKind.i64.wrap (0 - x) = -x := by rw [IntKind.wrap_i64]; omega
    rw [hw]
    refine ⟨⟨j + 1, by omega⟩, ⟨[], ⟨rfl, trivial, rfl⟩, rfl, eq_i64 ?_, rfl, rfl, eq_i64 ?_, trivial⟩, ?_⟩
    · rw [← hsn]
      rw [show (bif false then if -x < x then -x else x else if -x > x then -x else x) = ((x.natAbs : Nat) : Int) by show (if -x > x then -x else x) = _; split <;> omega, nadd, nwrapi (by omega)]
    · rw [nadd, nwrapi (by omega)]
    · show ys.length - (j + 1) < ys.length - j
      omega
  · have h3 : ys.length ≤ j := lt_f h3
    rw [List.take_of_length_le h3]
    rw [ha]
    conv => whnf
    refine Or.inl ?_
    conv => whnf
    refine (sCountW w0 (n := ys.length) (k := k) hn (by omega) (by omega)).mono ?_
    rintro _ _ ⟨rfl, ⟨hc, rfl⟩ | ⟨hc, rfl⟩⟩
    · conv => whnf
      refine ⟨fun _ => ?_, fun h => absurd h (by decide)⟩
      conv => whnf
      exact Or.inl ⟨rfl, .inl ⟨hc, _, rfl⟩⟩
    have hv : vv ys.length k < 4294967296 := by
      unfold vcap at hc
      omega
    obtain ⟨hcv, _⟩ := code_back ha
    conv => whnf
    refine ⟨fun h => absurd h (by decide), fun _ => ?_⟩
    conv => whnf
    refine Or.inl ?_
    conv => whnf
    refine ⟨{x : Nat × Nat × Nat // siSt ys k x.1 x.2.1 x.2.2}, fun ⟨⟨j, q, s⟩, _⟩ => ⟨[(4, .o (.c (.val (.int .i64 q)))), (7, .o (.c (.val (.int .i64 ys.length)))), (10, .o (.c (.val (.int .u64 s)))), (50, .o (.c (.val (.slice (some a) ys.length c)))), (51, .o (.c (.val (.int .i64 ys.length)))), (52, .o (.c (.val (.int .i64 j))))], []⟩, fun x => ys.length - x.1.1,
      ⟨⟨(0, k, 0), ⟨Nat.zero_le _, ha, Nat.zero_add _, Nat.le_refl _⟩⟩, [], ⟨rfl, trivial, rfl⟩, rfl, rfl, rfl, rfl, rfl, rfl, trivial⟩, fun ⟨⟨j, q, s⟩, hst⟩ => ?_⟩
    obtain ⟨hj, ham, hcode, hqk⟩ := hst
    simp only at hj ham hcode hqk
    conv => whnf
    refine ⟨fun h3 => ?_, fun h3 => ?_⟩
    · have h3 : j < ys.length := lt_t h3
      obtain ⟨x, hxj⟩ : ∃ x, ys[j]? = some x := ⟨_, List.getElem?_eq_getElem h3⟩
      obtain ⟨m, hm⟩ : ∃ m, m = ys.length - 1 - j := ⟨_, rfl⟩
      obtain ⟨r, hr, hrl⟩ : ∃ r, ys.drop j = x :: r ∧ r.length = m := by
        refine ⟨ys.drop (j + 1), ?_, by rw [List.length_drop]; omega⟩
        rw [List.drop_eq_getElem_cons h3]
        rw [List.getElem?_eq_getElem h3] at hxj
        rw [Option.some.inj hxj]
      have hr1 : ys.drop (j + 1) = r := by
        rw [← List.drop_drop, hr]
        rfl
      rw [hr] at ham hcode
      have ham : x.natAbs + amt r = q := ham
      have hcode : s + (uu r.length (q - x.natAbs) + (if x < 0 then uu r.length (q + 1) else 0) + codeOf r (q - x.natAbs)) = codeOf ys k := hcode
      rw [hrl] at hcode
      have hvm : vv (m + 1) q < 4294967296 := Nat.lt_of_le_of_lt (Nat.le_trans (vv_upm m hqk) (vv_leftm (by omega) k)) hv
      have hvm2 : ∀ z, z ≤ q → vv m z < 4294967296 := by
        intro z hz
        exact Nat.lt_of_le_of_lt (Nat.le_trans (vv_left m z) (vv_upm m hz)) hvm
      have hub := vv_uu m q
      have hst := uu_step m q
      conv => whnf
      refine Or.inl ?_
      conv => whnf
      refine ⟨by omega, ?_⟩
      conv => whnf
      refine ⟨_, hb j x hxj, rfl, ?_⟩
      conv => whnf
      rw [nsub (a := ys.length) (b := j) (by omega), nwrapi (n := ys.length - j) (by omega), nsub (a := ys.length - j) (b := 1) (by omega), nwrapi (n := ys.length - j - 1) (by omega), show ys.length - j - 1 = m by omega]
      refine (vectorsW w0 (n := m) (k := q) (by omega) (by omega)).mono ?_
      rintro _ _ ⟨rfl, rfl⟩
      conv => whnf
      rw [nsub (a := ys.length) (b := j) (by omega), nwrapi (n := ys.length - j) (by omega), show ys.length - j = m + 1 by omega]
      refine (vectorsW w0 (n := m + 1) (k := q) (by omega) (by omega)).mono ?_
      rintro _ _ ⟨rfl, rfl⟩
      rw [vcap_vv hvm, vcap_vv (hvm2 q (Nat.le_refl _))]
      conv => whnf
      rw [nadd (vv m q) (vv (m + 1) q), nwrap64 (n := vv m q + vv (m + 1) q) (by have := hvm2 q (Nat.le_refl _); omega)]
      rw [ntdiv (vv m q + vv (m + 1) q) 2, nwrap64 (n := (vv m q + vv (m + 1) q) / 2) (by have := hvm2 q (Nat.le_refl _); omega), half_uu]
      refine Or.inr ⟨Unit, fun _ => ⟨[(4, .o (.c (.val (.int .i64 q)))), (7, .o (.c (.val (.int .i64 ys.length)))), (10, .o (.c (.val (.int .u64 (s + (if x < 0 then uu m (q + 1) else 0) : Nat))))), (11, .o (.c (.val (.int .i64 j)))), (12, .o (.c (.val (.int .i64 x)))), (13, .o (.c (.val (.int .u64 (vv m q : Nat))))), (17, .o (.c (.val (.int .u64 (uu m (q + 1) : Nat))))), (50, .o (.c (.val (.slice (some a) ys.length c)))), (51, .o (.c (.val (.int .i64 ys.length)))), (52, .o (.c (.val (.int .i64 j))))], []⟩, ?_, ?_⟩
      · conv => whnf
        refine ⟨fun g => ?_, fun g => ?_⟩
        · have g : x < 0 := of_decide_eq_true g
          rw [if_pos g] at hcode
          conv => whnf
          refine ⟨(), [], ⟨rfl, trivial, rfl⟩, rfl, rfl, eq_u64 ?_, rfl, rfl, rfl, rfl, rfl, rfl, rfl, trivial⟩
          rw [if_pos g, nadd, nwrap64 (by omega)]
        · have g : ¬ x < 0 := of_decide_eq_false g
          conv => whnf
          refine ⟨(), [], ⟨rfl, trivial, rfl⟩, rfl, rfl, eq_u64 ?_, rfl, rfl, rfl, rfl, rfl, rfl, rfl, trivial⟩
          rw [if_neg g, Nat.add_zero]
      rintro ⟨⟩
      obtain ⟨s', hs'⟩ : ∃ s', s' = s + (if x < 0 then uu m (q + 1) else 0) := ⟨_, rfl⟩
      rw [← hs']
      have hcode' : s' + uu m (q - x.natAbs) + codeOf r (q - x.natAbs) = codeOf ys k := by omega
      conv => whnf
      rw [nsub (a := uu m (q + 1)) (b := vv m q) (by omega), nwrap64 (n := uu m (q + 1) - vv m q) (by have := hvm2 q (Nat.le_refl _); omega), show uu m (q + 1) - vv m q = uu m q by omega]
      refine Or.inl ?_
      conv => whnf
      have hw : IntKind.i64.wrap (0 - x) = -x := by rw [IntKind.wrap_i64]; omega
      rw [hw]
      refine ⟨{c' : Nat // c' ≤ x.natAbs}, fun ⟨c', _⟩ => ⟨[(4, .o (.c (.val (.int .i64 (q - (x.natAbs - c') : Nat))))), (7, .o (.c (.val (.int .i64 ys.length)))), (10, .o (.c (.val (.int .u64 s')))), (11, .o (.c (.val (.int .i64 j)))), (17, .o (.c (.val (.int .u64 (uu m (q - (x.natAbs - c')) : Nat))))), (18, .o (.c (.val (.int .i64 c')))), (50, .o (.c (.val (.slice (some a) ys.length c)))), (51, .o (.c (.val (.int .i64 ys.length)))), (52, .o (.c (.val (.int .i64 j))))], []⟩, fun c' => c'.1,
        ⟨⟨x.natAbs, Nat.le_refl _⟩, [], ⟨rfl, trivial, rfl⟩, eq_i64 (by rw [Nat.sub_self, Nat.sub_zero]), rfl, rfl, rfl, eq_u64 (by rw [Nat.sub_self, Nat.sub_zero]), eq_i64 ?_, rfl, rfl, rfl, trivial⟩, fun ⟨c', hc'⟩ => ?_⟩
      · show (if -x > x then -x else x) = _
        split <;> omega
      conv => whnf
      refine ⟨fun g => ?_, fun g => ?_⟩
      · have g : 0 < c' := gt_t g
        obtain ⟨z, hz⟩ : ∃ z, z = q - (x.natAbs - c') := ⟨_, rfl⟩
        have hz1 : q - (x.natAbs - (c' - 1)) = z - 1 := by omega
        have hz2 : 1 ≤ z := by omega
        have hsz := uu_step m (z - 1)
        rw [show z - 1 + 1 = z by omega] at hsz
        have hm1 := uu_mono m (show z ≤ q + 1 by omega)
        rw [← hz]
        conv => whnf
        rw [nsub (a := z) (b := 1) hz2, nwrapi (n := z - 1) (by omega), nsub (a := ys.length) (b := j) (by omega), nwrapi (n := ys.length - j) (by omega), nsub (a := ys.length - j) (b := 1) (by omega), nwrapi (n := ys.length - j - 1) (by omega), show ys.length - j - 1 = m by omega]
        refine (vectorsW w0 (n := m) (k := z - 1) (by omega) (by omega)).mono ?_
        rintro _ _ ⟨rfl, rfl⟩
        rw [vcap_vv (hvm2 (z - 1) (by omega))]
        conv => whnf
        refine ⟨⟨c' - 1, by omega⟩, ⟨[], ⟨rfl, trivial, rfl⟩, eq_i64 (by rw [hz1]), rfl, rfl, rfl, eq_u64 ?_, eq_i64 ?_, rfl, rfl, rfl, trivial⟩, ?_⟩
        · rw [hz1, nsub (by omega), nwrap64 (by omega), show uu m z - vv m (z - 1) = uu m (z - 1) by omega]
        · rw [nsub (by omega), nwrapi (by omega)]
        · show c' - 1 < c'
          omega
      · have g : c' ≤ 0 := gt_f g
        obtain rfl : c' = 0 := by omega
        rw [Nat.sub_zero]
        conv => whnf
        refine ⟨⟨(j + 1, q - x.natAbs, s' + uu m (q - x.natAbs)), ⟨by show j + 1 ≤ ys.length; omega, ?_, ?_, ?_⟩⟩, ⟨[], ⟨rfl, trivial, rfl⟩, rfl, rfl, eq_u64 ?_, rfl, rfl, eq_i64 ?_, trivial⟩, ?_⟩
        · show amt (ys.drop (j + 1)) = q - x.natAbs
          rw [hr1]
          omega
        · show s' + uu m (q - x.natAbs) + codeOf (ys.drop (j + 1)) (q - x.natAbs) = codeOf ys k
          rw [hr1]
          exact hcode'
        · show q - x.natAbs ≤ k
          omega
        · rw [nadd, nwrap64 (by omega)]
        · rw [nadd, nwrapi (by omega)]
        · show ys.length - (j + 1) < ys.length - j
          omega
    · have h3 : ys.length ≤ j := lt_f h3
      rw [List.drop_eq_nil_of_le h3] at hcode
      have hcode : s + 0 = codeOf ys k := hcode
      conv => whnf
      refine Or.inl ⟨rfl, .inr ⟨hv, ?_⟩⟩
      rw [← hcode]
      show AV.t [.c (.val (.int .u32 (IntKind.u32.wrap (s : Int)))), .c (.val (.int .i64 ((1 : Nat) : Int)))] = _
      rw [nwrap32 (n := s) (by omega)]
      rfl
end Go.Proofs.YtkomikpfnogjcaaDoor
