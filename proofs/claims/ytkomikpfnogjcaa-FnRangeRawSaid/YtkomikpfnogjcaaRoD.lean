/- The reference writes a number by Laplace's shares. -/
import Derived.Test.YtkomikpfnogjcaaRoC
namespace Go.Proofs.Ytkomikpfnogjcaa
open Go Go.Vc
set_option maxRecDepth 100000

theorem nmax (a b : Int) : (bif false then (if b < a then b else a) else (if b > a then b else a)) = max a b := by
  simp only [cond_false]
  split <;> omega
theorem nmini (a b : Int) : (bif true then (if b < a then b else a) else (if b > a then b else a)) = min a b := by
  simp only [cond_true]
  split <;> omega
theorem wid {x : Int} (h1 : -9223372036854775808 ≤ x) (h2 : x < 9223372036854775808) : IntKind.i64.wrap x = x := by
  rw [IntKind.wrap_i64]
  omega
theorem wid32 {x : Int} (h1 : 0 ≤ x) (h2 : x < 4294967296) : IntKind.u32.wrap x = x := by
  rw [IntKind.wrap_u32]
  omega
theorem mostW {l : Nat} {sg : Int} (hl : l ≤ 400000000) (hsg : sg = 0 ∨ sg = -1) : IntKind.i64.wrap ((IntKind.i64.wrap (IntKind.i64.wrap (((32768 : Nat) : Int) - IntKind.i64.wrap ((l : Nat) : Int)) - sg)).fdiv (2 ^ min 1 IntKind.i64.bits) - ((1 : Nat) : Int)) = (32768 - (l : Int) - sg) / 2 - 1 := by
  have e1 : ((32768 : Nat) : Int) - (l : Int) = 32768 - (l : Int) := rfl
  rw [wid (x := (l : Int)) (by omega) (by omega), e1, wid (x := 32768 - (l : Int)) (by omega) (by omega), wid (x := 32768 - (l : Int) - sg) (by omega) (by omega)]
  show IntKind.i64.wrap (Int.fdiv _ 2 - 1) = _
  rw [Int.fdiv_eq_ediv_of_nonneg _ (by omega), wid (by omega) (by omega)]
theorem loW {l : Nat} {di sg : Int} (hl : l ≤ 400000000) (hsg : sg = 0 ∨ sg = -1) (h1 : -400000000 ≤ di) (h2 : di ≤ 400000000) (h3 : 0 ≤ (l : Int) + 2 * di + 1 + sg) : IntKind.u32.wrap (IntKind.i64.wrap (IntKind.i64.wrap (IntKind.i64.wrap (IntKind.i64.wrap ((l : Nat) : Int) + IntKind.i64.wrap (((2 : Nat) : Int) * di)) + ((1 : Nat) : Int)) + sg)) = (((l : Int) + 2 * di + 1 + sg).toNat : Int) := by
  have e2 : ((2 : Nat) : Int) * di = 2 * di := rfl
  have e1 : (l : Int) + 2 * di + ((1 : Nat) : Int) = (l : Int) + 2 * di + 1 := rfl
  rw [wid (x := (l : Int)) (by omega) (by omega), e2, wid (x := 2 * di) (by omega) (by omega), wid (x := (l : Int) + 2 * di) (by omega) (by omega), e1, wid (x := (l : Int) + 2 * di + 1) (by omega) (by omega), wid (x := (l : Int) + 2 * di + 1 + sg) (by omega) (by omega), wid32 h3 (by omega)]
  omega
theorem atW {m : Nat} {di sg : Int} (hm : m ≤ 20000) (hsg : sg = 0 ∨ sg = -1) (h1 : -400000000 ≤ di) (h2 : di ≤ 400000000) : IntKind.i64.wrap (IntKind.i64.wrap ((m : Int) + di) + sg) = (m : Int) + di + sg := by
  rw [wid (x := (m : Int) + di) (by omega) (by omega), wid (x := (m : Int) + di + sg) (by omega) (by omega)]
theorem diW {l m mag : Nat} {sg : Int} (hl : 1 ≤ l) (hl2 : l ≤ 400000000) (hm : m ≤ mag) (hm2 : mag ≤ 10000) (hsg : sg = 0 ∨ sg = -1) : -400000000 ≤ min ((mag : Int) - m) ((32768 - (l : Int) - sg) / 2 - 1) ∧ min ((mag : Int) - m) ((32768 - (l : Int) - sg) / 2 - 1) ≤ 400000000 ∧ 0 ≤ (l : Int) + 2 * min ((mag : Int) - m) ((32768 - (l : Int) - sg) / 2 - 1) + 1 + sg ∧ (l : Int) + 2 * min ((mag : Int) - m) ((32768 - (l : Int) - sg) / 2 - 1) + 1 + sg ≤ 32767 := by
  generalize hq : (32768 - (l : Int) - sg) / 2 - 1 = q
  rcases Int.le_total ((mag : Int) - m) q with h | h
  · rw [Int.min_eq_left h]
    omega
  · rw [Int.min_eq_right h]
    omega
theorem oneW {x : Int} (h1 : 0 ≤ x) (h2 : x ≤ 32767) : min ((1 : Nat) : Int) (IntKind.u32.wrap (((32768 : Nat) : Int) - x)) = ((1 : Nat) : Int) := by
  rw [wid32 (by omega) (by omega)]
  omega
def sgn (v : Int) : Int := if v < 0 then -1 else 0
theorem xor_sgn {v x : Int} (h1 : -4611686018427387904 < x) (h2 : x < 4611686018427387904) : IntKind.i64.wrap (((BitVec.ofInt IntKind.i64.bits x ^^^ BitVec.ofInt IntKind.i64.bits (sgn v)).toNat : Nat) : Int) = if v < 0 then -x - 1 else x := by
  unfold sgn
  show IntKind.i64.wrap (((BitVec.ofInt 64 x ^^^ BitVec.ofInt 64 (if v < 0 then -1 else 0)).toNat : Nat) : Int) = _
  split
  · have e1 : BitVec.ofInt 64 (-1) = BitVec.allOnes 64 := by decide
    have e2 : BitVec.ofInt 64 x ^^^ BitVec.allOnes 64 = ~~~(BitVec.ofInt 64 x) := BitVec.xor_allOnes
    rw [e1, e2, BitVec.toNat_not, BitVec.toNat_ofInt, IntKind.wrap_i64]
    omega
  · have e1 : BitVec.ofInt 64 0 = 0#64 := by decide
    have e2 : BitVec.ofInt 64 x ^^^ 0#64 = BitVec.ofInt 64 x := BitVec.xor_zero
    rw [e1, e2, BitVec.toNat_ofInt, IntKind.wrap_i64]
    omega
def rlapT (v : Int) (p : Nat × Nat × Nat) : Nat × Nat × Int :=
  if p.2.2 ≤ 1 then
    let di := min ((v.natAbs : Int) - p.1) ((32768 - (p.2.1 : Int) - sgn v) / 2 - 1)
    (((p.2.1 : Int) + 2 * di + 1 + sgn v).toNat, 1, if v < 0 then -(p.1 + di + sgn v) - 1 else p.1 + di + sgn v)
  else (if v < 0 then p.2.1 else p.2.1 + p.2.2, p.2.2, v)
/-- Where the reference's part begins, how wide it is, and the number that it came to. -/
def rlapP (fs decay : Nat) (v : Int) : Nat × Nat × Int :=
  if v = 0 then (0, fs, 0) else rlapT v (lapE decay (v.natAbs - 1) (1, fs, lapFirst fs decay + 1))
theorem lapE_facts (decay : Nat) (hd : decay ≤ 16384) : ∀ (n m l f : Nat), 1 ≤ f → f ≤ 16385 → 1 ≤ (lapE decay n (m, l, f)).2.2 ∧ (lapE decay n (m, l, f)).2.2 ≤ 16385 ∧ l ≤ (lapE decay n (m, l, f)).2.1 ∧ (lapE decay n (m, l, f)).2.1 ≤ l + 32770 * n ∧ m ≤ (lapE decay n (m, l, f)).1 ∧ (lapE decay n (m, l, f)).1 ≤ m + n ∧ (1 < (lapE decay n (m, l, f)).2.2 → (lapE decay n (m, l, f)).1 = m + n) := by
  intro n
  induction n with
  | zero =>
    intro m l f h1 h2
    exact ⟨h1, h2, Nat.le_refl _, Nat.le_refl _, Nat.le_refl _, Nat.le_refl _, fun _ => rfl⟩
  | succ n ih =>
    intro m l f h1 h2
    have hmul := lapMul h2 hd
    unfold lapE
    split
    · obtain ⟨a, b, c, d, e, g, k⟩ := ih (m + 1) (l + 2 * f) ((2 * f - 2) * decay / 32768 + 1) (by omega) (by omega)
      exact ⟨a, b, by omega, by omega, by omega, by omega, fun hh => by have := k hh; omega⟩
    · exact ⟨h1, h2, Nat.le_refl _, by show l ≤ _; omega, Nat.le_refl _, by show m ≤ _; omega, fun hh => by have hh : 1 < f := hh; omega⟩
theorem rlapT_facts {v : Int} {m l f N : Nat} (h1 : 1 ≤ f) (h2 : f ≤ 16385) (h3 : 1 ≤ l) (h4 : l ≤ N) (h5 : m ≤ v.natAbs) : 1 ≤ (rlapT v (m, l, f)).1 ∧ (rlapT v (m, l, f)).1 ≤ N + 32768 ∧ 1 ≤ (rlapT v (m, l, f)).2.1 ∧ (rlapT v (m, l, f)).2.1 ≤ 16385 := by
  unfold rlapT
  split
  · simp only
    unfold sgn
    split <;> omega
  · simp only
    split <;> omega

theorem rlapW (w0 : World) (e : EncS) {N : Nat} (hN : N ≤ 1048400) (h : e.rinv N) {fs decay : Nat} {v : Int} (h0 : 1 ≤ fs) (h1 : fs ≤ 32000) (h2 : decay ≤ 16000) (h3 : -10000 < v) (h4 : v < 10000) :
    CallsA Try.prog w0 58 [.c (.ptr 0 0), .c (.val (.int .i64 v)), .c (.val (.int .u32 fs)), .c (.val (.int .u32 decay))] e.RH fun r H => r = i64 (rlapP fs decay v).2.2 ∧ H = (e.rsym (rlapP fs decay v).1 ((rlapP fs decay v).1 + (rlapP fs decay v).2.1) 32768).norm.RM := by
  have hlf := lapFirst_lt (fs := fs) (decay := decay)
  refine callsA_of_ev c58_ ?_
  conv => whnf
  refine Or.inr ⟨Unit, fun _ => ⟨[(0, .o (.c (.ptr 0 0))), (9, .o (.c (.val (.int .u32 (rlapP fs decay v).1)))), (10, .o (.c (.val (.int .u32 (rlapP fs decay v).2.1)))), (11, .o (.c (.val (.int .i64 (rlapP fs decay v).2.2))))], e.RH⟩, ?_, fun _ => ?_⟩
  · conv => whnf
    refine ⟨fun c1 => ?_, fun c1 => ?_⟩
    · have c1 : v ≠ 0 := by simpa using c1
      have hP : rlapP fs decay v = rlapT v (lapE decay (v.natAbs - 1) (1, fs, lapFirst fs decay + 1)) := if_neg c1
      generalize rlapP fs decay v = res at *
      conv => whnf
      refine Or.inr ⟨Unit, fun _ => ⟨[(0, .o (.c (.ptr 0 0))), (1, .o (.c (.val (.int .i64 v)))), (2, .o (.c (.val (.int .u32 fs)))), (3, .o (.c (.val (.int .u32 decay)))), (10, .o (.c (.val (.int .u32 fs)))), (12, .o (.c (.val (.int .i64 (sgn v)))))], e.RH⟩, ?_, fun _ => ?_⟩
      · conv => whnf
        refine ⟨fun c2 => ?_, fun c2 => ?_⟩
        · have c2 : v < 0 := of_decide_eq_true c2
          have hs : sgn v = -1 := if_pos c2
          rw [hs]
          conv => whnf
          exact ⟨(), [0, 1, 2], ⟨rfl, ⟨rfl, rfl, rfl, rfl, rfl, rfl, trivial⟩, rfl⟩, rfl, rfl, rfl, rfl, rfl, rfl, trivial⟩
        · have c2 : ¬ v < 0 := of_decide_eq_false c2
          have hs : sgn v = 0 := if_neg c2
          rw [hs]
          conv => whnf
          exact ⟨(), [0, 1, 2], ⟨rfl, ⟨rfl, rfl, rfl, rfl, rfl, rfl, trivial⟩, rfl⟩, rfl, rfl, rfl, rfl, rfl, rfl, trivial⟩
      · conv => whnf
        refine CallsA.lift (H0 := []) [] rfl trivial rfl (sharesW w0 (fs := fs) (decay := decay) (by omega) (by omega)) ?_
        rintro _ _ ⟨rfl, rfl⟩
        have hmx : (bif false then (if IntKind.i64.wrap (0 - v) < v then IntKind.i64.wrap (0 - v) else v) else (if IntKind.i64.wrap (0 - v) > v then IntKind.i64.wrap (0 - v) else v)) = ((v.natAbs : Nat) : Int) := by
          rw [nmax, IntKind.wrap_i64]
          omega
        rw [hmx]
        have hm1 : 1 ≤ v.natAbs := by omega
        have hm2 : v.natAbs ≤ 10000 := by omega
        conv => whnf
        generalize hmag : v.natAbs = mag at *
        refine Or.inr ⟨{p : Nat × Nat × Nat // p = lapE decay (mag - 1) (1, fs, lapFirst fs decay + 1)}, fun ⟨(m, l, f), _⟩ => ⟨[(0, .o (.c (.ptr 0 0))), (1, .o (.c (.val (.int .i64 v)))), (9, .o (.c (.val (.int .u32 l)))), (10, .o (.c (.val (.int .u32 (f - 1 : Nat))))), (12, .o (.c (.val (.int .i64 (sgn v))))), (13, .o (.c (.val (.int .i64 (mag : Nat))))), (14, .o (.c (.val (.int .i64 (m : Nat)))))], e.RH⟩, ?_, ?_⟩
        · conv => whnf
          refine ⟨{p : Nat × Nat × Nat // lapE decay (mag - p.1) p = lapE decay (mag - 1) (1, fs, lapFirst fs decay + 1) ∧ 1 ≤ p.2.2 ∧ p.2.2 ≤ 16385 ∧ p.2.1 ≤ fs + 32770 * p.1 ∧ p.1 ≤ mag}, fun ⟨(m, l, f), _⟩ => ⟨[(0, .o (.c (.ptr 0 0))), (1, .o (.c (.val (.int .i64 v)))), (3, .o (.c (.val (.int .u32 decay)))), (9, .o (.c (.val (.int .u32 l)))), (10, .o (.c (.val (.int .u32 (f - 1 : Nat))))), (12, .o (.c (.val (.int .i64 (sgn v))))), (13, .o (.c (.val (.int .i64 (mag : Nat))))), (14, .o (.c (.val (.int .i64 (m : Nat)))))], e.RH⟩, fun p => mag - p.1.1, ⟨⟨(1, fs, lapFirst fs decay + 1), rfl, by simp only; omega, by simp only; omega, by simp only; omega, hm1⟩, [0, 1, 2], ⟨rfl, ⟨rfl, rfl, rfl, rfl, rfl, rfl, trivial⟩, rfl⟩, rfl, rfl, rfl, rfl, rfl, rfl, rfl, rfl, trivial⟩, fun ⟨(m, l, f), hgo, hf1, hf, hl, hm⟩ => ?_⟩
          simp only at hgo hf1 hf hl hm
          have hmul := lapMul hf (show decay ≤ 16384 by omega)
          conv => whnf
          refine ⟨fun c2 => ?_, fun c2 => ?_⟩
          · have c2 : 0 < f - 1 := gt_t c2
            conv => whnf
            refine ⟨fun c3 => ?_, fun c3 => ?_⟩
            · have c3 : m < mag := lt_t c3
              have e0 : IntKind.u32.wrap (((f - 1 : Nat) : Int) * ((2 : Nat) : Int)) = ((2 * f - 2 : Nat) : Int) := by
                rw [nmul, nwrap32 (by omega)]
                omega
              conv => whnf
              rw [e0]
              refine ⟨⟨(m + 1, l + 2 * f, (2 * f - 2) * decay / 32768 + 1), ?_, ?_, ?_, ?_, c3⟩, ⟨[0, 1, 2], ⟨rfl, ⟨rfl, rfl, rfl, rfl, rfl, rfl, trivial⟩, rfl⟩, rfl, rfl, rfl, eq_u32 ?_, eq_u32 ?_, rfl, rfl, eq_i64 ?_, trivial⟩, ?_⟩
              · rw [← hgo, show mag - m = (mag - (m + 1)) + 1 by omega]
                show _ = if 1 < f then _ else _
                rw [if_pos (by omega)]
              · show 1 ≤ (2 * f - 2) * decay / 32768 + 1
                omega
              · show (2 * f - 2) * decay / 32768 + 1 ≤ 16385
                omega
              · show l + 2 * f ≤ fs + 32770 * (m + 1)
                omega
              · rw [nadd, nwrap32 (n := 2 * f - 2 + 2) (by omega), nadd, nwrap32 (by omega)]
                omega
              · rw [nmul, nwrap32 (n := (2 * f - 2) * decay) (by omega), nshr32 _ _ (by omega)]
                omega
              · rw [nadd, nwrapi (by omega)]
              · show mag - (m + 1) < mag - m
                omega
            · have c3 : mag ≤ m := lt_f c3
              conv => whnf
              refine ⟨⟨(m, l, f), ?_⟩, [0, 1, 2], ⟨rfl, ⟨rfl, rfl, rfl, rfl, rfl, rfl, trivial⟩, rfl⟩, rfl, rfl, rfl, rfl, rfl, rfl, rfl, trivial⟩
              rw [← hgo, show mag - m = 0 by omega]
              rfl
          · have c2 : f - 1 ≤ 0 := gt_f c2
            conv => whnf
            refine ⟨⟨(m, l, f), ?_⟩, [0, 1, 2], ⟨rfl, ⟨rfl, rfl, rfl, rfl, rfl, rfl, trivial⟩, rfl⟩, rfl, rfl, rfl, rfl, rfl, rfl, rfl, trivial⟩
            rw [← hgo]
            rcases Nat.lt_or_ge m mag with hlt | hge
            · rw [show mag - m = (mag - (m + 1)) + 1 by omega]
              show _ = if 1 < f then _ else _
              rw [if_neg (by omega)]
            · rw [show mag - m = 0 by omega]
              rfl
        · intro ⟨(m, l, f), hgo⟩
          obtain ⟨a, b, c, d, q1, q2, q3⟩ := lapE_facts decay (by omega) (mag - 1) 1 fs (lapFirst fs decay + 1) (by omega) (by omega)
          rw [← hgo] at hP a b c d q1 q2 q3
          simp only at a b c d q1 q2 q3
          conv => whnf
          refine ⟨fun c2 => ?_, fun c2 => ?_⟩
          · have c2 : f - 1 = 0 := beq_t c2
            have hT : rlapT v (m, l, f) = (((l : Int) + 2 * min ((v.natAbs : Int) - m) ((32768 - (l : Int) - sgn v) / 2 - 1) + 1 + sgn v).toNat, 1, if v < 0 then -(m + min ((v.natAbs : Int) - m) ((32768 - (l : Int) - sgn v) / 2 - 1) + sgn v) - 1 else m + min ((v.natAbs : Int) - m) ((32768 - (l : Int) - sgn v) / 2 - 1) + sgn v) := if_pos (by simp only; omega)
            rw [hmag] at hT
            rw [hT] at hP
            subst hP
            clear hT
            have hsg : sgn v = 0 ∨ sgn v = -1 := by
              unfold sgn
              split
              · exact .inr rfl
              · exact .inl rfl
            have hA := mostW (l := l) (sg := sgn v) (by omega) hsg
            have hB : IntKind.i64.wrap ((mag : Int) - (m : Int)) = (mag : Int) - m := wid (by omega) (by omega)
            obtain ⟨d1, d2, d3, d4⟩ := diW (l := l) (m := m) (mag := mag) (sg := sgn v) (by omega) (by omega) (by omega) hm2 hsg
            have hX := loW (l := l) (by omega) hsg d1 d2 d3
            have hC := atW (m := m) (by omega) hsg d1 d2
            have hD := xor_sgn (v := v) (x := (m : Int) + min ((mag : Int) - m) ((32768 - (l : Int) - sgn v) / 2 - 1) + sgn v) (by omega) (by omega)
            have hE := oneW (x := (((l : Int) + 2 * min ((mag : Int) - m) ((32768 - (l : Int) - sgn v) / 2 - 1) + 1 + sgn v).toNat : Int)) (by omega) (by omega)
            clear d1 d2 d3 d4
            conv => whnf
            rw [hA, hB, nmini, hX, hC, hD, nmini, hE]
            exact ⟨(), [0, 1, 2], ⟨rfl, ⟨rfl, rfl, rfl, rfl, rfl, rfl, trivial⟩, rfl⟩, rfl, rfl, rfl, rfl, trivial⟩
          · have c2 : f - 1 ≠ 0 := beq_f c2
            have hT : rlapT v (m, l, f) = (if v < 0 then l else l + f, f, v) := if_neg (by simp only; omega)
            rw [hT] at hP
            subst hP
            clear hT
            have hfw : IntKind.u32.wrap (((f - 1 : Nat) : Int) + ((1 : Nat) : Int)) = ((f : Nat) : Int) := by
              rw [nadd, nwrap32 (by omega)]
              omega
            conv => whnf
            rw [hfw]
            refine Or.inl ?_
            conv => whnf
            refine ⟨fun c3 => ?_, fun c3 => ?_⟩
            · have c3 : sgn v = 0 := by simpa using c3
              have hv : ¬ v < 0 := by
                intro hv
                rw [show sgn v = -1 from if_pos hv] at c3
                omega
              rw [if_neg hv]
              conv => whnf
              rw [nadd, nwrap32 (n := l + f) (by omega)]
              exact ⟨(), [0, 1, 2], ⟨rfl, ⟨rfl, rfl, rfl, rfl, rfl, rfl, trivial⟩, rfl⟩, rfl, rfl, rfl, rfl, trivial⟩
            · have c3 : sgn v ≠ 0 := by simpa using c3
              have hv : v < 0 := by
                rcases Int.lt_or_le v 0 with hv | hv
                · exact hv
                · exact absurd (if_neg (by omega)) c3
              rw [if_pos hv]
              conv => whnf
              exact ⟨(), [0, 1, 2], ⟨rfl, ⟨rfl, rfl, rfl, rfl, rfl, rfl, trivial⟩, rfl⟩, rfl, rfl, rfl, rfl, trivial⟩
    · have c1 : v = 0 := by simpa using c1
      have hP : rlapP fs decay v = (0, fs, 0) := if_pos c1
      conv => whnf
      rw [hP]
      exact ⟨(), [0, 1, 2], ⟨rfl, ⟨rfl, rfl, rfl, rfl, rfl, rfl, trivial⟩, rfl⟩, rfl, rfl, rfl, rfl, trivial⟩
  · have hf : 1 ≤ (rlapP fs decay v).2.1 ∧ (rlapP fs decay v).2.1 ≤ 32000 ∧ (rlapP fs decay v).1 < 400000000 := by
      unfold rlapP
      split
      · exact ⟨h0, h1, by show 0 < _; omega⟩
      · obtain ⟨a, b, c, d, f, g, _⟩ := lapE_facts decay (by omega) (v.natAbs - 1) 1 fs (lapFirst fs decay + 1) (by omega) (by omega)
        generalize lapE decay (v.natAbs - 1) (1, fs, lapFirst fs decay + 1) = p at *
        obtain ⟨m, l, f'⟩ := p
        simp only at a b c d f g
        obtain ⟨q1, q2, q3, q4⟩ := rlapT_facts (v := v) (m := m) (l := l) (f := f') (N := 32000 + 32770 * 9999) a b (by omega) (by omega) (by omega)
        omega
    generalize rlapP fs decay v = res at *
    obtain ⟨lo, wd, at'⟩ := res
    simp only at hf
    conv => whnf
    rw [nadd, nwrap32 (n := lo + wd) (by omega)]
    refine (rsymW w0 e (by omega) h (lo := lo) (hi := lo + wd) (n := 32768) (by omega) (by omega) (fun hlo => by omega) (by omega) (by omega)).mono ?_
    rintro _ _ ⟨rfl, rfl⟩
    conv => whnf
    exact Or.inl ⟨rfl, rfl⟩
end Go.Proofs.Ytkomikpfnogjcaa
