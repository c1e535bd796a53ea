/- The encoder writes a whole number, and one by Laplace's shares. -/
import Derived.Test.YtkomikpfnogjcaaDoorRnD
namespace Go.Proofs.YtkomikpfnogjcaaDoor
open Go Go.Vc
set_option maxRecDepth 100000

def EncS.M2 (e : EncS) : List Blk := [e.blk 5 6, .dead, .dead, .dead, .dead, byteBlk e.buf, byteBlk e.tail]
theorem EncS.finM2 {e : EncS} : Go.Vc.Fin 3 (fun r H => r = .t [] ∧ H = e.M) (.t []) e.M2 := EncS.finM 5 6 rfl rfl rfl (Nat.le_of_ble_eq_true rfl) rfl
/-- One more operation upon a state that has moved. -/
theorem liftM {w0 : World} {f : FuncId} {cs : List CV} {e e' : EncS} (h : CallsA Tryd.prog w0 f (.c (.ptr 0 0) :: cs.map .c) e.H fun r H => r = .t [] ∧ H = e'.M) (has : cs.map (CV.ren [0, 3, 4]) = cs) : CallsA Tryd.prog w0 f (.c (.ptr 0 0) :: cs.map .c) e.M fun r H => r = .t [] ∧ H = e'.M2 := by
  refine CallsA.lift (H0 := e.H) [0, 3, 4] rfl ⟨rfl, rfl, rfl, rfl, rfl, rfl, trivial⟩ ?_ h ?_
  · have : ∀ l : List CV, (l.map A1.c).map (A1.ren [0, 3, 4]) = (l.map (CV.ren [0, 3, 4])).map A1.c := by
      intro l
      simp only [List.map_map]
      rfl
    show A1.ren [0, 3, 4] (.c (.ptr 0 0)) :: (cs.map A1.c).map (A1.ren [0, 3, 4]) = _
    rw [this, has]
    rfl
  · rintro _ _ ⟨rfl, rfl⟩
    exact ⟨rfl, rfl⟩

def EncS.whole (e : EncS) (n v : Nat) : EncS :=
  if len (n - 1) ≤ 8 then e.cum v (v + 1) n
  else (e.cum (v / 2 ^ (len (n - 1) - 8)) (v / 2 ^ (len (n - 1) - 8) + 1) ((n - 1) / 2 ^ (len (n - 1) - 8) + 1)).raw (len (n - 1) - 8) (v % 2 ^ (len (n - 1) - 8))
theorem EncS.whole_inv {e : EncS} {N n v : Nat} (h : e.inv N) (hn : 1 ≤ n) (hn2 : n < 4294967296) : (e.whole n v).inv (N + 4) := by
  unfold EncS.whole
  have h3 := len_le (n := n - 1) (k := 32) (by omega)
  split
  · rename_i hl
    have := small_of_len hl
    exact (EncS.cum_inv h (by omega)).mono (by omega)
  · rename_i hl
    obtain ⟨h1, h2⟩ := top_small (n := n - 1) (by omega)
    exact EncS.raw_inv (EncS.cum_inv h (by omega)) (by omega)
theorem encUniform (w0 : World) (e : EncS) {N : Nat} (hN : N ≤ 1048400) (h : e.inv N) {n v : Nat} (hn : 2 ≤ n) (hn2 : n < 4294967296) (hv : v < n) :
    CallsA Tryd.prog w0 22 [.c (.ptr 0 0), .c (.val (.int .u32 n)), .c (.val (.int .u32 v))] e.H fun r H => r = .t [] ∧ H = (e.whole n v).M := by
  have h32 := len_le (n := n - 1) (k := 32) (by omega)
  have hwh : e.whole n v = if len (n - 1) ≤ 8 then e.cum v (v + 1) n
    else (e.cum (v / 2 ^ (len (n - 1) - 8)) (v / 2 ^ (len (n - 1) - 8) + 1) ((n - 1) / 2 ^ (len (n - 1) - 8) + 1)).raw (len (n - 1) - 8) (v % 2 ^ (len (n - 1) - 8)) := rfl
  generalize e.whole n v = res at *
  refine callsA_of_ev c22_ ?_
  conv => whnf
  refine Or.inl ?_
  conv => whnf
  refine ⟨fun c1 => absurd (le_t c1) (by omega), fun _ => ?_⟩
  conv => whnf
  refine Or.inl ?_
  conv => whnf
  refine ⟨fun c1 => absurd (ge_t c1) (by omega), fun _ => ?_⟩
  conv => whnf
  rw [nsub (a := n) (b := 1) (by omega), nwrap32 (n := n - 1) (by omega)]
  refine (len32 w0 e.H (n := n - 1) (by omega)).mono ?_
  rintro _ _ ⟨rfl, rfl⟩
  conv => whnf
  refine Or.inl ?_
  conv => whnf
  refine ⟨fun c1 => ?_, fun c1 => ?_⟩
  · have c1 : len (n - 1) ≤ 8 := le_t c1
    have hsm := small_of_len c1
    rw [if_pos c1] at hwh
    conv => whnf
    rw [nadd v 1, nwrap32 (n := v + 1) (by omega)]
    refine (cumW w0 e (by omega) h (lo := v) (hi := v + 1) (n := n) (by omega) (by omega) (by omega)).mono ?_
    rintro _ _ ⟨rfl, rfl⟩
    conv => whnf
    exact Or.inl ⟨rfl, by rw [hwh]⟩
  · have c1 : 8 < len (n - 1) := le_f c1
    rw [if_neg (by omega)] at hwh
    obtain ⟨t1, t2⟩ := top_small c1
    have hv2 : v / 2 ^ (len (n - 1) - 8) ≤ (n - 1) / 2 ^ (len (n - 1) - 8) := Nat.div_le_div_right (by omega)
    have hinv : (e.cum (v / 2 ^ (len (n - 1) - 8)) (v / 2 ^ (len (n - 1) - 8) + 1) ((n - 1) / 2 ^ (len (n - 1) - 8) + 1)).inv (N + 3) := EncS.cum_inv h (by omega)
    have hk : len (n - 1) - 8 ≤ 24 := by omega
    have hnk : ((len (n - 1) : Nat) : Int) - ((8 : Nat) : Int) = ((len (n - 1) - 8 : Nat) : Int) := nsub (by omega)
    generalize len (n - 1) - 8 = k at *
    conv => whnf
    rw [hnk]
    clear hnk
    have hka : IntKind.i64.wrap ((k : Nat) : Int) = ((k : Nat) : Int) := nwrapi (by omega)
    rw [hka]
    refine ⟨by omega, ?_⟩
    conv => whnf
    refine ⟨by omega, ?_⟩
    conv => whnf
    have e1 : ((v : Nat) : Int).fdiv (2 ^ min ((k : Nat) : Int).toNat IntKind.u32.bits) = ((v / 2 ^ k : Nat) : Int) := by rw [nshrv32 _ _ (by omega)]
    have e2 : IntKind.u32.wrap (((v / 2 ^ k : Nat) : Int) + ((1 : Nat) : Int)) = ((v / 2 ^ k + 1 : Nat) : Int) := by rw [nadd, nwrap32 (by omega)]
    have e3 : IntKind.u32.wrap ((((n - 1 : Nat) : Int).fdiv (2 ^ min ((k : Nat) : Int).toNat IntKind.u32.bits)) + ((1 : Nat) : Int)) = (((n - 1) / 2 ^ k + 1 : Nat) : Int) := by rw [nshrv32 _ _ (by omega), nadd, nwrap32 (by omega)]
    rw [e1, e2, e3]
    clear e1 e2 e3
    refine (cumW w0 e (by omega) h (lo := v / 2 ^ k) (hi := v / 2 ^ k + 1) (n := (n - 1) / 2 ^ k + 1) (by omega) (by omega) (by omega)).mono ?_
    rintro _ _ ⟨rfl, rfl⟩
    generalize e.cum (v / 2 ^ k) (v / 2 ^ k + 1) ((n - 1) / 2 ^ k + 1) = f at *
    conv => whnf
    rw [nwrap64 (n := k) (by omega)]
    refine CallsA.lift (H0 := f.H) [0, 3, 4] rfl ⟨rfl, rfl, rfl, rfl, rfl, rfl, trivial⟩ rfl (bitMaskW w0 f.H (n := k) (by omega)) ?_
    rintro _ _ ⟨rfl, rfl⟩
    conv => whnf
    have hp : 2 ^ k ≤ 2 ^ 24 := Nat.pow_le_pow_right (by omega) hk
    have hp0 : 1 ≤ 2 ^ k := Nat.one_le_two_pow
    have hmask : IntKind.u32.wrap ((BitVec.ofInt IntKind.u32.bits (v : Int) &&& BitVec.ofInt IntKind.u32.bits ((2 ^ k - 1 : Nat) : Int)).toNat : Nat) = ((v % 2 ^ k : Nat) : Int) := by
      rw [nand32 (by omega) (by omega), nand_mask]
    rw [hmask]
    have hvm : v % 2 ^ k ≤ v := Nat.mod_le _ _
    refine CallsA.lift (H0 := f.H) [0, 3, 4] rfl ⟨rfl, rfl, rfl, rfl, rfl, rfl, trivial⟩ rfl (rawW w0 f (by omega) hinv (n := k) (v := v % 2 ^ k) (by omega) (by omega)) ?_
    rintro _ _ ⟨rfl, rfl⟩
    conv => whnf
    rw [hwh]
    exact EncS.finM2

def lapE (decay : Nat) : Nat → Nat × Nat × Nat → Nat × Nat × Nat
  | 0, s => s
  | n + 1, (m, l, f) => if 1 < f then lapE decay n (m + 1, l + 2 * f, (2 * f - 2) * decay / 32768 + 1) else (m, l, f)
def lapT (mag : Nat) (p : Nat × Nat × Nat) : Nat × Nat := if p.1 < mag then (p.2.1 + 2 * (mag - p.1), 1) else (p.2.1, p.2.2)
def lapInt (fs decay : Nat) (v : Int) : Nat × Nat :=
  if v = 0 then (0, min fs 32768)
  else
    let p := lapT v.natAbs (lapE decay (v.natAbs - 1) (1, fs, lapFirst fs decay + 1))
    if v < 0 then (min p.1 32768, min (p.1 + p.2) 32768) else (min (p.1 + p.2) 32768, min (p.1 + p.2 + p.2) 32768)

theorem nmin (a b : Nat) : (bif true then (if (b : Int) < (a : Int) then (b : Int) else (a : Int)) else (if (b : Int) > (a : Int) then (b : Int) else (a : Int))) = ((min a b : Nat) : Int) := by
  simp only [cond_true]
  split <;> omega
theorem lapIntW (w0 : World) (H : List Blk) {fs decay : Nat} {v : Int} (h1 : fs ≤ 32000) (h2 : decay ≤ 16000) (h3 : -10000 < v) (h4 : v < 10000) :
    CallsA Tryd.prog w0 88 [.c (.val (.int .u32 fs)), .c (.val (.int .u32 decay)), .c (.val (.int .i64 v))] H fun r H' => r = .t [.c (.val (.int .u32 (lapInt fs decay v).1)), .c (.val (.int .u32 (lapInt fs decay v).2))] ∧ H' = H := by
  refine CallsA_frame rfl rfl ?_ H
  have hlf := lapFirst_lt (fs := fs) (decay := decay)
  refine callsA_of_ev c88_ ?_
  conv => whnf
  refine Or.inl ?_
  conv => whnf
  refine ⟨fun c1 => ?_, fun c1 => ?_⟩
  · have c1 : v = 0 := by simpa using c1
    subst c1
    conv => whnf
    rw [nmin]
    exact Or.inl ⟨rfl, rfl⟩
  · have c1 : v ≠ 0 := by simpa using c1
    have hint : lapInt fs decay v = (let p := lapT v.natAbs (lapE decay (v.natAbs - 1) (1, fs, lapFirst fs decay + 1))
      if v < 0 then (min p.1 32768, min (p.1 + p.2) 32768) else (min (p.1 + p.2) 32768, min (p.1 + p.2 + p.2) 32768)) := if_neg c1
    generalize lapInt fs decay v = res at *
    conv => whnf
    refine Or.inr ⟨Unit, fun _ => ⟨[(0, .o (.c (.val (.int .u32 fs)))), (1, .o (.c (.val (.int .u32 decay)))), (2, .o (.c (.val (.int .i64 v)))), (8, .o (.c (.val (.int .i64 (v.natAbs : Nat)))))], []⟩, ?_, fun _ => ?_⟩
    · conv => whnf
      refine ⟨fun c2 => ?_, fun c2 => ?_⟩
      · have c2 : v < 0 := of_decide_eq_true c2
        conv => whnf
        refine ⟨(), [], ⟨rfl, trivial, rfl⟩, rfl, rfl, rfl, eq_i64 ?_, trivial⟩
        rw [IntKind.wrap_i64]
        omega
      · have c2 : ¬ v < 0 := of_decide_eq_false c2
        conv => whnf
        refine ⟨(), [], ⟨rfl, trivial, rfl⟩, rfl, rfl, rfl, eq_i64 ?_, trivial⟩
        omega
    · have hm1 : 1 ≤ v.natAbs := by omega
      have hm2 : v.natAbs ≤ 10000 := by omega
      generalize v.natAbs = mag at *
      conv => whnf
      refine (lapFirstW w0 [] (fs := fs) (decay := decay) (by omega) (by omega)).mono ?_
      rintro _ _ ⟨rfl, rfl⟩
      conv => whnf
      rw [nadd, nwrap32 (n := lapFirst fs decay + 1) (by omega)]
      refine Or.inr ⟨{p : Nat × Nat × Nat // p = lapE decay (mag - 1) (1, fs, lapFirst fs decay + 1) ∧ p.2.2 ≤ 16385 ∧ p.2.1 ≤ fs + 32770 * p.1 ∧ p.1 ≤ mag}, fun ⟨(m, l, f), _⟩ => ⟨[(2, .o (.c (.val (.int .i64 v)))), (8, .o (.c (.val (.int .i64 (mag : Nat))))), (9, .o (.c (.val (.int .u32 l)))), (10, .o (.c (.val (.int .u32 f)))), (11, .o (.c (.val (.int .i64 (m : Nat)))))], []⟩, ?_, ?_⟩
      · conv => whnf
        refine ⟨{p : Nat × Nat × Nat // lapE decay (mag - p.1) p = lapE decay (mag - 1) (1, fs, lapFirst fs decay + 1) ∧ p.2.2 ≤ 16385 ∧ p.2.1 ≤ fs + 32770 * p.1 ∧ p.1 ≤ mag}, fun ⟨(m, l, f), _⟩ => ⟨[(1, .o (.c (.val (.int .u32 decay)))), (2, .o (.c (.val (.int .i64 v)))), (8, .o (.c (.val (.int .i64 (mag : Nat))))), (9, .o (.c (.val (.int .u32 l)))), (10, .o (.c (.val (.int .u32 f)))), (11, .o (.c (.val (.int .i64 (m : Nat)))))], []⟩, fun p => mag - p.1.1, ⟨⟨(1, fs, lapFirst fs decay + 1), rfl, by simp only; omega, by simp only; omega, hm1⟩, [], ⟨rfl, trivial, rfl⟩, rfl, rfl, rfl, rfl, rfl, rfl, trivial⟩, fun ⟨(m, l, f), hgo, hf, hl, hm⟩ => ?_⟩
        simp only at hgo hf hl hm
        have hmul := lapMul hf (show decay ≤ 16384 by omega)
        conv => whnf
        refine ⟨fun c2 => ?_, fun c2 => ?_⟩
        · have c2 : m < mag := lt_t c2
          conv => whnf
          refine ⟨fun c3 => ?_, fun c3 => ?_⟩
          · have c3 : 1 < f := gt_t c3
            conv => whnf
            refine ⟨⟨(m + 1, l + 2 * f, (2 * f - 2) * decay / 32768 + 1), ?_, ?_, ?_, c2⟩, ⟨[], ⟨rfl, trivial, rfl⟩, rfl, rfl, rfl, eq_u32 ?_, eq_u32 ?_, eq_i64 ?_, trivial⟩, ?_⟩
            · rw [← hgo, show mag - m = (mag - (m + 1)) + 1 by omega]
              show _ = if 1 < f then _ else _
              rw [if_pos c3]
            · show (2 * f - 2) * decay / 32768 + 1 ≤ 16385
              omega
            · show l + 2 * f ≤ fs + 32770 * (m + 1)
              omega
            · rw [nmul, nwrap32 (n := 2 * f) (by omega), nadd, nwrap32 (by omega)]
            · rw [nmul, nwrap32 (n := 2 * f) (by omega), nsub (by omega), nwrap32 (n := 2 * f - 2) (by omega), nmul, nwrap32 (n := (2 * f - 2) * decay) (by omega), nshr32 _ _ (by omega), nadd, nwrap32 (by omega)]
            · rw [nadd, nwrapi (by omega)]
            · show mag - (m + 1) < mag - m
              omega
          · have c3 : f ≤ 1 := gt_f c3
            conv => whnf
            refine ⟨⟨(m, l, f), ?_, hf, hl, hm⟩, [], ⟨rfl, trivial, rfl⟩, rfl, rfl, rfl, rfl, rfl, trivial⟩
            rw [← hgo, show mag - m = (mag - (m + 1)) + 1 by omega]
            show _ = if 1 < f then _ else _
            rw [if_neg (by omega)]
        · have c2 : mag ≤ m := lt_f c2
          conv => whnf
          refine ⟨⟨(m, l, f), ?_, hf, hl, hm⟩, [], ⟨rfl, trivial, rfl⟩, rfl, rfl, rfl, rfl, rfl, trivial⟩
          rw [← hgo, show mag - m = 0 by omega]
          rfl
      · intro ⟨(m, l, f), hgo, hf, hl, hm⟩
        rw [← hgo] at hint
        simp only at hf hl hm hint
        conv => whnf
        refine Or.inr ⟨Unit, fun _ => ⟨[(2, .o (.c (.val (.int .i64 v)))), (9, .o (.c (.val (.int .u32 (lapT mag (m, l, f)).1)))), (10, .o (.c (.val (.int .u32 (lapT mag (m, l, f)).2))))], []⟩, ?_, fun _ => ?_⟩
        · conv => whnf
          refine ⟨fun c2 => ?_, fun c2 => ?_⟩
          · have c2 : m < mag := lt_t c2
            have hT : lapT mag (m, l, f) = (l + 2 * (mag - m), 1) := if_pos c2
            rw [hT]
            conv => whnf
            refine ⟨(), [], ⟨rfl, trivial, rfl⟩, rfl, eq_u32 ?_, rfl, trivial⟩
            rw [nsub (by omega), nwrapi (n := mag - m) (by omega), nwrap32 (n := mag - m) (by omega), nmul, nwrap32 (n := 2 * (mag - m)) (by omega), nmul, nwrap32 (n := 2 * (mag - m) * 1) (by omega), nadd, nwrap32 (by omega), Nat.mul_one]
          · have c2 : mag ≤ m := lt_f c2
            have hT : lapT mag (m, l, f) = (l, f) := if_neg (by simp only; omega)
            rw [hT]
            conv => whnf
            exact ⟨(), [], ⟨rfl, trivial, rfl⟩, rfl, rfl, rfl, trivial⟩
        · have hb : (lapT mag (m, l, f)).1 ≤ 400000000 ∧ (lapT mag (m, l, f)).2 ≤ 16385 := by
            unfold lapT
            split
            · constructor
              · show l + 2 * (mag - m) ≤ _
                omega
              · show 1 ≤ 16385
                omega
            · constructor
              · show l ≤ _
                omega
              · exact hf
          generalize lapT mag (m, l, f) = p at *
          obtain ⟨l', f'⟩ := p
          simp only at hb hint
          obtain ⟨hb1, hb2⟩ := hb
          conv => whnf
          refine Or.inl ?_
          conv => whnf
          refine ⟨fun c2 => ?_, fun c2 => ?_⟩
          · have c2 : v < 0 := of_decide_eq_true c2
            rw [if_pos c2] at hint
            rw [hint]
            conv => whnf
            rw [nadd, nwrap32 (n := l' + f') (by omega), nmin, nmin]
            exact Or.inl ⟨rfl, rfl⟩
          · have c2 : ¬ v < 0 := of_decide_eq_false c2
            rw [if_neg c2] at hint
            rw [hint]
            conv => whnf
            rw [nadd, nwrap32 (n := l' + f') (by omega), nadd, nwrap32 (n := l' + f' + f') (by omega), nmin, nmin]
            exact Or.inl ⟨rfl, rfl⟩

def EncS.lap (e : EncS) (fs decay : Nat) (v : Int) : EncS := e.cum (lapInt fs decay v).1 (lapInt fs decay v).2 32768
theorem lapInt_le (fs decay : Nat) (v : Int) : (lapInt fs decay v).1 ≤ 32768 ∧ (lapInt fs decay v).2 ≤ 32768 := by
  unfold lapInt
  split
  · exact ⟨Nat.zero_le _, Nat.min_le_right _ _⟩
  · simp only
    split
    · exact ⟨Nat.min_le_right _ _, Nat.min_le_right _ _⟩
    · exact ⟨Nat.min_le_right _ _, Nat.min_le_right _ _⟩
theorem encLaplace (w0 : World) (e : EncS) {N : Nat} (hN : N ≤ 1048400) (h : e.inv N) {fs decay : Nat} {v : Int} (h1 : fs ≤ 32000) (h2 : decay ≤ 16000) (h3 : -10000 < v) (h4 : v < 10000) :
    CallsA Tryd.prog w0 54 [.c (.ptr 0 0), .c (.val (.int .u32 fs)), .c (.val (.int .u32 decay)), .c (.val (.int .i64 v))] e.H fun r H => r = .t [] ∧ H = (e.lap fs decay v).M := by
  obtain ⟨l1, l2⟩ := lapInt_le fs decay v
  have hl : e.lap fs decay v = e.cum (lapInt fs decay v).1 (lapInt fs decay v).2 32768 := rfl
  refine callsA_of_ev c54_ ?_
  conv => whnf
  refine (lapIntW w0 e.H h1 h2 h3 h4).mono ?_
  rintro _ _ ⟨rfl, rfl⟩
  rw [hl]
  clear hl
  generalize lapInt fs decay v = q at *
  obtain ⟨lo, hi⟩ := q
  conv => whnf
  refine (cumW w0 e (by omega) h (lo := lo) (hi := hi) (n := 32768) (by simp only at l1; omega) (by simp only at l2; omega) (by omega)).mono ?_
  rintro _ _ ⟨rfl, rfl⟩
  conv => whnf
  exact Or.inl ⟨rfl, rfl⟩
end Go.Proofs.YtkomikpfnogjcaaDoor
