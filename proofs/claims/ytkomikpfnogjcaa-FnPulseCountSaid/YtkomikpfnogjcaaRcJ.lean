/- Laplace's symbols. -/
import Derived.Test.YtkomikpfnogjcaaRcI
namespace Go.Proofs.Ytkomikpfnogjcaa
open Go Go.Vc
set_option maxRecDepth 100000

def lapFirst (fs decay : Nat) : Nat := (32736 - fs) * (16384 - decay) / 32768
def lapGo (decay sym : Nat) : Nat → Nat × Nat × Nat → Nat × Nat × Nat
  | 0, s => s
  | n + 1, (v, l, f) => if 1 < f ∧ l + 2 * f ≤ sym then lapGo decay sym n (v + 1, l + 2 * f, (2 * f - 2) * decay / 32768 + 1) else (v, l, f)
/-- The value, where its part begins and ends. -/
def lap (fs decay sym : Nat) : Int × Nat × Nat :=
  if sym < fs then (0, 0, min fs 32768)
  else
    let (v, l, f) := lapGo decay sym sym (1, fs, lapFirst fs decay + 1)
    let x := if f ≤ 1 then (sym - l) / 2 else 0
    if sym < l + 2 * x + f then (-((v + x : Nat) : Int), l + 2 * x, min (l + 2 * x + f) 32768)
    else (((v + x : Nat) : Int), l + 2 * x + f, min (l + 2 * x + f + f) 32768)

theorem lapGo_stable (decay sym : Nat) : ∀ (n : Nat) (v l f m : Nat), sym - l ≤ n → sym - l ≤ m → lapGo decay sym n (v, l, f) = lapGo decay sym m (v, l, f) := by
  intro n
  induction n with
  | zero =>
    intro v l f m h1 h2
    cases m with
    | zero => rfl
    | succ m =>
      unfold lapGo
      rw [if_neg (by omega)]
  | succ n ih =>
    intro v l f m h1 h2
    cases m with
    | zero =>
      unfold lapGo
      rw [if_neg (by omega)]
    | succ m =>
      unfold lapGo
      split
      · exact ih _ _ _ m (by omega) (by omega)
      · rfl
theorem lapGo_done {decay sym v l f : Nat} (h : ¬ (1 < f ∧ l + 2 * f ≤ sym)) : ∀ n, lapGo decay sym n (v, l, f) = (v, l, f)
  | 0 => rfl
  | n + 1 => by
    unfold lapGo
    rw [if_neg h]
theorem lap_of {fs decay sym v l f : Nat} (h : fs ≤ sym) (hgo : lapGo decay sym sym (1, fs, lapFirst fs decay + 1) = (v, l, f)) {x : Nat} (hx : x = if f ≤ 1 then (sym - l) / 2 else 0) :
    lap fs decay sym = if sym < l + 2 * x + f then (-((v + x : Nat) : Int), l + 2 * x, min (l + 2 * x + f) 32768) else (((v + x : Nat) : Int), l + 2 * x + f, min (l + 2 * x + f + f) 32768) := by
  unfold lap
  rw [if_neg (by omega), hgo, hx]
theorem lapFirst_lt {fs decay : Nat} : lapFirst fs decay ≤ 16368 := by
  have : (32736 - fs) * (16384 - decay) ≤ 32736 * 16384 := Nat.mul_le_mul (by omega) (by omega)
  unfold lapFirst
  omega
theorem lapMul {f decay : Nat} (hf : f ≤ 16385) (hd : decay ≤ 16384) : (2 * f - 2) * decay ≤ 32768 * 16384 := Nat.mul_le_mul (by omega) hd

theorem lapFirstW (w0 : World) (H : List Blk) {fs decay : Nat} (h1 : fs ≤ 32736) (h2 : decay ≤ 16384) : CallsA Try.prog w0 89 [.c (.val (.int .u32 fs)), .c (.val (.int .u32 decay))] H fun r H' => r = u32 (lapFirst fs decay) ∧ H' = H := by
  refine CallsA_frame rfl rfl ?_ H
  have h3 : (32736 - fs) * (16384 - decay) ≤ 32736 * 16384 := Nat.mul_le_mul (by omega) (by omega)
  refine callsA_of_ev c89_ ?_
  conv => whnf
  simp (disch := omega) only [nsub, nwrap32, nmul, nshr32]
  exact Or.inl ⟨rfl, trivial⟩

theorem lap_spec {fs decay sym : Nat} (h0 : 1 ≤ fs) (h : sym < 32768) : (lap fs decay sym).2.1 ≤ sym ∧ sym < (lap fs decay sym).2.2 ∧ (lap fs decay sym).2.2 ≤ 32768 := by
  have inv : ∀ (n v l f : Nat), l ≤ sym → 1 ≤ f → sym - l ≤ n → (lapGo decay sym n (v, l, f)).2.1 ≤ sym ∧ 1 ≤ (lapGo decay sym n (v, l, f)).2.2 ∧ ((lapGo decay sym n (v, l, f)).2.2 ≤ 1 ∨ sym < (lapGo decay sym n (v, l, f)).2.1 + 2 * (lapGo decay sym n (v, l, f)).2.2) := by
    intro n
    induction n with
    | zero =>
      intro v l f hl hf hn
      exact ⟨hl, hf, .inr (by show sym < l + 2 * f; omega)⟩
    | succ n ih =>
      intro v l f hl hf hn
      unfold lapGo
      split
      · exact ih _ _ _ (by omega) (by omega) (by omega)
      · rename_i hc
        refine ⟨hl, hf, ?_⟩
        show f ≤ 1 ∨ sym < l + 2 * f
        omega
  unfold lap
  split
  · refine ⟨?_, ?_, ?_⟩ <;> simp only <;> omega
  · rename_i hge
    have := inv sym 1 fs (lapFirst fs decay + 1) (by omega) (by omega) (by omega)
    generalize lapGo decay sym sym (1, fs, lapFirst fs decay + 1) = q at *
    obtain ⟨v, l, f⟩ := q
    simp only at this ⊢
    obtain ⟨a, b, c⟩ := this
    split <;> split <;> (refine ⟨?_, ?_, ?_⟩ <;> simp only <;> omega)

def Dec.lapl (d : Dec) (fs decay : Nat) : Int × Dec :=
  ((lap fs decay (d.at 32768)).1, (d.cut (d.rng / 32768) (lap fs decay (d.at 32768)).2.1 (lap fs decay (d.at 32768)).2.2 32768).norm)
theorem Dec.lapl_inv {d : Dec} {N fs decay : Nat} (h : d.inv N) (hN : N ≤ 1152921504606846976) (h1 : 1 ≤ fs) : (d.lapl fs decay).2.inv (N + 24) ∧ (d.lapl fs decay).2.data = d.data ∧ (d.lapl fs decay).2.rb = d.rb := by
  have hat := (d.at_spec h (n := 32768) (by omega) (by omega)).1
  obtain ⟨a, b, c⟩ := lap_spec (fs := fs) (decay := decay) h1 hat
  exact Dec.cut_inv h hN (by omega) (by omega) a b c

theorem laplace (w0 : World) {d : Dec} {N fs decay : Nat} (h : d.inv N) (hN : N ≤ 1152921504606846976) (h1 : 1 ≤ fs) (h2 : fs ≤ 32000) (h3 : decay ≤ 16000) :
    CallsA Try.prog w0 46 [.c (.ptr 0 0), .c (.val (.int .u32 fs)), .c (.val (.int .u32 decay))] d.H fun r H => r = i64 (d.lapl fs decay).1 ∧ H = (d.lapl fs decay).2.H := by
  have hlo := h.lo; have hhi := h.hi; have hv := h.val
  have hat := (d.at_spec h (n := 32768) (by omega) (by omega)).1
  have hspec := lap_spec (fs := fs) (decay := decay) h1 hat
  have hlf := lapFirst_lt (fs := fs) (decay := decay)
  have hdef : d.lapl fs decay = ((lap fs decay (d.at 32768)).1, (d.cut (d.rng / 32768) (lap fs decay (d.at 32768)).2.1 (lap fs decay (d.at 32768)).2.2 32768).norm) := rfl
  have hupd : ∀ x l m, lap fs decay (d.at 32768) = (x, l, m) → CallsA Try.prog w0 84 [.c (.ptr 0 0), .c (.val (.int .u32 (d.rng / 32768 : Nat))), .c (.val (.int .u32 l)), .c (.val (.int .u32 m)), .c (.val (.int .u32 ((32768 : Nat) : Int)))] d.H fun r H => r = .t [] ∧ i64 x = i64 (d.lapl fs decay).1 ∧ H = (d.lapl fs decay).2.H := by
    intro x l m he
    rw [hdef, he]
    rw [he] at hspec
    exact (updateAt w0 h hN (n := 32768) (by omega) (by omega) hspec.1 hspec.2.1 hspec.2.2).mono fun r H hh => ⟨hh.1, rfl, hh.2⟩
  clear hdef
  generalize d.lapl fs decay = res at *
  refine callsA_of_ev c46_ ?_
  conv => whnf
  refine (uniSym w0 d (n := 32768) (by omega) (by omega) (by omega) (by omega)).mono ?_
  rintro _ _ ⟨rfl, rfl⟩
  generalize d.at 32768 = sym at *
  conv => whnf
  refine Or.inr ⟨{p : Int × Nat × Nat // lap fs decay sym = (p.1, p.2.1, min (p.2.1 + p.2.2) 32768) ∧ p.2.1 + p.2.2 < 1048576}, fun ⟨(x, l, f), _⟩ => ⟨[(0, .o (.c (.ptr 0 0))), (7, .o (.c (.val (.int .i64 x)))), (9, .o (.c (.val (.int .u32 l)))), (10, .o (.c (.val (.int .u32 f))))], d.H⟩, ?_, ?_⟩
  · conv => whnf
    refine ⟨fun h4 => ?_, fun h4 => ?_⟩
    · have h4 : fs ≤ sym := ge_t h4
      conv => whnf
      refine (lapFirstW w0 d.H (fs := fs) (decay := decay) (by omega) (by omega)).mono ?_
      rintro _ _ ⟨rfl, rfl⟩
      conv => whnf
      simp (disch := omega) only [nadd, nwrap32, nwrapi]
      refine Or.inr ⟨{p : Nat × Nat × Nat // p.2.1 ≤ sym ∧ 1 ≤ p.2.2 ∧ p.2.2 ≤ 16385 ∧ p.1 ≤ p.2.1 ∧ lapGo decay sym sym (1, fs, lapFirst fs decay + 1) = p ∧ (p.2.2 ≤ 1 ∨ sym < p.2.1 + 2 * p.2.2)}, fun ⟨(v, l, f), _⟩ => ⟨[(0, .o (.c (.ptr 0 0))), (7, .o (.c (.val (.int .i64 (v : Nat))))), (8, .o (.c (.val (.int .u32 sym)))), (9, .o (.c (.val (.int .u32 l)))), (10, .o (.c (.val (.int .u32 f))))], d.H⟩, ?_, ?_⟩
      · conv => whnf
        refine ⟨{p : Nat × Nat × Nat // p.2.1 ≤ sym ∧ 1 ≤ p.2.2 ∧ p.2.2 ≤ 16385 ∧ p.1 ≤ p.2.1 ∧ lapGo decay sym (sym - p.2.1) p = lapGo decay sym sym (1, fs, lapFirst fs decay + 1)}, fun ⟨(v, l, f), _⟩ => ⟨[(0, .o (.c (.ptr 0 0))), (1, .o (.c (.val (.int .u32 fs)))), (2, .o (.c (.val (.int .u32 decay)))), (7, .o (.c (.val (.int .i64 (v : Nat))))), (8, .o (.c (.val (.int .u32 sym)))), (9, .o (.c (.val (.int .u32 l)))), (10, .o (.c (.val (.int .u32 f))))], d.H⟩, fun p => sym - p.1.2.1, ⟨⟨(1, fs, lapFirst fs decay + 1), h4, by simp only; omega, by simp only; omega, by simp only; omega, lapGo_stable _ _ _ _ _ _ _ (Nat.le_refl _) (by omega)⟩, Dec.embH rfl ⟨rfl, rfl, rfl, rfl, rfl, rfl, rfl, trivial⟩⟩, fun ⟨(v, l, f), hl, hf, hf2, hvl, hgo⟩ => ?_⟩
        simp only at hl hf hf2 hvl hgo
        have hmul := lapMul hf2 (show decay ≤ 16384 by omega)
        conv => whnf
        refine ⟨fun h5 => ?_, fun h5 => ?_⟩
        · have h5 : 1 < f := gt_t h5
          conv => whnf
          simp (disch := omega) only [nmul, nadd, nwrap32]
          refine ⟨fun h6 => ?_, fun h6 => ?_⟩
          · have h6 : l + 2 * f ≤ sym := ge_t h6
            conv => whnf
            refine ⟨⟨(v + 1, l + 2 * f, (2 * f - 2) * decay / 32768 + 1), ?_, ?_, ?_, ?_, ?_⟩, Dec.embH rfl ⟨rfl, rfl, rfl, ?_, rfl, ?_, ?_, trivial⟩, ?_⟩
            · exact h6
            · show 1 ≤ (2 * f - 2) * decay / 32768 + 1
              omega
            · show (2 * f - 2) * decay / 32768 + 1 ≤ 16385
              omega
            · show v + 1 ≤ l + 2 * f
              omega
            · rw [← hgo]
              have e : sym - l = (sym - l - 1) + 1 := by omega
              rw [e]
              show _ = (if 1 < f ∧ l + 2 * f ≤ sym then _ else _)
              rw [if_pos ⟨h5, h6⟩]
              exact lapGo_stable _ _ _ _ _ _ _ (Nat.le_refl _) (by omega)
            · refine eq_i64 ?_
              try dsimp only
              rw [nadd, nwrapi (by omega)]
            · refine eq_u32 ?_
              try dsimp only
              rw [nmul, nwrap32 (n := f * 2) (by omega), nadd, nwrap32 (by omega)]
              omega
            · refine eq_u32 ?_
              try dsimp only
              rw [nmul, nwrap32 (n := f * 2) (by omega), nsub (by omega), nwrap32 (n := f * 2 - 2) (by omega), nmul, Nat.mul_comm f 2, nwrap32 (n := (2 * f - 2) * decay) (by omega), nshr32 _ _ (by omega), nadd, nwrap32 (by omega)]
            · show sym - (l + 2 * f) < sym - l
              omega
          · have h6 : sym < l + 2 * f := ge_f h6
            conv => whnf
            refine ⟨⟨(v, l, f), hl, hf, hf2, hvl, ?_, .inr h6⟩, Dec.embH rfl ⟨rfl, rfl, rfl, rfl, rfl, trivial⟩⟩
            rw [← hgo, lapGo_done (by omega)]
        · have h5 : f ≤ 1 := gt_f h5
          conv => whnf
          refine ⟨⟨(v, l, f), hl, hf, hf2, hvl, ?_, .inl h5⟩, Dec.embH rfl ⟨rfl, rfl, rfl, rfl, rfl, trivial⟩⟩
          rw [← hgo, lapGo_done (by omega)]
      · rintro ⟨⟨v, l, f⟩, hl, hf, hf2, hvl, hgo, hex⟩
        simp only at hl hf hf2 hvl hgo hex
        conv => whnf
        refine Or.inl ?_
        conv => whnf
        refine ⟨fun h5 => ?_, fun h5 => ?_⟩
        · have h5 : f ≤ 1 := le_t h5
          have hf1 : f = 1 := by omega
          subst hf1
          have hlap := lap_of h4 hgo (x := (sym - l) / 2) (by simp)
          conv => whnf
          simp (disch := omega) only [nsub, nwrap32, nshr32, nadd, nmul, nwrapi]
          refine ⟨fun h6 => ?_, fun h6 => ?_⟩
          · have h6 := lt_t h6
            conv => whnf
            rw [if_pos (by omega)] at hlap
            refine ⟨⟨(_, _, 1), hlap, ?_⟩, Dec.embH rfl ⟨rfl, ?_, ?_, rfl, trivial⟩⟩
            · simp only; omega
            · refine eq_i64 ?_
              try dsimp only
              simp only [IntKind.wrap_i64]
              omega
            · refine eq_u32 ?_
              try dsimp only
              omega
          · have h6 := lt_f h6
            conv => whnf
            rw [if_neg (by omega)] at hlap
            refine ⟨⟨(_, _, 1), hlap, ?_⟩, Dec.embH rfl ⟨rfl, ?_, ?_, rfl, trivial⟩⟩
            · simp only; omega
            · refine eq_i64 ?_
              try dsimp only
              skip
            · refine eq_u32 ?_
              try dsimp only
              simp (disch := omega) only [nadd, nwrap32]
              omega
        · have h5 : 1 < f := le_f h5
          have hlap := lap_of h4 hgo (x := 0) (by rw [if_neg (by omega)])
          conv => whnf
          simp (disch := omega) only [nwrap32, nadd]
          refine ⟨fun h6 => ?_, fun h6 => ?_⟩
          · have h6 := lt_t h6
            conv => whnf
            rw [if_pos (by omega)] at hlap
            refine ⟨⟨(_, _, f), hlap, ?_⟩, Dec.embH rfl ⟨rfl, ?_, ?_, rfl, trivial⟩⟩
            · simp only; omega
            · refine eq_i64 ?_
              try dsimp only
              simp only [IntKind.wrap_i64]
              omega
            · refine eq_u32 ?_
              try dsimp only
              omega
          · have h6 := lt_f h6
            conv => whnf
            rw [if_neg (by omega)] at hlap
            refine ⟨⟨(_, _, f), hlap, ?_⟩, Dec.embH rfl ⟨rfl, ?_, ?_, rfl, trivial⟩⟩
            · simp only; omega
            · refine eq_i64 ?_
              try dsimp only
              simp only [Nat.add_zero]
            · refine eq_u32 ?_
              try dsimp only
              simp (disch := omega) only [nadd, nwrap32]
              omega
    · have h4 : sym < fs := ge_f h4
      conv => whnf
      refine ⟨⟨(0, 0, fs), ?_, by simp only; omega⟩, Dec.embH rfl ⟨rfl, rfl, rfl, rfl, trivial⟩⟩
      unfold lap
      rw [if_pos h4, Nat.zero_add]
  · rintro ⟨⟨x, l, f⟩, hlap, hlf2⟩
    simp only at hlap hlf2
    conv => whnf
    have hq := Nat.div_le_self d.rng 32768
    simp (disch := omega) only [nadd, nwrap32, ntdiv]
    have e : (if ((32768 : Nat) : Int) < ((l + f : Nat) : Int) then ((32768 : Nat) : Int) else ((l + f : Nat) : Int)) = ((min (l + f) 32768 : Nat) : Int) := by split <;> omega
    have hu := hupd x l _ hlap
    rw [← e] at hu
    refine hu.mono ?_
    rintro _ _ ⟨rfl, hx, rfl⟩
    conv => whnf
    exact Or.inl ⟨hx, rfl⟩
end Go.Proofs.Ytkomikpfnogjcaa
