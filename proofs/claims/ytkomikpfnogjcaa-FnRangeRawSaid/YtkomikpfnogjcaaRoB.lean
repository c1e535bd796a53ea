/- The reference writes a symbol, and raw bits. -/
import Derived.Test.YtkomikpfnogjcaaRoA
namespace Go.Proofs.Ytkomikpfnogjcaa
open Go Go.Vc
set_option maxRecDepth 100000

/-- What is known of the reference's writer: its value may lie anywhere. -/
structure EncS.rok (e : EncS) (N : Nat) : Prop where
  plain : e.plain N
  lo : 1 ≤ e.rng
  hi : e.rng ≤ 2147483648
  low : e.low < 4294967296
  total : e.total ≤ 64 * N + 64
  win : e.win < 2 ^ e.nend
  nend : e.nend ≤ 7
  tail : e.tail.length ≤ 4 * N + 4
  tlo : 33 ≤ e.total
theorem EncS.rok.mono {e : EncS} {N M : Nat} (h : e.rok N) (hm : N ≤ M) : e.rok M := by
  have h1 := h.plain
  have h2 := h.total
  have h3 := h.tail
  exact ⟨⟨h1.1, h1.2.1, by have := h1.2.2; omega⟩, h.lo, h.hi, h.low, by omega, h.win, h.nend, by omega, h.tlo⟩
theorem EncS.step_rok {e : EncS} {N : Nat} (h : e.rok N) (hr : e.rng ≤ 8388608) : e.step.rok (N + 1) := by
  obtain ⟨h1, h2, h3, h4, h5, h6⟩ := carry_rest e (e.low / 8388608)
  have := h.lo
  have := h.total
  have := h.tail
  refine ⟨EncS.carry_plain h.plain, by show 1 ≤ e.rng * 256; omega, by show e.rng * 256 ≤ _; omega, by show e.low * 256 % 2147483648 < _; omega, by show e.total + 8 ≤ _; omega, ?_, ?_, ?_, by show 33 ≤ e.total + 8; have := h.tlo; omega⟩
  · show (e.carry (e.low / 8388608)).win < 2 ^ (e.carry (e.low / 8388608)).nend
    rw [h2, h3]
    exact h.win
  · show (e.carry (e.low / 8388608)).nend ≤ 7
    rw [h3]
    exact h.nend
  · show (e.carry (e.low / 8388608)).tail.length ≤ 4 * (N + 1) + 4
    rw [h1]
    omega
theorem EncS.iter_rok {e : EncS} {N : Nat} (h : e.rok N) : ∀ k, k ≤ e.steps → (e.iter k).rok (N + k)
  | 0, _ => h
  | k + 1, hk => by
    have := EncS.iter_rok h k (by omega)
    exact EncS.step_rok this ((EncS.steps_lt h.lo (by omega)).1 (by omega))
structure EncS.rinv (e : EncS) (N : Nat) : Prop where
  ok : e.rok N
  big : 8388608 < e.rng
theorem EncS.rinv.mono {e : EncS} {N M : Nat} (h : e.rinv N) (hm : N ≤ M) : e.rinv M := ⟨h.ok.mono hm, h.big⟩
theorem EncS.norm_rinv {e : EncS} {N : Nat} (h : e.rok N) : e.norm.rinv (N + 3) := by
  have h1 := EncS.iter_rok h e.steps (by omega)
  have h2 := EncS.steps_le e
  have h3 := EncS.steps_lt (k := e.steps) h.lo (by omega)
  refine ⟨h1.mono (by omega), ?_⟩
  show 8388608 < (e.iter e.steps).rng
  omega

theorem rnormW (w0 : World) (e : EncS) {N : Nat} (hN : N ≤ 1048500) (h : e.rok N) : CallsA Try.prog w0 54 [.c (.ptr 0 0)] e.RH fun r H => r = .t [] ∧ H = e.norm.RM := by
  refine callsA_of_ev c54_ ?_
  conv => whnf
  refine ⟨_root_.Fin (e.steps + 1), fun ⟨k, _⟩ => ⟨[(0, .o (.c (.ptr 0 0)))], (e.iter k).RM⟩, fun k => e.steps - k.1, ⟨⟨0, by omega⟩, EncS.rembM 1 2 rfl rfl rfl (Nat.le_of_ble_eq_true rfl) rfl ⟨rfl, trivial⟩⟩, fun ⟨k, hk⟩ => ?_⟩
  have hok := EncS.iter_rok h k (by omega)
  have hs := EncS.steps_lt (k := k) h.lo (by omega)
  have h3 := EncS.steps_le e
  have hit : e.iter (k + 1) = (e.iter k).step := rfl
  conv => whnf
  refine ⟨fun h1 => ?_, fun h1 => ?_⟩
  · have h1 := le_t h1
    have hlow := hok.low
    have htot := hok.total
    have hk1 := hs.2 h1
    generalize e.iter k = f at *
    conv => whnf
    have hv : IntKind.i64.wrap (((f.low : Nat) : Int).fdiv (2 ^ min 23 IntKind.u32.bits)) = ((f.low / 8388608 : Nat) : Int) := by
      rw [nshr32 _ _ (by omega), nwrapi (by omega)]
    rw [hv]
    refine CallsA.lift (H0 := f.RH) [0, 3, 4] rfl ⟨rfl, rfl, rfl, rfl, rfl, rfl, trivial⟩ rfl (rcarryW w0 f (N := N + k) (by omega) hok.plain (v := f.low / 8388608) (by omega)) ?_
    rintro _ _ ⟨rfl, rfl⟩
    conv => whnf
    obtain ⟨c1, c2, c3, c4, c5, c6⟩ := carry_rest f (f.low / 8388608)
    refine ⟨⟨k + 1, by omega⟩, EncS.rembM 5 6 ?_ ?_ ?_ (Nat.le_of_ble_eq_true rfl) rfl ⟨rfl, trivial⟩, ?_⟩
    · rw [hit]
      refine EncS.rblk_of rfl rfl ?_ ?_ rfl rfl ?_ rfl rfl
      · show IntKind.u32.wrap _ = ((f.rng * 256 : Nat) : Int)
        rw [c4, nshl32 _ _ (by omega), nwrap32 (by omega)]
      · show IntKind.u32.wrap _ = ((f.low * 256 % 2147483648 : Nat) : Int)
        rw [c5, nshl32 _ _ (by omega)]
        have hq : IntKind.u32.wrap ((f.low * 2 ^ 8 : Nat) : Int) = ((f.low * 256 % 4294967296 : Nat) : Int) := by
          rw [IntKind.wrap_u32]
          omega
        rw [hq, nand32 (by omega) (by omega), show f.low * 256 % 4294967296 &&& 2147483647 = f.low * 256 % 4294967296 % 2147483648 from nand_mask _ 31]
        omega
      · show IntKind.i64.wrap _ = ((f.total + 8 : Nat) : Int)
        rw [c6, nadd, nwrapi (by omega)]
    · rw [hit]
      rfl
    · rw [hit]
      rfl
    · show e.steps - (k + 1) < e.steps - k
      omega
  · have h1 := le_f h1
    have hk1 : k = e.steps := by omega
    subst hk1
    conv => whnf
    exact Or.inl ⟨rfl, rfl⟩

def EncS.rsym (e : EncS) (lo hi n : Nat) : EncS :=
  if lo = 0 then { e with rng := e.rng - e.rng / n * (n - hi) }
  else { e with low := (((e.low : Int) + ((e.rng : Int) - (e.rng / n : Nat) * ((n : Int) - (lo : Int)))) % 4294967296).toNat, rng := e.rng / n * (hi - lo) }
theorem EncS.rsym_sym {e : EncS} {N lo hi n : Nat} (h : e.ok N) (h1 : lo < hi) (h2 : hi ≤ n) : e.rsym lo hi n = e.sym lo hi n := by
  obtain ⟨f1, f2, f3, f4, f5⟩ := e.sym_facts h1 h2
  have hl := h.low
  unfold EncS.rsym EncS.sym
  split
  · rfl
  · congr 1
    have e1 : ((e.rng / n : Nat) : Int) * ((n : Int) - (lo : Int)) = ((e.rng / n * (n - lo) : Nat) : Int) := by
      rw [nsub (by omega), nmul]
    rw [e1]
    omega
theorem EncS.rsym_rok {e : EncS} {N lo hi n : Nat} (h : e.rinv N) (h0 : lo < hi) (h1 : hi - lo ≤ n) (h2 : lo = 0 → hi ≤ n) (h3 : n ≤ 65535) : (e.rsym lo hi n).rok N := by
  have hb := h.big
  have hh := h.ok.hi
  have hs : 1 ≤ e.rng / n := (Nat.le_div_iff_mul_le (by omega)).2 (by omega)
  unfold EncS.rsym
  split
  · rename_i hlo
    obtain ⟨f1, f2, f3, f4, f5⟩ := e.sym_facts (lo := lo) (hi := hi) (n := n) h0 (h2 hlo)
    refine ⟨h.ok.plain, ?_, ?_, h.ok.low, h.ok.total, h.ok.win, h.ok.nend, h.ok.tail, h.ok.tlo⟩
    · show 1 ≤ e.rng - e.rng / n * (n - hi)
      omega
    · show e.rng - e.rng / n * (n - hi) ≤ _
      omega
  · refine ⟨h.ok.plain, ?_, ?_, ?_, h.ok.total, h.ok.win, h.ok.nend, h.ok.tail, h.ok.tlo⟩
    · show 1 ≤ e.rng / n * (hi - lo)
      exact Nat.le_trans hs (Nat.le_mul_of_pos_right _ (by omega))
    · show e.rng / n * (hi - lo) ≤ _
      have := Nat.mul_le_mul_left (e.rng / n) h1
      have := Nat.div_mul_le_self e.rng n
      omega
    · show (((e.low : Int) + ((e.rng : Int) - (e.rng / n : Nat) * ((n : Int) - (lo : Int)))) % 4294967296).toNat < _
      omega
theorem wrap32_eq {x y : Int} (h : x % 4294967296 = y % 4294967296) : IntKind.u32.wrap x = IntKind.u32.wrap y := by
  rw [IntKind.wrap_u32, IntKind.wrap_u32, h]
theorem rsymW (w0 : World) (e : EncS) {N : Nat} (hN : N ≤ 1048500) (h : e.rinv N) {lo hi n : Nat} (h0 : lo < hi) (h1 : hi - lo ≤ n) (h2 : lo = 0 → hi ≤ n) (h3 : n ≤ 65535) (h4 : hi < 4294967296) :
    CallsA Try.prog w0 53 [.c (.ptr 0 0), .c (.val (.int .u32 lo)), .c (.val (.int .u32 hi)), .c (.val (.int .u32 n))] e.RH fun r H => r = .t [] ∧ H = (e.rsym lo hi n).norm.RM := by
  have hok := EncS.rsym_rok h h0 h1 h2 h3
  have hhi := h.ok.hi
  refine callsA_of_ev c53_ ?_
  conv => whnf
  refine ⟨by omega, ?_⟩
  conv => whnf
  refine Or.inl ?_
  conv => whnf
  refine ⟨fun c4 => ?_, fun c4 => ?_⟩
  · have c4 := gt_t c4
    have hs : e.rsym lo hi n = { e with low := (((e.low : Int) + ((e.rng : Int) - (e.rng / n : Nat) * ((n : Int) - (lo : Int)))) % 4294967296).toNat, rng := e.rng / n * (hi - lo) } := if_neg (by omega)
    conv => whnf
    refine ⟨trivial, ?_⟩
    conv => whnf
    refine (atH (EncS.RH_of (e := e.rsym lo hi n) (by rw [hs]) (by rw [hs]) ?_ ?_ (by rw [hs]) (by rw [hs]) (by rw [hs]) (by rw [hs]) (by rw [hs]) (by rw [hs]) (by rw [hs])) (rnormW w0 _ hN hok)).mono ?_
    · have hm := Nat.mul_le_mul_left (e.rng / n) h1
      have hd := Nat.div_mul_le_self e.rng n
      rw [hs, ntdiv, nsub (by omega), nwrap32 (n := e.rng / n) (Nat.lt_of_le_of_lt (Nat.div_le_self _ _) (by omega)), nwrap32 (n := hi - lo) (by omega), nmul, nwrap32 (n := e.rng / n * (hi - lo)) (by omega)]
    · rw [hs, ntdiv, nwrap32 (n := e.rng / n) (Nat.lt_of_le_of_lt (Nat.div_le_self _ _) (by omega))]
      show _ = (((((e.low : Int) + ((e.rng : Int) - (e.rng / n : Nat) * ((n : Int) - (lo : Int)))) % 4294967296).toNat : Nat) : Int)
      generalize ((e.rng / n : Nat) : Int) = r
      have hmm : (r * IntKind.u32.wrap ((n : Int) - (lo : Int))) % 4294967296 = (r * ((n : Int) - (lo : Int))) % 4294967296 := by
        rw [IntKind.wrap_u32, Int.mul_emod, Int.emod_emod_of_dvd _ (Int.dvd_refl _), ← Int.mul_emod]
      generalize r * IntKind.u32.wrap ((n : Int) - (lo : Int)) = x at *
      generalize r * ((n : Int) - (lo : Int)) = y at *
      simp only [IntKind.wrap_u32]
      omega
    · rintro _ _ ⟨rfl, rfl⟩
      conv => whnf
      exact Or.inl ⟨rfl, rfl⟩
  · have c4 : lo = 0 := by have := gt_f c4; omega
    have hs : e.rsym lo hi n = { e with rng := e.rng - e.rng / n * (n - hi) } := if_pos c4
    obtain ⟨f1, f2, f3, f4, f5⟩ := e.sym_facts (lo := lo) (hi := hi) (n := n) h0 (h2 c4)
    conv => whnf
    refine (atH (EncS.RH_of (e := e.rsym lo hi n) (by rw [hs]) (by rw [hs]) ?_ (by rw [hs]) (by rw [hs]) (by rw [hs]) (by rw [hs]) (by rw [hs]) (by rw [hs]) (by rw [hs]) (by rw [hs])) (rnormW w0 _ hN hok)).mono ?_
    · rw [hs, ntdiv, nsub (by omega), nwrap32 (n := e.rng / n) (by omega), nwrap32 (n := n - hi) (by omega), nmul, nwrap32 (n := e.rng / n * (n - hi)) (by omega), nsub (by omega), nwrap32 (by omega)]
    · rintro _ _ ⟨rfl, rfl⟩
      conv => whnf
      exact Or.inl ⟨rfl, rfl⟩
end Go.Proofs.Ytkomikpfnogjcaa
