/- The coder's round trip: a reader that follows a writer, step by step. -/
import Derived.Test.YtkomikpfnogjcaaRsB
namespace Go.Proofs.Ytkomikpfnogjcaa
open Go Go.Vc
set_option maxRecDepth 100000

/-- All that the writer has reckoned, as one number. -/
def EncS.V (e : EncS) : Nat := e.fr * 2147483648 + e.low
def EncS.pos (e : EncS) : Nat := 31 + 8 * e.cnt
def EncS.roomy (e : EncS) : Prop := e.room e.low e.rng
/-- The bytes lie in the writer's range. -/
def holds (B : List Int) (e : EncS) : Prop := e.V ≤ cod B e.pos ∧ cod B e.pos < e.V + e.rng
/-- The reader follows. -/
structure Rt (B : List Int) (e : EncS) (d : Dec) : Prop where
  data : d.data = B
  br : d.br = min e.pos (8 * B.length)
  rng : d.rng = e.rng
  val : d.val + 1 + cod B e.pos = e.V + e.rng
  rb : d.rb = 8 * e.tail.length + e.nend

theorem step_V {e : EncS} {N : Nat} (h : e.ok N) (hr : e.roomy) (hs : e.rng ≤ 8388608) : e.step.V = e.V * 256 ∧ e.step.pos = e.pos + 8 ∧ e.step.roomy ∧ e.step.rng = e.rng * 256 := by
  have h1 := h.plain
  have h2 := h.low
  have h3 := h.lo
  obtain ⟨a, b, _, _⟩ := carry_win (n := e.low) (m := e.rng) h1.1 h1.2.1 (by omega) h3 hr
  refine ⟨a, ?_, b (by omega), rfl⟩
  show 31 + 8 * (e.carry (e.low / 8388608)).cnt = 31 + 8 * e.cnt + 8
  rw [carry_cnt]
  omega
theorem holds_step {B : List Int} {e : EncS} {N : Nat} (h : e.ok N) (hr : e.roomy) (hs : e.rng ≤ 8388608) (hh : holds B e.step) : holds B e := by
  obtain ⟨a, b, _, c⟩ := step_V h hr hs
  unfold holds at *
  rw [a, b, c] at hh
  have := cod_step B e.pos 8
  omega
theorem Rt_step {B : List Int} {e : EncS} {d : Dec} {N : Nat} (hB : ∀ x ∈ B, 0 ≤ x ∧ x < 256) (h : e.ok N) (hr : e.roomy) (hs : e.rng ≤ 8388608) (hh : holds B e) (ht : Rt B e d) : Rt B e.step d.step := by
  obtain ⟨a, b, _, c⟩ := step_V h hr hs
  obtain ⟨t1, t2, t3, t4, t5⟩ := ht
  obtain ⟨w1, w2, w3, _⟩ := carry_rest e (e.low / 8388608)
  unfold holds at hh
  have hb : d.bits 8 = cod B (e.pos + 8) % 256 := by
    have := Dec.bits_num (d := d) (p := e.pos) (n := 8) (by rw [t1]; exact hB) (by omega) (by rw [t1]; exact t2)
    rw [t1] at this
    exact this
  have hcs := cod_step B e.pos 8
  refine ⟨t1, ?_, ?_, ?_, ?_⟩
  · show (if d.br + 8 ≤ 8 * d.data.length then d.br + 8 else max d.br (8 * d.data.length)) = min e.step.pos (8 * B.length)
    rw [b, t1, t2]
    split <;> omega
  · show d.rng * 256 = _
    rw [c, t3]
  · show (d.val * 256 + (255 - d.bits 8)) % 2147483648 + 1 + cod B e.step.pos = _
    rw [a, b, c, hb]
    omega
  · show d.rb = 8 * (e.carry (e.low / 8388608)).tail.length + (e.carry (e.low / 8388608)).nend
    rw [w1, w3, t5]
theorem iter_sane {e : EncS} {N : Nat} (h : e.ok N) (hr : e.roomy) : ∀ k, k ≤ e.steps → (e.iter k).roomy
  | 0, _ => hr
  | k + 1, hk => (step_V (EncS.iter_ok h k (by omega)) (iter_sane h hr k (by omega)) ((EncS.steps_lt h.lo (by omega)).1 (by omega))).2.2.1
theorem holds_iter {B : List Int} {e : EncS} {N : Nat} (h : e.ok N) (hr : e.roomy) (hh : holds B e.norm) : ∀ j k, j + k = e.steps → holds B (e.iter k)
  | 0, k, hk => by
    rw [show k = e.steps by omega]
    exact hh
  | j + 1, k, hk => holds_step (EncS.iter_ok h k (by omega)) (iter_sane h hr k (by omega)) ((EncS.steps_lt h.lo (by omega)).1 (by omega)) (holds_iter h hr hh j (k + 1) (by omega))
theorem holds_norm {B : List Int} {e : EncS} {N : Nat} (h : e.ok N) (hr : e.roomy) (hh : holds B e.norm) : holds B e := holds_iter h hr hh e.steps 0 (by omega)
theorem roomy_norm {e : EncS} {N : Nat} (h : e.ok N) (hr : e.roomy) : e.norm.roomy := iter_sane h hr e.steps (by omega)
theorem Rt_iter {B : List Int} {e : EncS} {d : Dec} {N : Nat} (hB : ∀ x ∈ B, 0 ≤ x ∧ x < 256) (h : e.ok N) (hr : e.roomy) (hh : holds B e.norm) (ht : Rt B e d) : ∀ k, k ≤ e.steps → Rt B (e.iter k) (d.iter k)
  | 0, _ => ht
  | k + 1, hk => Rt_step hB (EncS.iter_ok h k (by omega)) (iter_sane h hr k (by omega)) ((EncS.steps_lt h.lo (by omega)).1 (by omega)) (holds_iter h hr hh (e.steps - k) k (by omega)) (Rt_iter hB h hr hh ht k (by omega))
theorem Rt_norm {B : List Int} {e : EncS} {d : Dec} {N : Nat} (hB : ∀ x ∈ B, 0 ≤ x ∧ x < 256) (h : e.ok N) (hr : e.roomy) (hh : holds B e.norm) (ht : Rt B e d) : Rt B e.norm d.norm := by
  have hi := Rt_iter hB h hr hh ht
  have h3 := e.steps_le
  rw [Dec.norm_iter (k := e.steps) h3 ?_ ?_]
  · exact hi _ (Nat.le_refl _)
  · intro i hk
    rw [(hi i (by omega)).rng]
    exact (EncS.steps_lt h.lo (by omega)).1 hk
  · rw [(hi _ (Nat.le_refl _)).rng]
    have := EncS.steps_lt (k := e.steps) h.lo (by omega)
    omega

/-! Symbols -/
theorem sym_V {e : EncS} {N lo hi n : Nat} (h : e.ok N) (h1 : lo < hi) (h2 : hi ≤ n) : e.V ≤ (e.sym lo hi n).V ∧ (e.sym lo hi n).V + (e.sym lo hi n).rng + e.rng / n * (n - hi) = e.V + e.rng ∧ (lo ≠ 0 → (e.sym lo hi n).V + e.rng / n * (n - lo) = e.V + e.rng) ∧ (e.sym lo hi n).pos = e.pos ∧ (e.sym lo hi n).tail = e.tail ∧ (e.sym lo hi n).nend = e.nend ∧ (e.sym lo hi n).win = e.win ∧ (e.roomy → (e.sym lo hi n).roomy) := by
  obtain ⟨a, b, c, d, f⟩ := e.sym_facts h1 h2
  by_cases h0 : lo = 0
  · have hs : e.sym lo hi n = { e with rng := e.rng - e.rng / n * (n - hi) } := if_pos h0
    rw [hs]
    refine ⟨Nat.le_refl _, ?_, fun h => absurd h0 h, rfl, rfl, rfl, rfl, ?_⟩
    · show e.fr * 2147483648 + e.low + (e.rng - e.rng / n * (n - hi)) + _ = e.fr * 2147483648 + e.low + e.rng
      omega
    · intro hr hc
      have := hr hc
      show e.low + (e.rng - e.rng / n * (n - hi)) ≤ _
      omega
  · have hs : e.sym lo hi n = { e with low := e.low + (e.rng - e.rng / n * (n - lo)), rng := e.rng / n * (hi - lo) } := if_neg h0
    rw [hs]
    refine ⟨?_, ?_, fun _ => ?_, rfl, rfl, rfl, rfl, ?_⟩
    · show e.fr * 2147483648 + e.low ≤ e.fr * 2147483648 + (e.low + _)
      omega
    · show e.fr * 2147483648 + (e.low + (e.rng - e.rng / n * (n - lo))) + e.rng / n * (hi - lo) + _ = e.fr * 2147483648 + e.low + e.rng
      omega
    · show e.fr * 2147483648 + (e.low + (e.rng - e.rng / n * (n - lo))) + _ = e.fr * 2147483648 + e.low + e.rng
      omega
    · intro hr hc
      have := hr hc
      show e.low + (e.rng - e.rng / n * (n - lo)) + e.rng / n * (hi - lo) ≤ _
      omega
theorem holds_sym {B : List Int} {e : EncS} {N lo hi n : Nat} (h : e.ok N) (h1 : lo < hi) (h2 : hi ≤ n) (hh : holds B (e.sym lo hi n)) : holds B e := by
  obtain ⟨a, b, _, c, _⟩ := sym_V h h1 h2
  unfold holds at *
  rw [c] at hh
  omega
theorem Rt_sym {B : List Int} {e : EncS} {d : Dec} {N lo hi n : Nat} (h : e.inv N) (h1 : lo < hi) (h2 : hi ≤ n) (h3 : n ≤ 65535) (hh : holds B (e.sym lo hi n)) (ht : Rt B e d) :
    lo ≤ d.at n ∧ d.at n < hi ∧ Rt B (e.sym lo hi n) (d.cut (d.rng / n) lo hi n) := by
  obtain ⟨a, b, c, g, g1, g2, _⟩ := sym_V (N := N) h.ok h1 h2
  obtain ⟨t1, t2, t3, t4, t5⟩ := ht
  have hb := h.big
  have hs : 1 ≤ e.rng / n := (Nat.le_div_iff_mul_le (by omega)).2 (by omega)
  obtain ⟨s1, s2, s3, s4, s5⟩ := e.sym_facts h1 h2
  have hrng : (e.sym lo hi n).rng = if lo = 0 then e.rng - e.rng / n * (n - hi) else e.rng / n * (hi - lo) := by
    unfold EncS.sym
    split <;> rfl
  unfold holds at hh
  rw [g] at hh
  have hv : e.rng / n * (n - hi) ≤ d.val := by omega
  have hv2 : lo ≠ 0 → d.val < e.rng / n * (n - lo) := fun h0 => by have := c h0; omega
  refine ⟨?_, ?_, t1, ?_, ?_, ?_, ?_⟩
  · unfold Dec.at
    rw [t3]
    rcases Nat.eq_zero_or_pos lo with h0 | h0
    · omega
    · have := (Nat.div_lt_iff_lt_mul (by omega)).2 (by rw [Nat.mul_comm]; exact hv2 (by omega) : d.val < (n - lo) * (e.rng / n))
      omega
  · unfold Dec.at
    rw [t3]
    have := (Nat.le_div_iff_mul_le (by omega)).2 (by rw [Nat.mul_comm]; exact hv : (n - hi) * (e.rng / n) ≤ d.val)
    omega
  · rw [g]
    exact t2
  · show (if lo ≠ 0 then d.rng / n * (hi - lo) else d.rng - d.rng / n * (n - hi)) = _
    rw [hrng, t3]
    by_cases h0 : lo = 0
    · rw [if_neg (by omega), if_pos h0]
    · rw [if_pos h0, if_neg h0]
  · show d.val - d.rng / n * (n - hi) + 1 + cod B (e.sym lo hi n).pos = _
    rw [g, t3]
    omega
  · rw [g1, g2]
    exact t5
end Go.Proofs.Ytkomikpfnogjcaa
