/- The encoder is brought to a great range. -/
import Derived.Test.YtkomikpfnogjcaaDoorRnA
namespace Go.Proofs.YtkomikpfnogjcaaDoor
open Go Go.Vc
set_option maxRecDepth 100000

def EncS.step (e : EncS) : EncS := { e.carry (e.low / 8388608) with low := e.low * 256 % 2147483648, rng := e.rng * 256, total := e.total + 8 }
def EncS.iter (e : EncS) : Nat → EncS
  | 0 => e
  | k + 1 => (e.iter k).step
def EncS.steps (e : EncS) : Nat := if e.rng ≤ 8388608 then (if e.rng ≤ 32768 then (if e.rng ≤ 128 then 3 else 2) else 1) else 0
def EncS.norm (e : EncS) : EncS := e.iter e.steps

theorem carry_rest (e : EncS) (v : Nat) : (e.carry v).tail = e.tail ∧ (e.carry v).win = e.win ∧ (e.carry v).nend = e.nend ∧ (e.carry v).rng = e.rng ∧ (e.carry v).low = e.low ∧ (e.carry v).total = e.total := by
  unfold EncS.carry EncS.put2 EncS.put1
  split
  · exact ⟨rfl, rfl, rfl, rfl, rfl, rfl⟩
  · split <;> exact ⟨rfl, rfl, rfl, rfl, rfl, rfl⟩

/-- What is known of an encoder between operations and within them. -/
structure EncS.ok (e : EncS) (N : Nat) : Prop where
  plain : e.plain N
  lo : 1 ≤ e.rng
  hi : e.rng ≤ 2147483648
  low : e.low + e.rng ≤ 4294967040
  total : e.total ≤ 64 * N + 64
  win : e.win < 2 ^ e.nend
  nend : e.nend ≤ 7
  tail : e.tail.length ≤ 4 * N + 4
  bb : ∀ x ∈ e.buf, 0 ≤ x ∧ x < 256
  tb : ∀ x ∈ e.tail, 0 ≤ x ∧ x < 256

theorem carry_bytes {e : EncS} {v : Nat} (h : ∀ x ∈ e.buf, 0 ≤ x ∧ x < 256) : ∀ x ∈ (e.carry v).buf, 0 ≤ x ∧ x < 256 := by
  unfold EncS.carry EncS.put2 EncS.put1
  split
  · exact h
  · split
    · intro x hx
      have hx : x ∈ (e.buf ++ [(e.rem + (v / 256 : Nat)) % 256]) ++ List.replicate e.ext (((255 + v / 256) % 256 : Nat) : Int) := hx
      rcases List.mem_append.1 hx with hx | hx
      · rcases List.mem_append.1 hx with hx | hx
        · exact h x hx
        · rw [List.mem_singleton.1 hx]
          omega
      · rw [List.eq_of_mem_replicate hx]
        omega
    · intro x hx
      have hx : x ∈ e.buf ++ List.replicate e.ext (((255 + v / 256) % 256 : Nat) : Int) := hx
      rcases List.mem_append.1 hx with hx | hx
      · exact h x hx
      · rw [List.eq_of_mem_replicate hx]
        omega
theorem EncS.step_ok {e : EncS} {N : Nat} (h : e.ok N) (hr : e.rng ≤ 8388608) : e.step.ok (N + 1) := by
  obtain ⟨h1, h2, h3, h4, h5, h6⟩ := carry_rest e (e.low / 8388608)
  have := h.lo
  have := h.total
  have := h.low
  have := h.tail
  refine ⟨EncS.carry_plain h.plain, by show 1 ≤ e.rng * 256; omega, by show e.rng * 256 ≤ _; omega, by show e.low * 256 % 2147483648 + e.rng * 256 ≤ _; omega, by show e.total + 8 ≤ _; omega, ?_, ?_, ?_, carry_bytes h.bb, ?_⟩
  · show (e.carry (e.low / 8388608)).win < 2 ^ (e.carry (e.low / 8388608)).nend
    rw [h2, h3]
    exact h.win
  · show (e.carry (e.low / 8388608)).nend ≤ 7
    rw [h3]
    exact h.nend
  · show (e.carry (e.low / 8388608)).tail.length ≤ 4 * (N + 1) + 4
    rw [h1]
    omega
  · show ∀ x ∈ (e.carry (e.low / 8388608)).tail, _
    rw [h1]
    exact h.tb
theorem EncS.steps_le (e : EncS) : e.steps ≤ 3 := by
  unfold EncS.steps
  split
  · split
    · split <;> omega
    · omega
  · omega
theorem EncS.iter_rng (e : EncS) : ∀ k, (e.iter k).rng = e.rng * 256 ^ k
  | 0 => by simp [EncS.iter]
  | k + 1 => by
    show (e.iter k).rng * 256 = _
    rw [EncS.iter_rng e k, Nat.mul_assoc, ← Nat.pow_succ]
theorem EncS.steps_lt {e : EncS} {k : Nat} (h1 : 1 ≤ e.rng) (hk : k ≤ e.steps) : k < e.steps ↔ (e.iter k).rng ≤ 8388608 := by
  have h3 := e.steps_le
  rw [EncS.iter_rng]
  unfold EncS.steps at *
  generalize e.rng = r at *
  obtain rfl | rfl | rfl | rfl : k = 0 ∨ k = 1 ∨ k = 2 ∨ k = 3 := by omega
  · split
    · split
      · split <;> omega
      · omega
    · omega
  · split
    · split
      · split <;> omega
      · omega
    · omega
  · split
    · split
      · split <;> omega
      · omega
    · omega
  · split
    · split
      · split <;> omega
      · omega
    · omega
theorem EncS.iter_ok {e : EncS} {N : Nat} (h : e.ok N) : ∀ k, k ≤ e.steps → (e.iter k).ok (N + k)
  | 0, _ => h
  | k + 1, hk => by
    have := EncS.iter_ok h k (by omega)
    exact EncS.step_ok this ((EncS.steps_lt h.lo (by omega)).1 (by omega))
theorem EncS.norm_ok {e : EncS} {N : Nat} (h : e.ok N) : e.norm.ok (N + 3) ∧ 8388608 < e.norm.rng ∧ e.norm.low + e.norm.rng ≤ 4294967040 := by
  have h1 := EncS.iter_ok h e.steps (by omega)
  have h2 := EncS.steps_le e
  have h3 := EncS.steps_lt (k := e.steps) h.lo (by omega)
  refine ⟨⟨⟨h1.plain.1, h1.plain.2.1, ?_⟩, h1.lo, h1.hi, h1.low, ?_, h1.win, h1.nend, ?_, h1.bb, h1.tb⟩, ?_, h1.low⟩
  · have := h1.plain.2.2
    show (e.iter e.steps).ext + (e.iter e.steps).buf.length ≤ _
    omega
  · have := h1.total
    show (e.iter e.steps).total ≤ _
    omega
  · have := h1.tail
    show (e.iter e.steps).tail.length ≤ _
    omega
  · show 8388608 < (e.iter e.steps).rng
    omega

theorem normW (w0 : World) (e : EncS) {N : Nat} (hN : N ≤ 1048500) (h : e.ok N) : CallsA Tryd.prog w0 73 [.c (.ptr 0 0)] e.H fun r H => r = .t [] ∧ H = e.norm.M := by
  refine callsA_of_ev c73_ ?_
  conv => whnf
  refine ⟨_root_.Fin (e.steps + 1), fun ⟨k, _⟩ => ⟨[(0, .o (.c (.ptr 0 0)))], (e.iter k).M⟩, fun k => e.steps - k.1, ⟨⟨0, by omega⟩, EncS.embM 1 2 rfl rfl rfl (Nat.le_of_ble_eq_true rfl) rfl ⟨rfl, trivial⟩⟩, fun ⟨k, hk⟩ => ?_⟩
  have hok := EncS.iter_ok h k (by omega)
  have hs := EncS.steps_lt (k := k) h.lo (by omega)
  have h3 := EncS.steps_le e
  have hit : e.iter (k + 1) = (e.iter k).step := rfl
  conv => whnf
  refine ⟨fun h1 => ?_, fun h1 => ?_⟩
  · have h1 := le_t h1
    have hlow := hok.low
    have hlo := hok.lo
    have htot := hok.total
    have hk1 := hs.2 h1
    generalize e.iter k = f at *
    conv => whnf
    have hv : IntKind.i64.wrap (((f.low : Nat) : Int).fdiv (2 ^ min 23 IntKind.u32.bits)) = ((f.low / 8388608 : Nat) : Int) := by
      rw [nshr32 _ _ (by omega), nwrapi (by omega)]
    rw [hv]
    refine CallsA.lift (H0 := f.H) [0, 3, 4] rfl ⟨rfl, rfl, rfl, rfl, rfl, rfl, trivial⟩ rfl (carryW w0 f (N := N + k) (by omega) hok.plain (v := f.low / 8388608) (by omega)) ?_
    rintro _ _ ⟨rfl, rfl⟩
    conv => whnf
    obtain ⟨c1, c2, c3, c4, c5, c6⟩ := carry_rest f (f.low / 8388608)
    refine ⟨⟨k + 1, by omega⟩, EncS.embM 5 6 ?_ ?_ ?_ (Nat.le_of_ble_eq_true rfl) rfl ⟨rfl, trivial⟩, ?_⟩
    · rw [hit]
      refine EncS.blk_of rfl rfl rfl rfl ?_ ?_ rfl rfl ?_
      · show IntKind.u32.wrap _ = ((f.rng * 256 : Nat) : Int)
        rw [c4, nshl32 _ _ (by omega), nwrap32 (by omega)]
      · show IntKind.u32.wrap _ = ((f.low * 256 % 2147483648 : Nat) : Int)
        rw [c5, nshl32 _ _ (by omega)]
        have hq : IntKind.u32.wrap ((f.low * 2 ^ 8 : Nat) : Int) = ((f.low * 256 % 4294967296 : Nat) : Int) := by
          rw [IntKind.wrap_u32]
          omega
        rw [hq, nand32 (by omega) (by omega), show f.low * 256 % 4294967296 &&& 2147483647 = f.low * 256 % 4294967296 % 2147483648 from nand_mask _ 31]
        omega
      · show IntKind.u64.wrap _ = ((f.total + 8 : Nat) : Int)
        rw [c6, nadd, nwrap64 (by omega)]
    · rw [hit]
      rfl
    · rw [hit]
      rfl
    · show e.steps - (k + 1) < e.steps - k
      omega
  · have h1 := le_f h1
    have hk1 : k = e.steps := by omega
    subst hk1
    conv => whnf
    exact Or.inl ⟨rfl, rfl⟩
end Go.Proofs.YtkomikpfnogjcaaDoor
