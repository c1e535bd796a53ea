/- A number below the count names the vector that the reference says, and the vector this number. -/
import Derived.Test.YtkomikpfnogjcaaDoorPuO
import Derived.Test.YtkomikpfnogjcaaDoorRmC
namespace Go.Proofs.YtkomikpfnogjcaaDoor
open Go Go.Vc
set_option maxRecDepth 100000
set_option maxHeartbeats 8000000

theorem amt_mem : ∀ {ys : List Int} {x : Int}, x ∈ ys → x.natAbs ≤ amt ys
  | y :: r, x, h => by
    show x.natAbs ≤ y.natAbs + amt r
    cases h with
    | head => omega
    | tail _ h => have := amt_mem h; omega
theorem lPulseVectorW (w0 : World) (hp : pows w0) {n k i : Nat} (hn : n < 256) (hk : k < 256) (hi : i < 4294967296) : CallsA Tryd.prog w0 4 [.c (.val (.int .u8 n)), .c (.val (.int .u8 k)), .c (.val (.int .u32 i))] [] fun r _ => r = .o (.c (.val (.bool true))) := by
  obtain ⟨a, ha⟩ : ∃ a, a = n % 19 + 2 := ⟨_, rfl⟩
  obtain ⟨b, hb⟩ : ∃ b, b = k % 20 + 1 := ⟨_, rfl⟩
  refine callsA_of_ev c4_ ?_
  conv => whnf
  simp (disch := omega) only [ntmod, nwrapi, nadd]
  rw [← ha, ← hb]
  refine (sCountW w0 (n := a) (k := b) (by omega) (by omega) (by omega)).mono ?_
  rintro _ _ ⟨rfl, ⟨hc, rfl⟩ | ⟨hc, rfl⟩⟩
  · conv => whnf
    refine Or.inl ?_
    conv => whnf
    refine ⟨fun _ => ?_, fun h => absurd h (by decide)⟩
    conv => whnf
    exact Or.inl rfl
  have hv : vv a b < 4294967296 := by
    unfold vcap at hc
    omega
  have hv2 := vv_two (n := a) (k := b) (by omega) (by omega)
  rw [vcap_vv hv]
  obtain ⟨j, hj⟩ : ∃ j, j = i % vv a b := ⟨_, rfl⟩
  have hjl : j < vv a b := by rw [hj]; exact Nat.mod_lt _ (by omega)
  obtain ⟨hamt, hcode⟩ := vec_back hjl
  have hlen := vecOf_len a b j
  have hbnd : ∀ x ∈ vecOf a b j, -9223372036854775808 ≤ x ∧ x < 9223372036854775808 := by
    intro x hx
    have := amt_mem hx
    omega
  have hnv := numsV w0 hp (ys := vecOf a b j) (by omega) hbnd
  have hix := iPulseIndexV w0 (ys := vecOf a b j) (k := b) (by omega) (by omega) (by omega) (by omega) hamt (by rw [hlen]; exact hv)
  rw [hlen] at hnv hix
  rw [hcode] at hix
  conv => whnf
  refine Or.inl ?_
  conv => whnf
  refine ⟨fun h => absurd h (by decide), fun _ => ?_⟩
  conv => whnf
  refine ⟨fun h => absurd (ieq_t h) (by omega), fun _ => ?_⟩
  conv => whnf
  refine ⟨by omega, ?_⟩
  conv => whnf
  rw [ntmod i (vv a b), ← hj]
  refine (sPulseVectorW w0 (n := a) (k0 := b) (i0 := j) (by omega) (by omega) (by omega) hjl hv).mono ?_
  rintro _ _ ⟨rfl, rfl⟩
  conv => whnf
  refine Or.inl ?_
  conv => whnf
  refine ⟨fun h => absurd h (by decide), fun _ => ?_⟩
  conv => whnf
  refine CallsA.lift (H0 := []) [] rfl trivial rfl (iPulseVectorW w0 (n := a) (k := b) (i := j) (by omega) (by omega) (by omega) (by omega) hv hjl) ?_
  rintro _ _ ⟨rfl, rfl⟩
  conv => whnf
  refine Or.inl ?_
  conv => whnf
  refine ⟨fun h => absurd h (by decide), fun _ => ?_⟩
  conv => whnf
  refine CallsA.lift (H0 := [intB (vecOf a b j)]) [1] rfl ⟨rfl, rfl, trivial⟩ rfl hnv ?_
  rintro _ _ ⟨rfl, rfl⟩
  conv => whnf
  refine CallsA.lift (H0 := [intB (vecOf a b j)]) [0] rfl ⟨rfl, rfl, trivial⟩ rfl hnv ?_
  rintro _ _ ⟨rfl, rfl⟩
  conv => whnf
  refine ⟨fun h => absurd h (by rw [BEq.rfl]; decide), fun _ => ?_⟩
  conv => whnf
  refine CallsA.lift (H0 := [intB (vecOf a b j)]) [1] rfl ⟨rfl, rfl, trivial⟩ rfl hix ?_
  rintro _ _ ⟨rfl, rfl⟩
  conv => whnf
  refine ⟨fun _ => ?_, fun h => absurd h (by decide)⟩
  conv => whnf
  refine ⟨fun _ => ?_, fun h => absurd rfl (ieq_f h)⟩
  conv => whnf
  refine CallsA.lift (H0 := []) [] rfl trivial rfl (aliveW w0) ?_
  rintro _ _ ⟨rfl, rfl⟩
  conv => whnf
  exact Or.inl rfl
end Go.Proofs.YtkomikpfnogjcaaDoor
