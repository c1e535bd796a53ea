/- Which operations the laws let in: bits, whole numbers, raw bits. -/
import Derived.Test.YtkomikpfnogjcaaRpB
namespace Go.Proofs.Ytkomikpfnogjcaa
open Go Go.Vc
set_option maxRecDepth 100000
set_option maxHeartbeats 4000000

def ValidOf (w0 : World) (o : OpV) (Q : Prop) : Prop := CallsA Try.prog w0 52 [.a o.cells] [] fun r H' => ∃ b : Bool, r = .o (.c (.val (.bool b))) ∧ H' = [] ∧ (b = true → Q)
theorem valid1 (w0 : World) {o : OpV} (hk : o.act = 1) : ValidOf w0 o (1 ≤ o.a ∧ o.a ≤ 15 ∧ o.b ≤ 1) := by
  obtain ⟨act, oa, ob, oc, ov, otab, rows⟩ := o
  simp only at hk
  subst hk
  refine callsA_of_ev c52_ ?_
  conv => whnf
  refine Or.inl ?_
  conv => whnf
  refine ⟨(fun h => by cases h), fun _ => ?_⟩
  conv => whnf
  refine ⟨fun _ => ?_, (fun h => by cases h)⟩
  conv => whnf
  refine ⟨fun h1 => ?_, fun _ => ?_⟩
  · have h1 : 1 ≤ oa := ge_t h1
    conv => whnf
    refine ⟨fun h2 => ?_, fun _ => ?_⟩
    · have h2 : oa ≤ 15 := le_t h2
      conv => whnf
      exact Or.inr ⟨[], .o (.c (.val (.bool _))), [], ⟨rfl, trivial, rfl⟩, rfl, _, rfl, rfl, fun h4 => ⟨h1, h2, le_t h4⟩⟩
    · conv => whnf
      exact Or.inr ⟨[], .o (.c (.val (.bool false))), [], ⟨rfl, trivial, rfl⟩, rfl, false, rfl, rfl, (fun h => by cases h)⟩
  · conv => whnf
    exact Or.inr ⟨[], .o (.c (.val (.bool false))), [], ⟨rfl, trivial, rfl⟩, rfl, false, rfl, rfl, (fun h => by cases h)⟩
theorem valid3 (w0 : World) {o : OpV} (hk : o.act = 3) : ValidOf w0 o (2 ≤ o.a ∧ o.b < o.a) := by
  obtain ⟨act, oa, ob, oc, ov, otab, rows⟩ := o
  simp only at hk
  subst hk
  refine callsA_of_ev c52_ ?_
  conv => whnf
  refine Or.inl ?_
  conv => whnf
  refine ⟨(fun h => by cases h), fun _ => ?_⟩
  conv => whnf
  refine ⟨(fun h => by cases h), fun _ => ?_⟩
  conv => whnf
  refine ⟨(fun h => by cases h), fun _ => ?_⟩
  conv => whnf
  refine ⟨fun _ => ?_, (fun h => by cases h)⟩
  conv => whnf
  refine ⟨fun h1 => ?_, fun _ => ?_⟩
  · have h1 : 2 ≤ oa := ge_t h1
    conv => whnf
    exact Or.inr ⟨[], .o (.c (.val (.bool _))), [], ⟨rfl, trivial, rfl⟩, rfl, _, rfl, rfl, fun h4 => ⟨h1, lt_t h4⟩⟩
  · conv => whnf
    exact Or.inr ⟨[], .o (.c (.val (.bool false))), [], ⟨rfl, trivial, rfl⟩, rfl, false, rfl, rfl, (fun h => by cases h)⟩
theorem valid4 (w0 : World) {o : OpV} (hk : o.act = 4) (hb : o.b < 4294967296) : ValidOf w0 o (o.a ≤ 25 ∧ o.b < 2 ^ o.a) := by
  obtain ⟨act, oa, ob, oc, ov, otab, rows⟩ := o
  simp only at hk hb
  subst hk
  refine callsA_of_ev c52_ ?_
  conv => whnf
  refine Or.inl ?_
  conv => whnf
  refine ⟨(fun h => by cases h), fun _ => ?_⟩
  conv => whnf
  refine ⟨(fun h => by cases h), fun _ => ?_⟩
  conv => whnf
  refine ⟨(fun h => by cases h), fun _ => ?_⟩
  conv => whnf
  refine ⟨(fun h => by cases h), fun _ => ?_⟩
  conv => whnf
  refine ⟨fun _ => ?_, (fun h => by cases h)⟩
  conv => whnf
  refine ⟨fun h1 => ?_, fun _ => ?_⟩
  · have h1 : oa ≤ 25 := le_t h1
    have hp : 2 ^ oa ≤ 2 ^ 25 := Nat.pow_le_pow_right (by omega) h1
    conv => whnf
    refine ⟨by omega, ?_⟩
    conv => whnf
    have e1 : IntKind.u64.wrap (((1 : Nat) : Int) * 2 ^ min ((oa : Nat) : Int).toNat IntKind.u64.bits) = ((2 ^ oa : Nat) : Int) := by rw [nshlv64 _ _ (by omega), Nat.one_mul, nwrap64 (by omega)]
    rw [nwrap64 (n := ob) (by omega), e1]
    exact Or.inr ⟨[], .o (.c (.val (.bool _))), [], ⟨rfl, trivial, rfl⟩, rfl, _, rfl, rfl, fun h4 => ⟨h1, lt_t h4⟩⟩
  · conv => whnf
    exact Or.inr ⟨[], .o (.c (.val (.bool false))), [], ⟨rfl, trivial, rfl⟩, rfl, false, rfl, rfl, (fun h => by cases h)⟩
end Go.Proofs.Ytkomikpfnogjcaa
