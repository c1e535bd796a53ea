/- The laws' check of a script, from that of an operation. -/
import Derived.Test.YtkomikpfnogjcaaRpA
namespace Go.Proofs.Ytkomikpfnogjcaa
open Go Go.Vc
set_option maxRecDepth 100000
set_option maxHeartbeats 4000000

theorem scriptOf (w0 : World) {a : Addr} {c : Nat} {l : List OpV} (Q : OpV → Prop) (most : Nat) (hl : l.length ≤ 9223372036854775807) (hb : ∀ (i : Nat) (x : OpV), l[i]? = some x → x.lies w0 (a.add (i * 6)) ∧ x.fits w0)
    (hval : ∀ o ∈ l, CallsA Try.prog w0 52 [.a o.cells] [] fun r H' => ∃ b : Bool, r = .o (.c (.val (.bool b))) ∧ H' = [] ∧ (b = true → Q o)) :
    CallsA Try.prog w0 18 [.c (.val (.slice (some a) l.length c)), .c (.val (.int .i64 most))] [] fun r H' => ∃ b : Bool, r = .o (.c (.val (.bool b))) ∧ H' = [] ∧ (b = true → l.length ≤ most ∧ ∀ o ∈ l, Q o) := by
  refine callsA_of_ev c18_ ?_
  conv => whnf
  refine Or.inl ?_
  conv => whnf
  refine ⟨{p : Nat // p ≤ l.length ∧ ∀ j o, j < p → l[j]? = some o → Q o}, fun ⟨i, _⟩ => ⟨[(0, .o (.c (.val (.slice (some a) l.length c)))), (1, .o (.c (.val (.int .i64 most)))), (7, .o (.c (.val (.slice (some a) l.length c)))), (8, .o (.c (.val (.int .i64 l.length)))), (9, .o (.c (.val (.int .i64 i))))], []⟩, fun p => l.length - p.1, ⟨⟨0, Nat.zero_le _, (fun j o hj => by cases hj)⟩, [], ⟨rfl, trivial, rfl⟩, rfl, rfl, rfl, rfl, rfl, trivial⟩, fun ⟨i, hi, hri⟩ => ?_⟩
  conv => whnf
  refine ⟨fun h3 => ?_, fun h3 => ?_⟩
  · have h3 : i < l.length := lt_t h3
    obtain ⟨x, hx⟩ : ∃ x, l[i]? = some x := ⟨_, List.getElem?_eq_getElem h3⟩
    obtain ⟨⟨x0, x1, x2, x3, x4, x5, x6⟩, hfit⟩ := hb i x hx
    have hvx := hval x (List.mem_of_getElem? hx)
    conv => whnf
    refine Or.inl ?_
    conv => whnf
    refine ⟨by omega, ?_⟩
    conv => whnf
    refine ⟨_, x0, rfl, ?_⟩
    conv => whnf
    refine ⟨_, x1, rfl, ?_⟩
    conv => whnf
    refine ⟨_, x2, rfl, ?_⟩
    conv => whnf
    refine ⟨_, x3, rfl, ?_⟩
    conv => whnf
    refine ⟨_, x4, rfl, ?_⟩
    conv => whnf
    refine ⟨_, x5, x6, ?_⟩
    conv => whnf
    refine CallsA.lift (H0 := []) [] rfl trivial rfl hvx ?_
    rintro _ _ ⟨b, rfl, rfl, hr⟩
    conv => whnf
    refine ⟨fun _ => ?_, fun h4 => ?_⟩
    · conv => whnf
      exact Or.inr ⟨[], .o (.c (.val (.bool false))), [], ⟨rfl, trivial, rfl⟩, rfl, false, rfl, rfl, (fun h => by cases h)⟩
    · have hr1 := hr (by cases b <;> first | rfl | cases h4)
      have hrs : ∀ j o, j < i + 1 → l[j]? = some o → Q o := by
        intro j o hj ho
        rcases Nat.lt_or_ge j i with h | h
        · exact hri j o h ho
        · obtain rfl : j = i := by omega
          rw [hx] at ho
          cases ho
          exact hr1
      conv => whnf
      refine ⟨⟨i + 1, h3, hrs⟩, ⟨[], ⟨rfl, trivial, rfl⟩, rfl, rfl, rfl, rfl, eq_i64 ?_, trivial⟩, ?_⟩
      · rw [nadd, nwrapi (by omega)]
      · show l.length - (i + 1) < l.length - i
        omega
  · have h3 : l.length ≤ i := lt_f h3
    conv => whnf
    refine Or.inl ⟨_, rfl, rfl, fun h4 => ⟨le_t h4, fun o ho => ?_⟩⟩
    obtain ⟨j, hj, rfl⟩ := List.getElem_of_mem ho
    exact hri j _ (by omega) (List.getElem?_eq_getElem hj)
end Go.Proofs.Ytkomikpfnogjcaa
