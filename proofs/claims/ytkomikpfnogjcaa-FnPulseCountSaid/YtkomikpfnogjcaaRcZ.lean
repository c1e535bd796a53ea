/- Which scripts the laws read. -/
import Derived.Test.YtkomikpfnogjcaaRcY
namespace Go.Proofs.Ytkomikpfnogjcaa
open Go Go.Vc
set_option maxRecDepth 100000
set_option maxHeartbeats 4000000

theorem readW (w0 : World) {v : Value} {l : List OpV} (hv : opsAt w0 v l) (n most : Nat) (hl : l.length ≤ 9223372036854775807) : CallsA Try.prog w0 12 [.c (.val v), .c (.val (.int .i64 n)), .c (.val (.int .i64 most))] [] fun r H' => ∃ b : Bool, r = .o (.c (.val (.bool b))) ∧ H' = [] ∧ (b = true → l.length ≤ most ∧ ∀ o ∈ l, o.reads) := by
  refine callsA_of_ev c12_ ?_
  rcases hv with ⟨rfl, rfl⟩ | ⟨a, c, rfl, hc1, hc2, hb⟩
  · conv => whnf
    refine Or.inl ?_
    conv => whnf
    refine ⟨Unit, fun _ => ⟨[(0, .o (.c (.val (.slice none 0 0)))), (2, .o (.c (.val (.int .i64 most)))), (9, .o (.c (.val (.slice none 0 0)))), (10, .o (.c (.val (.int .i64 ((0 : Nat) : Int))))), (11, .o (.c (.val (.int .i64 ((0 : Nat) : Int)))))], []⟩, fun _ => 0, ⟨(), [], ⟨rfl, trivial, rfl⟩, rfl, rfl, rfl, rfl, rfl, trivial⟩, fun _ => ?_⟩
    conv => whnf
    refine ⟨fun h => absurd (lt_t h) (by omega), fun _ => ?_⟩
    conv => whnf
    exact Or.inl ⟨_, rfl, rfl, fun _ => ⟨Nat.zero_le _, fun o ho => absurd ho (by simp)⟩⟩
  · conv => whnf
    refine Or.inl ?_
    conv => whnf
    refine ⟨{p : Nat × Int // p.1 ≤ l.length ∧ ∀ j o, j < p.1 → l[j]? = some o → o.reads}, fun ⟨(i, m), _⟩ => ⟨[(0, .o (.c (.val (.slice (some a) l.length c)))), (1, .o (.c (.val (.int .i64 m)))), (2, .o (.c (.val (.int .i64 most)))), (9, .o (.c (.val (.slice (some a) l.length c)))), (10, .o (.c (.val (.int .i64 l.length)))), (11, .o (.c (.val (.int .i64 i))))], []⟩, fun p => l.length - p.1.1, ⟨⟨(0, n), by simp, (fun j o hj => by cases hj)⟩, [], ⟨rfl, trivial, rfl⟩, rfl, rfl, rfl, rfl, rfl, rfl, trivial⟩, fun ⟨(i, m), hi, hri⟩ => ?_⟩
    simp only at hi hri
    conv => whnf
    refine ⟨fun h3 => ?_, fun h3 => ?_⟩
    · have h3 : i < l.length := lt_t h3
      obtain ⟨x, hx⟩ : ∃ x, l[i]? = some x := ⟨_, List.getElem?_eq_getElem h3⟩
      obtain ⟨⟨x0, x1, x2, x3, x4, x5, x6⟩, hfit⟩ := hb i x hx
      have a32 := hfit.a32
      conv => whnf
      refine Or.inl ?_
      conv => whnf
      refine ⟨by omega, ?_⟩
      conv => whnf
      refine ⟨_, x0, rfl, ?_⟩
      conv => whnf
      refine ⟨_, x1, rfl, ?_⟩
      conv => whnf
      refine ⟨_, x2, rfl, ?_⟩
      conv => whnf
      refine ⟨_, x3, rfl, ?_⟩
      conv => whnf
      refine ⟨_, x4, rfl, ?_⟩
      conv => whnf
      refine ⟨_, x5, x6, ?_⟩
      conv => whnf
      refine Or.inl ?_
      conv => whnf
      refine CallsA.lift (H0 := []) [] rfl trivial rfl (readableW w0 hfit m) ?_
      rintro _ _ ⟨b, rfl, rfl, hr⟩
      conv => whnf
      refine ⟨fun _ => ?_, fun h4 => ?_⟩
      · conv => whnf
        exact Or.inr ⟨[], .o (.c (.val (.bool false))), [], ⟨rfl, trivial, rfl⟩, rfl, false, rfl, rfl, (fun h => by cases h)⟩
      · obtain ⟨hr1, _⟩ := hr (by cases b <;> first | rfl | cases h4)
        have hrs : ∀ j o, j < i + 1 → l[j]? = some o → o.reads := by
          intro j o hj ho
          rcases Nat.lt_or_ge j i with h | h
          · exact hri j o h ho
          · obtain rfl : j = i := by omega
            rw [hx] at ho
            cases ho
            exact hr1
        conv => whnf
        refine ⟨fun h5 => ?_, fun h5 => ?_⟩
        · conv => whnf
          refine ⟨⟨(i + 1, (x.a : Int)), by show i + 1 ≤ l.length; omega, hrs⟩, ⟨[], ⟨rfl, trivial, rfl⟩, rfl, eq_i64 (nwrapi (by omega)), rfl, rfl, rfl, eq_i64 ?_, trivial⟩, ?_⟩
          · rw [nadd, nwrapi (by omega)]
          · show l.length - (i + 1) < l.length - i
            omega
        · conv => whnf
          refine ⟨⟨(i + 1, m), by show i + 1 ≤ l.length; omega, hrs⟩, ⟨[], ⟨rfl, trivial, rfl⟩, rfl, rfl, rfl, rfl, rfl, eq_i64 ?_, trivial⟩, ?_⟩
          · rw [nadd, nwrapi (by omega)]
          · show l.length - (i + 1) < l.length - i
            omega
    · have h3 : l.length ≤ i := lt_f h3
      conv => whnf
      refine Or.inl ⟨_, rfl, rfl, fun h4 => ⟨le_t h4, fun o ho => ?_⟩⟩
      obtain ⟨j, hj, rfl⟩ := List.getElem_of_mem ho
      exact hri j _ (by omega) (List.getElem?_eq_getElem hj)
end Go.Proofs.Ytkomikpfnogjcaa
