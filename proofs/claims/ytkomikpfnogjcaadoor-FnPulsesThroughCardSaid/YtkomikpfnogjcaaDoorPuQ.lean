/- A vector has a number below the count of those with as many pulses, and the number names the vector. -/
import Derived.Test.YtkomikpfnogjcaaDoorPuP
namespace Go.Proofs.YtkomikpfnogjcaaDoor
open Go Go.Vc
set_option maxRecDepth 100000
set_option maxHeartbeats 8000000

/-- A slice of whole numbers that came in. -/
def intsAt (w0 : World) (v : Value) (ys : List Int) : Prop := (v = .slice none 0 0 ∧ ys = []) ∨ ∃ a c, v = .slice (some a) ys.length c ∧ ys.length ≤ c ∧ c ≤ 9223372036854775807 ∧ ∀ (i : Nat) x, ys[i]? = some x → (-9223372036854775808 ≤ x ∧ x < 9223372036854775808) ∧ w0.cell? (a.add (i * 1)) = some (.int .i64 x)

theorem amt_most : ∀ {ys : List Int}, (∀ x ∈ ys, x.natAbs ≤ 20) → amt ys ≤ 20 * ys.length
  | [], _ => Nat.zero_le _
  | y :: r, h => by
    have h1 := amt_most (ys := r) fun x hx => h x (List.mem_cons_of_mem _ hx)
    have h2 := h y (List.mem_cons_self ..)
    show y.natAbs + amt r ≤ 20 * (r.length + 1)
    omega
theorem lPulseIndexW (w0 : World) (hp : pows w0) {v : Value} {ys : List Int} (hv0 : intsAt w0 v ys) : CallsA Tryd.prog w0 3 [.c (.val v)] [] fun r _ => r = .o (.c (.val (.bool true))) := by
  rcases hv0 with ⟨rfl, rfl⟩ | ⟨a, c, rfl, hlc, hc63, hcell⟩
  · refine callsA_of_ev c3_ ?_
    conv => whnf
    refine Or.inl ?_
    conv => whnf
    refine ⟨fun g => absurd g (by decide), fun _ => ?_⟩
    conv => whnf
    refine Or.inl ?_
    conv => whnf
    refine ⟨Unit, fun _ => ⟨[(0, .o (.c (.val (.slice none 0 0)))), (3, .o (.c (.val (.int .i64 ((0 : Nat) : Int))))), (17, .o (.c (.val (.slice none 0 0)))), (18, .o (.c (.val (.int .i64 ((0 : Nat) : Int))))), (19, .o (.c (.val (.int .i64 ((0 : Nat) : Int)))))], []⟩, fun _ => 0, ⟨(), [], ⟨rfl, trivial, rfl⟩, rfl, rfl, rfl, rfl, rfl, trivial⟩, fun _ => ?_⟩
    conv => whnf
    refine ⟨fun g => absurd g (by decide), fun _ => ?_⟩
    conv => whnf
    refine Or.inl ?_
    conv => whnf
    refine ⟨fun _ => ?_, fun g => absurd g (by decide)⟩
    conv => whnf
    exact Or.inl rfl
  refine callsA_of_ev c3_ ?_
  conv => whnf
  refine Or.inl ?_
  conv => whnf
  refine ⟨fun g => ?_, fun g => ?_⟩
  · conv => whnf
    exact Or.inl rfl
  have g : ys.length ≤ 2147483647 := gt_f g
  conv => whnf
  refine Or.inr ⟨{q : Unit // ∀ x ∈ ys, x.natAbs ≤ 20}, fun _ => ⟨[(0, .o (.c (.val (.slice (some a) ys.length c)))), (3, .o (.c (.val (.int .i64 (amt ys : Nat)))))], []⟩, ?_, ?_⟩
  · conv => whnf
    refine ⟨{j : Nat // j ≤ ys.length ∧ ∀ x ∈ ys.take j, x.natAbs ≤ 20}, fun ⟨j, _⟩ => ⟨[(0, .o (.c (.val (.slice (some a) ys.length c)))), (3, .o (.c (.val (.int .i64 (amt (ys.take j) : Nat))))), (17, .o (.c (.val (.slice (some a) ys.length c)))), (18, .o (.c (.val (.int .i64 ys.length)))), (19, .o (.c (.val (.int .i64 j))))], []⟩, fun j => ys.length - j.1, ⟨⟨0, by omega, fun x hx => by cases hx⟩, [], ⟨rfl, trivial, rfl⟩, rfl, rfl, rfl, rfl, rfl, trivial⟩, fun ⟨j, hj, hjx⟩ => ?_⟩
    conv => whnf
    refine ⟨fun h3 => ?_, fun h3 => ?_⟩
    · have h3 : j < ys.length := lt_t h3
      obtain ⟨x, hxj⟩ : ∃ x, ys[j]? = some x := ⟨_, List.getElem?_eq_getElem h3⟩
      obtain ⟨hxb, hxc⟩ := hcell j x hxj
      have hsn := amt_snoc hxj
      have hab : amt (ys.take j) ≤ 20 * (ys.take j).length := amt_most hjx
      rw [List.length_take] at hab
      conv => whnf
      refine Or.inl ?_
      conv => whnf
      refine ⟨by omega, ?_⟩
      conv => whnf
      refine ⟨_, hxc, rfl, ?_⟩
      conv => whnf
      refine Or.inl ?_
      conv => whnf
      refine ⟨fun _ => ?_, fun g1 => ?_⟩
      · conv => whnf
        exact Or.inl rfl
      have g1 : ¬ x > 20 := of_decide_eq_false g1
      conv => whnf
      refine ⟨fun _ => ?_, fun g2 => ?_⟩
      · conv => whnf
        exact Or.inl rfl
      have g2 : ¬ x < -20 := of_decide_eq_false g2
      conv => whnf
      have hw : IntKind.i64.wrap (0 - x) = -x := by rw [IntKind.wrap_i64]; omega
      rw [hw]
      refine ⟨⟨j + 1, by omega, ?_⟩, ⟨[], ⟨rfl, trivial, rfl⟩, rfl, eq_i64 ?_, rfl, rfl, eq_i64 ?_, trivial⟩, ?_⟩
      · rw [List.take_add_one, hxj]
        intro y hy
        rcases List.mem_append.1 hy with hy | hy
        · exact hjx y hy
        · have : y = x := by simpa using hy
          omega
      · rw [← hsn]
        rw [show (bif false then if -x < x then -x else x else if -x > x then -x else x) = ((x.natAbs : Nat) : Int) by show (if -x > x then -x else x) = _; split <;> omega, nadd, nwrapi (by omega)]
      · rw [nadd, nwrapi (by omega)]
      · show ys.length - (j + 1) < ys.length - j
        omega
    · have h3 : ys.length ≤ j := lt_f h3
      rw [List.take_of_length_le h3] at hjx
      conv => whnf
      exact ⟨⟨(), hjx⟩, [], ⟨rfl, trivial, rfl⟩, rfl, eq_i64 (by rw [List.take_of_length_le h3]), trivial⟩
  rintro ⟨⟨⟩, hx20⟩
  obtain ⟨k, hk⟩ : ∃ k, k = amt ys := ⟨_, rfl⟩
  conv => whnf
  rw [← hk]
  refine Or.inr ⟨{q : Unit // 2 ≤ ys.length ∧ ys.length ≤ 16 ∧ 1 ≤ k ∧ k ≤ 20}, fun _ => ⟨[(0, .o (.c (.val (.slice (some a) ys.length c)))), (3, .o (.c (.val (.int .i64 k))))], []⟩, ?_, ?_⟩
  · conv => whnf
    refine ⟨fun _ => ?_, fun g1 => ?_⟩
    · conv => whnf
      exact Or.inl rfl
    have g1 : 2 ≤ ys.length := lt_f g1
    conv => whnf
    refine ⟨fun _ => ?_, fun g2 => ?_⟩
    · conv => whnf
      exact Or.inl rfl
    have g2 : ys.length ≤ 16 := gt_f g2
    conv => whnf
    refine ⟨fun _ => ?_, fun g3 => ?_⟩
    · conv => whnf
      exact Or.inl rfl
    have g3 : 1 ≤ k := lt_f g3
    conv => whnf
    refine ⟨fun _ => ?_, fun g4 => ?_⟩
    · conv => whnf
      exact Or.inl rfl
    have g4 : k ≤ 20 := gt_f g4
    conv => whnf
    exact ⟨⟨(), g1, g2, g3, g4⟩, [], ⟨rfl, trivial, rfl⟩, rfl, rfl, trivial⟩
  rintro ⟨⟨⟩, h1, h2, h3, h4⟩
  have hb : ∀ (i : Nat) x, ys[i]? = some x → w0.cell? (a.add (i * 1)) = some (.int .i64 x) := fun i x h => (hcell i x h).2
  have hbnd : ∀ x ∈ ys, -9223372036854775808 ≤ x ∧ x < 9223372036854775808 := by
    intro x hx
    have := hx20 x hx
    omega
  conv => whnf
  refine (sCountW w0 (n := ys.length) (k := k) (by omega) (by omega) (by omega)).mono ?_
  rintro r1 _ ⟨rfl, hr1⟩
  have hk0 := hk.symm
  obtain ⟨hcv, hback⟩ := code_back hk0
  rcases hr1 with ⟨hc, rfl⟩ | ⟨hc, rfl⟩
  · conv => whnf
    refine (sPulseIndexW w0 hb (by omega) (by omega) h3 h4 hk0 hx20).mono ?_
    rintro _ _ ⟨rfl, ⟨_, y, rfl⟩ | ⟨hv, rfl⟩⟩
    · conv => whnf
      refine Or.inl ?_
      conv => whnf
      refine ⟨fun _ => ?_, fun h => absurd h (by decide)⟩
      conv => whnf
      exact Or.inl rfl
    · unfold vcap at hc
      omega
  have hv : vv ys.length k < 4294967296 := by
    unfold vcap at hc
    omega
  rw [vcap_vv hv]
  conv => whnf
  refine (sPulseIndexW w0 hb (by omega) (by omega) h3 h4 hk0 hx20).mono ?_
  rintro _ _ ⟨rfl, ⟨hc2, y, rfl⟩ | ⟨_, rfl⟩⟩
  · omega
  conv => whnf
  refine Or.inl ?_
  conv => whnf
  refine ⟨fun h => absurd h (by decide), fun _ => ?_⟩
  conv => whnf
  refine ⟨fun h => absurd h (by decide), fun _ => ?_⟩
  conv => whnf
  refine (iPulseIndexM w0 hb (by omega) (by omega) h3 h4 hk0 hv).mono ?_
  rintro _ _ ⟨rfl, rfl⟩
  conv => whnf
  refine (iPulseVectorW w0 (n := ys.length) (k := k) (i := codeOf ys k) (by omega) (by omega) h3 h4 hv hcv).mono ?_
  rintro _ _ ⟨rfl, rfl⟩
  rw [hback]
  conv => whnf
  refine ⟨fun _ => ?_, fun h => absurd h (by decide)⟩
  conv => whnf
  refine ⟨fun _ => ?_, fun h => absurd h (by decide)⟩
  conv => whnf
  refine ⟨fun _ => ?_, fun h => absurd rfl (ieq_f h)⟩
  conv => whnf
  refine ⟨fun _ => ?_, fun h => absurd (lt_f h) (by omega)⟩
  conv => whnf
  refine (numsV w0 hp (ys := ys) (by omega) hbnd).mono ?_
  rintro _ _ ⟨rfl, rfl⟩
  conv => whnf
  refine CallsA.lift (H0 := []) [] rfl trivial rfl (numsM w0 hp (ys := ys) hb (by omega) hbnd) ?_
  rintro _ _ ⟨rfl, rfl⟩
  conv => whnf
  refine ⟨fun _ => ?_, fun h => absurd h (by rw [BEq.rfl]; decide)⟩
  conv => whnf
  refine CallsA.lift (H0 := []) [] rfl trivial rfl (aliveW w0) ?_
  rintro _ _ ⟨rfl, rfl⟩
  conv => whnf
  exact Or.inl rfl
end Go.Proofs.YtkomikpfnogjcaaDoor
